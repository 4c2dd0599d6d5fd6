import JvmDerived
import JvmDerived.Pilot.@@N@@Statement
import JvmDerived.Pilot.@@N@@Code
set_option linter.unusedVariables false
set_option linter.unusedSimpArgs false
namespace Jvm.RoadKit
open Sem ClassFile Op Lib Jvm.Stand Jvm.Free Jvm.LawKit
section New
variable {p : Program} {l : Launch} {e : Env} {R : Room} {s : State} {m : MethodId} {args : Array Value} {below : List Frame} {meth : Method} {c : Code} {T : State} {locs : List Loc} {cells slots : Nat}
theorem retI (X : Stand p l e R s m args below meth c T locs cells slots) (hx : p.tables.exec = Jvm.exec) {pc : Nat} {Ls : Array Slot} {z : Int32} {rest : List Value} (hret : meth.sig.returnType = some .int) (hd : decode c.code pc = .ok (.ireturn, 1)) {fs : List Frame}
    (hl : ∀ (f : JFrame) (acts : List Action), f.method = m → f.locked = none → f.entered = [] → (doReturn e (T.setTop f) acts (some (.int z))).1 = T.setFrames fs) : Steps p.tables e below (T.setTop (mkF m pc Ls (.int z :: rest))) (T.setFrames fs) := by
  have hm' : T.vm.method? m = some meth := X.method'
  have hn : narrow .int (.int z) = .int z := rfl
  show Steps p.tables e below (T.setTop { method := m, pc := pc, locals := Ls, stack := _ :: rest, locked := none }) _
  jvm_step X.here [X.here.top, hx, hd, hm', hret, hn]
  first | (intro acts; rw [hl _ acts rfl rfl rfl]) | rw [hl _ _ rfl rfl rfl]
  exact Steps.refl _
end New
end Jvm.RoadKit
/- laws to paste: Road.backV, narrow_ch, Road.low_at, lo8_mask, Road.codOf (cut by pick.py; bodies as the Statement names them) -/
namespace Jvm.Pilot.@@N@@
namespace StrChars
open Jvm Sem ClassFile Op Lib Jvm.Stand Jvm.Free.XT Jvm.Free.ALB Jvm.Free.JM Jvm.Free
open Jvm.Lib.Cold (StaticIs)
/-- a char array whose places are chars -/
def Ch (a : Addr) (A : Cell) (U : State) : Prop := Arr .char a A U ∧ Typed .char A
theorem Ch.mv {a : Addr} {A : Cell} {U U' : State} (h : Ch a A U) (hal : U.vm.Alike U'.vm) (hh : U'.heap = U.heap) : Ch a A U' := ⟨h.1.mv hal hh, h.2⟩
theorem Ch.keep {a : Addr} {A : Cell} {U U' : State} (h : Ch a A U) (hal : U.vm.Alike U'.vm) (hk : U'.heap[a]? = some A) : Ch a A U' := ⟨h.1.keep hal hk, h.2⟩
/-- what place i of a char[]'s cell holds -/
def cv (A : Cell) (i : Nat) : Int32 := match A.slots[i]? with | some (.int x) => x | _ => 0
theorem Ch.get {a : Addr} {A : Cell} {U : State} (h : Ch a A U) {i : Nat} (hi : i < A.slots.size) : A.slots[i]? = some (.int (cv A i)) := by
  have e := Array.getElem?_eq_getElem hi
  have f := h.2 i _ e
  unfold cv; rw [e]
  generalize A.slots[i] = v at f
  cases v <;> simp [fits] at f ⊢
/-- the byte that i2b leaves of a char -/
def lo8 (x : Int32) : Int32 := x.toInt8.toInt32
theorem fits_lo8 (y : Int32) : fits .byte (.int (lo8 y)) = true := by
  have h1 := y.toInt8.le_toInt
  have h2 := y.toInt8.toInt_lt
  simp only [lo8, fits, Bool.and_eq_true, decide_eq_true_eq, Int32.le_iff_toInt_le, Int8.toInt_toInt32, show (-128 : Int32).toInt = -128 from by decide, show (127 : Int32).toInt = 127 from by decide]
  omega
/-- A' is A but that each place j of lo .. hi - 1 holds f j -/
def Laid (A A' : Cell) (lo hi : Nat) (f : Nat → Value) : Prop := A'.cls = A.cls ∧ A'.vm = A.vm ∧ A'.slots.size = A.slots.size ∧ ∀ i, A'.slots[i]? = if lo ≤ i ∧ i < hi then some (f i) else A.slots[i]?
theorem Laid.zero (A : Cell) (lo : Nat) (f : Nat → Value) : Laid A A lo (lo + 0) f := ⟨rfl, rfl, rfl, fun i => by rw [if_neg (by omega)]⟩
theorem Laid.step {A Ak : Cell} {lo k : Nat} {f : Nat → Value} {v : Value} (h : Laid A Ak lo k f) (hlo : lo ≤ k) (hk : k < Ak.slots.size) (hv : v = f k) : Laid A (Ak.setSlot k v) lo (k + 1) f := by
  refine ⟨h.1, h.2.1, by simpa [Cell.setSlot] using h.2.2.1, fun i => ?_⟩
  by_cases e : k = i
  · subst e; rw [Cell.slots_setSlot_self v hk, if_pos (by omega), hv]
  · rw [Cell.slots_setSlot_ne v e, h.2.2.2 i]
    by_cases q : lo ≤ i ∧ i < k
    · rw [if_pos q, if_pos (by omega)]
    · rw [if_neg q, if_neg (by omega)]
def U16 : String := "java/lang/StringUTF16"
namespace Cmp5
def yN : MethodName := ⟨"java/lang/StringUTF16", "compress", "([CI[BII)I"⟩
abbrev yB : ByteArray := jdk_52_method_21_code
theorem d0 : decode yB 0 = .ok (.iconst 0, 1) := by decide +kernel
theorem d1 : decode yB 1 = .ok (.istore 5, 2) := by decide +kernel
theorem d3 : decode yB 3 = .ok (.iload 5, 2) := by decide +kernel
theorem d5 : decode yB 5 = .ok (.iload 4, 2) := by decide +kernel
theorem d7 : decode yB 7 = .ok (.if_icmp (.ge) 37, 3) := by decide +kernel
theorem d10 : decode yB 10 = .ok (.aload_n 0, 1) := by decide +kernel
theorem d11 : decode yB 11 = .ok (.iload_n 1, 1) := by decide +kernel
theorem d12 : decode yB 12 = .ok (.caload, 1) := by decide +kernel
theorem d13 : decode yB 13 = .ok (.istore 6, 2) := by decide +kernel
theorem d15 : decode yB 15 = .ok (.iload 6, 2) := by decide +kernel
theorem d17 : decode yB 17 = .ok (.sipush 255, 3) := by decide +kernel
theorem d20 : decode yB 20 = .ok (.if_icmp (.le) 6, 3) := by decide +kernel
theorem d26 : decode yB 26 = .ok (.aload_n 2, 1) := by decide +kernel
theorem d27 : decode yB 27 = .ok (.iload_n 3, 1) := by decide +kernel
theorem d28 : decode yB 28 = .ok (.iload 6, 2) := by decide +kernel
theorem d30 : decode yB 30 = .ok (.i2b, 1) := by decide +kernel
theorem d31 : decode yB 31 = .ok (.bastore, 1) := by decide +kernel
theorem d32 : decode yB 32 = .ok (.iinc 1 1, 3) := by decide +kernel
theorem d35 : decode yB 35 = .ok (.iinc 3 1, 3) := by decide +kernel
theorem d38 : decode yB 38 = .ok (.iinc 5 1, 3) := by decide +kernel
theorem d41 : decode yB 41 = .ok (.goto (-38), 3) := by decide +kernel
theorem d44 : decode yB 44 = .ok (.iload 4, 2) := by decide +kernel
theorem d46 : decode yB 46 = .ok (.ireturn, 1) := by decide +kernel
def site : List Cond := []
def tab : Cond := tabOf yN yB 7 (some .int) site
def P (b : Addr) (A : Cell) (d : Addr) (B : Cell) (o q len : Nat) (args : Array Value) (s : State) : Prop := args = #[.ref b, .int (Int32.ofNat o), .ref d, .int (Int32.ofNat q), .int (Int32.ofNat len)] ∧ Ch b A s ∧ Arr .byte d B s ∧ b ≠ d ∧ o + len ≤ A.slots.size ∧ q + len ≤ B.slots.size ∧ ∀ i, i < len → ¬ 255 < cv A (o + i)
def E (b : Addr) (A : Cell) (d : Addr) (B : Cell) (o q len : Nat) (r : Option Value) (s u : State) : Prop := r = some (.int (Int32.ofNat len)) ∧ ∃ B', Put d B' s u ∧ Laid B B' q (q + len) (fun j => Value.int (lo8 (cv A (o + (j - q)))))
/-- no char of the range above 255: len; the places written hold each char's low byte -/
theorem law (l : Launch) (b : Addr) (A : Cell) (d : Addr) (B : Cell) (o q len : Nat) : Law l yN 5 5 0 0 yB 7 (some .int) site (P b A d B o q len) (E b A d B o q len) (copyLocs d q len) 0 0 := by
  refine Law.of_walk (plainFor_of_name (by decide +kernel)) (by decide +kernel) (by decide +kernel) (by decide) (fun _ _ h => by rw [h.1]; rfl) (fun _ U U' hal hh h => ⟨h.1, h.2.1.mv hal hh, h.2.2.1.mv hal hh, h.2.2.2⟩) (fun r U U' V V' h1 hal h2 h => ⟨h.1, h.2.elim fun B' q => ⟨B', q.1.mv h1 h2, q.2⟩⟩) ?_
  intro p e s m args below meth c s₁ X0 hexec hbytes hml hret hlk hnm hown hh0 W hP
  obtain ⟨rfl, hA, hB, hne, l1, l2, hp⟩ := hP
  have c1 : Steps p.tables e below (s₁.setTop (entryFrame m #[.ref b, .int (Int32.ofNat o), .ref d, .int (Int32.ofNat q), .int (Int32.ofNat len)] 7)) (s₁.setTop (mkF m 0 #[.val (.ref b), .val (.int (Int32.ofNat o)), .val (.ref d), .val (.int (Int32.ofNat q)), .val (.int (Int32.ofNat len)), .unset, .unset] [])) := entry rfl
  have hA0 := hA.1.mv X0.warmed.alike hh0
  have hB0 := hB.mv X0.warmed.alike hh0
  have a31 := hA.1.2.2.2
  have c2 : Steps p.tables e below (s₁.setTop (entryFrame m #[.ref b, .int (Int32.ofNat o), .ref d, .int (Int32.ofNat q), .int (Int32.ofNat len)] 7)) (s₁.setTop (mkF m 3 #[.val (.ref b), .val (.int (Int32.ofNat o)), .val (.ref d), .val (.int (Int32.ofNat q)), .val (.int (Int32.ofNat len)), .val (.int 0), .unset] [])) := c1.trans (by
    refine iconstV X0.here hexec rfl 0 (hb hbytes d0) (by decide) ?_
    refine XS.istore X0.here hexec rfl (hb hbytes d1) rfl rfl ?_
    exact Steps.refl _)
  have loop : ∀ (r i : Nat), i + r = len → ∀ (z : Slot), (z = .unset ∨ ∃ w, z = .val w ∧ w.category = 1) → ∀ (Tl : State) (Bk : Cell), Stand p l e { frames := 0, locals := 0, cells := 0, slots := 0 } s m #[.ref b, .int (Int32.ofNat o), .ref d, .int (Int32.ofNat q), .int (Int32.ofNat len)] below meth c Tl ([] ++ copyLocs d q i) 0 0 → Put d Bk s₁ Tl → Laid B Bk q (q + i) (fun j => Value.int (lo8 (cv A (o + (j - q))))) →
      Steps p.tables e below (s₁.setTop (entryFrame m #[.ref b, .int (Int32.ofNat o), .ref d, .int (Int32.ofNat q), .int (Int32.ofNat len)] 7)) (Tl.setTop (mkF m 3 #[.val (.ref b), .val (.int (Int32.ofNat (o + i))), .val (.ref d), .val (.int (Int32.ofNat (q + i))), .val (.int (Int32.ofNat len)), .val (.int (Int32.ofNat i)), z] [])) → ∃ (T' : State) (B' : Cell) (z' : Slot), Stand p l e { frames := 0, locals := 0, cells := 0, slots := 0 } s m #[.ref b, .int (Int32.ofNat o), .ref d, .int (Int32.ofNat q), .int (Int32.ofNat len)] below meth c T' ([] ++ copyLocs d q len) 0 0 ∧ Put d B' s₁ T' ∧ Laid B B' q (q + len) (fun j => Value.int (lo8 (cv A (o + (j - q))))) ∧
      Steps p.tables e below (s₁.setTop (entryFrame m #[.ref b, .int (Int32.ofNat o), .ref d, .int (Int32.ofNat q), .int (Int32.ofNat len)] 7)) (T'.setTop (mkF m 3 #[.val (.ref b), .val (.int (Int32.ofNat (o + len))), .val (.ref d), .val (.int (Int32.ofNat (q + len))), .val (.int (Int32.ofNat len)), .val (.int (Int32.ofNat len)), z'] [])) := by
    intro r
    induction r with
    | zero =>
      intro i hi z hz Tl Bk Xl pl fl cl
      have hil : i = len := by omega
      rw [hil] at Xl fl cl
      exact ⟨Tl, Bk, z, Xl, pl, fl, cl⟩
    | succ r ih =>
      intro i hi z hz Tl Bk Xl pl fl cl
      have all := X0.warmed.alike.symm.trans Xl.warmed.alike
      have hAl := hA0.keep all (pl.other hne hA0.1)
      have hBk := hB0.like all pl.1 fl.1 fl.2.1 fl.2.2.1
      have hlt : q + i < Bk.slots.size := by rw [fl.2.2.1]; omega
      have c3 : Steps p.tables e below (s₁.setTop (entryFrame m #[.ref b, .int (Int32.ofNat o), .ref d, .int (Int32.ofNat q), .int (Int32.ofNat len)] 7)) (Tl.setTop (mkF m 12 #[.val (.ref b), .val (.int (Int32.ofNat (o + i))), .val (.ref d), .val (.int (Int32.ofNat (q + i))), .val (.int (Int32.ofNat len)), .val (.int (Int32.ofNat i)), z] [.int (Int32.ofNat (o + i)), .ref b])) := cl.trans (by
        refine XS.iload Xl.here hexec rfl (hb hbytes d3) rfl ?_
        refine XS.iload Xl.here hexec rfl (hb hbytes d5) rfl ?_
        refine XS.icmpNo Xl.here hexec rfl (hb hbytes d7) rfl (ii_ge_f (lt32 (by omega) (by omega))) ?_
        refine XS.aloadN Xl.here hexec rfl (hb hbytes d10) rfl rfl ?_
        refine XS.iloadN Xl.here hexec rfl (hb hbytes d11) rfl ?_
        exact Steps.refl _)
      have c4 : Steps p.tables e below (s₁.setTop (entryFrame m #[.ref b, .int (Int32.ofNat o), .ref d, .int (Int32.ofNat q), .int (Int32.ofNat len)] 7)) (Tl.setTop (mkF m 13 #[.val (.ref b), .val (.int (Int32.ofNat (o + i))), .val (.ref d), .val (.int (Int32.ofNat (q + i))), .val (.int (Int32.ofNat len)), .val (.int (Int32.ofNat i)), z] [.int (cv A (o + i))])) := c3.trans (by
        refine Xl.aget hexec hAl rfl (hA.get (i := o + i) (by omega)) rfl rfl (hb hbytes d12) ?_
        exact Steps.refl _)
      have c5 : Steps p.tables e below (s₁.setTop (entryFrame m #[.ref b, .int (Int32.ofNat o), .ref d, .int (Int32.ofNat q), .int (Int32.ofNat len)] 7)) (Tl.setTop (mkF m 15 #[.val (.ref b), .val (.int (Int32.ofNat (o + i))), .val (.ref d), .val (.int (Int32.ofNat (q + i))), .val (.int (Int32.ofNat len)), .val (.int (Int32.ofNat i)), .val (.int (cv A (o + i)))] [])) := c4.trans (by
        refine XS.istoreS Xl.here hexec rfl (hb hbytes d13) rfl rfl hz ?_
        exact Steps.refl _)
      have c6 : Steps p.tables e below (s₁.setTop (entryFrame m #[.ref b, .int (Int32.ofNat o), .ref d, .int (Int32.ofNat q), .int (Int32.ofNat len)] 7)) (Tl.setTop (mkF m 31 #[.val (.ref b), .val (.int (Int32.ofNat (o + i))), .val (.ref d), .val (.int (Int32.ofNat (q + i))), .val (.int (Int32.ofNat len)), .val (.int (Int32.ofNat i)), .val (.int (cv A (o + i)))] [.int (lo8 (cv A (o + i))), .int (Int32.ofNat (q + i)), .ref d])) := c5.trans (by
        refine XS.iload Xl.here hexec rfl (hb hbytes d15) rfl ?_
        refine sipushV Xl.here hexec rfl 255 (hb hbytes d17) (by decide) ?_
        refine XS.icmpYes Xl.here hexec rfl (pc0 := 20) rfl (hb hbytes d20) rfl (ii_le_t (hp i (by omega))) (by decide) rfl ?_
        refine XS.aloadN Xl.here hexec rfl (hb hbytes d26) rfl rfl ?_
        refine XS.iloadN Xl.here hexec rfl (hb hbytes d27) rfl ?_
        refine XS.iload Xl.here hexec rfl (hb hbytes d28) rfl ?_
        refine i2b Xl.here hexec rfl (hb hbytes d30) rfl ?_
        exact Steps.refl _)
      obtain ⟨T7, X7, p7, st7⟩ := Xl.aput hexec hBk rfl hlt rfl (fits_lo8 (cv A (o + i))) (g := (mkF m 31 #[.val (.ref b), .val (.int (Int32.ofNat (o + i))), .val (.ref d), .val (.int (Int32.ofNat (q + i))), .val (.int (Int32.ofNat len)), .val (.int (Int32.ofNat i)), .val (.int (cv A (o + i)))] [.int (lo8 (cv A (o + i))), .int (Int32.ofNat (q + i)), .ref d])) rfl (rest := []) rfl (hb hbytes d31)
      have c8 : Steps p.tables e below (s₁.setTop (entryFrame m #[.ref b, .int (Int32.ofNat o), .ref d, .int (Int32.ofNat q), .int (Int32.ofNat len)] 7)) (T7.setTop (mkF m 32 #[.val (.ref b), .val (.int (Int32.ofNat (o + i))), .val (.ref d), .val (.int (Int32.ofNat (q + i))), .val (.int (Int32.ofNat len)), .val (.int (Int32.ofNat i)), .val (.int (cv A (o + i)))] [])) := c6.trans (st7 _ (Steps.refl _))
      have c9 : Steps p.tables e below (s₁.setTop (entryFrame m #[.ref b, .int (Int32.ofNat o), .ref d, .int (Int32.ofNat q), .int (Int32.ofNat len)] 7)) (T7.setTop (mkF m 3 #[.val (.ref b), .val (.int (Int32.ofNat (o + i) + 1)), .val (.ref d), .val (.int (Int32.ofNat (q + i) + 1)), .val (.int (Int32.ofNat len)), .val (.int (Int32.ofNat i + 1)), .val (.int (cv A (o + i)))] [])) := c8.trans (by
        refine iincV X7.here hexec rfl 1 (hb hbytes d32) (by decide) rfl rfl ?_
        refine iincV X7.here hexec rfl 1 (hb hbytes d35) (by decide) rfl rfl ?_
        refine iincV X7.here hexec rfl 1 (hb hbytes d38) (by decide) rfl rfl ?_
        refine XS.goto X7.here hexec rfl (pc0 := 41) rfl (hb hbytes d41) (by decide) rfl ?_
        exact Steps.refl _)
      have c10 : Steps p.tables e below (s₁.setTop (entryFrame m #[.ref b, .int (Int32.ofNat o), .ref d, .int (Int32.ofNat q), .int (Int32.ofNat len)] 7)) (T7.setTop (mkF m 3 #[.val (.ref b), .val (.int (Int32.ofNat (o + (i + 1)))), .val (.ref d), .val (.int (Int32.ofNat (q + (i + 1)))), .val (.int (Int32.ofNat len)), .val (.int (Int32.ofNat (i + 1))), .val (.int (cv A (o + i)))] [])) := by
        have := c9
        rw [succ32, succ32, succ32] at this
        exact this
      exact ih (i + 1) (by omega) _ (Or.inr ⟨_, rfl, rfl⟩) T7 _ (by rw [copyLocs_step, ← List.append_assoc]; exact X7) (pl.trans p7) (fl.step (by omega) hlt (by simp)) c10
  obtain ⟨T9, B9, z9, X9, p9, f9, g9⟩ := loop len 0 (by omega) .unset (Or.inl rfl) s₁ B (by simpa [copyLocs] using X0) ⟨hB0.1, fun _ _ => rfl, rfl⟩ (Laid.zero _ _ _) c2
  have c11 : Steps p.tables e below (s₁.setTop (entryFrame m #[.ref b, .int (Int32.ofNat o), .ref d, .int (Int32.ofNat q), .int (Int32.ofNat len)] 7)) (T9.setTop (mkF m 46 #[.val (.ref b), .val (.int (Int32.ofNat (o + len))), .val (.ref d), .val (.int (Int32.ofNat (q + len))), .val (.int (Int32.ofNat len)), .val (.int (Int32.ofNat len)), z9] [.int (Int32.ofNat len)])) := g9.trans (by
    refine XS.iload X9.here hexec rfl (hb hbytes d3) rfl ?_
    refine XS.iload X9.here hexec rfl (hb hbytes d5) rfl ?_
    refine XS.icmpYes X9.here hexec rfl (pc0 := 7) rfl (hb hbytes d7) rfl (ii_ge_t (nlt32 (by omega) (Nat.le_refl _))) (by decide) rfl ?_
    refine XS.iload X9.here hexec rfl (hb hbytes d44) rfl ?_
    exact Steps.refl _)
  exact ⟨T9, some (.int (Int32.ofNat len)), _, _, _, X9, by simp, rfl, rfl, (fun h => by cases h), ⟨rfl, B9, p9.from hh0, f9⟩, fun fs hl => c11.trans (X9.ireturnOut hexec hret rfl (Or.inl rfl) (hb hbytes d46) hl)⟩
end Cmp5
namespace Cmp3
def yN : MethodName := ⟨"java/lang/StringUTF16", "compress", "([CII)[B"⟩
abbrev yB : ByteArray := jdk_52_method_16_code
theorem d0 : decode yB 0 = .ok (.iload_n 2, 1) := by decide +kernel
theorem d1 : decode yB 1 = .ok (.newarray .byte, 2) := by decide +kernel
theorem d3 : decode yB 3 = .ok (.astore_n 3, 1) := by decide +kernel
theorem d4 : decode yB 4 = .ok (.aload_n 0, 1) := by decide +kernel
theorem d5 : decode yB 5 = .ok (.iload_n 1, 1) := by decide +kernel
theorem d6 : decode yB 6 = .ok (.aload_n 3, 1) := by decide +kernel
theorem d7 : decode yB 7 = .ok (.iconst 0, 1) := by decide +kernel
theorem d8 : decode yB 8 = .ok (.iload_n 2, 1) := by decide +kernel
theorem d9 : decode yB 9 = .ok (.invokestatic 115, 3) := by decide +kernel
theorem d12 : decode yB 12 = .ok (.istore 4, 2) := by decide +kernel
theorem d14 : decode yB 14 = .ok (.iload 4, 2) := by decide +kernel
theorem d16 : decode yB 16 = .ok (.iload_n 2, 1) := by decide +kernel
theorem d17 : decode yB 17 = .ok (.if_icmp (.eq) 40, 3) := by decide +kernel
theorem d57 : decode yB 57 = .ok (.aload_n 3, 1) := by decide +kernel
theorem d58 : decode yB 58 = .ok (.areturn, 1) := by decide +kernel
def site : List Cond := [.arrayClass .byte, Cmp5.tab] ++ staticW U16 115 Cmp5.yN
def tab : Cond := tabOf yN yB 6 (some (.array .byte)) site
def P (b : Addr) (A : Cell) (o len : Nat) (args : Array Value) (s : State) : Prop := args = #[.ref b, .int (Int32.ofNat o), .int (Int32.ofNat len)] ∧ Ch b A s ∧ o + len ≤ A.slots.size ∧ len ≤ 536870912 ∧ ∀ i, i < len → ¬ 255 < cv A (o + i)
def E (b : Addr) (A : Cell) (o len : Nat) (r : Option Value) (s u : State) : Prop := NewArr .byte "[B" len (fun j => .int (lo8 (cv A (o + j)))) r s u ∧ u.heap.size = s.heap.size + 1
/-- no char of the range above 255: a new byte[] of their low bytes -/
theorem law (l : Launch) (b : Addr) (A : Cell) (o len : Nat) : Law l yN 3 3 1 18 yB 6 (some (.array .byte)) site (P b A o len) (E b A o len) [] 1 len := by
  refine Law.of_walk (plainFor_of_name (by decide +kernel)) (by decide +kernel) (by decide +kernel) (by decide) (fun _ _ h => by rw [h.1]; rfl) (fun _ U U' hal hh h => ⟨h.1, h.2.1.mv hal hh, h.2.2⟩) (fun r U U' V V' h1 hal h2 h => ⟨NewArr.mv r U U' V V' h1 hal h2 h.1, by rw [h1, h2]; exact h.2⟩) ?_
  intro p e s m args below meth c s₁ X0 hexec hbytes hml hret hlk hnm hown hh0 W hP
  obtain ⟨rfl, hA, l1, l2, hp⟩ := hP
  have a31 := hA.1.2.2.2
  have c1 : Steps p.tables e below (s₁.setTop (entryFrame m #[.ref b, .int (Int32.ofNat o), .int (Int32.ofNat len)] 6)) (s₁.setTop (mkF m 0 #[.val (.ref b), .val (.int (Int32.ofNat o)), .val (.int (Int32.ofNat len)), .unset, .unset, .unset] [])) := entry rfl
  have c2 : Steps p.tables e below (s₁.setTop (entryFrame m #[.ref b, .int (Int32.ofNat o), .int (Int32.ofNat len)] 6)) (s₁.setTop (mkF m 1 #[.val (.ref b), .val (.int (Int32.ofNat o)), .val (.int (Int32.ofNat len)), .unset, .unset, .unset] [.int (Int32.ofNat len)])) := c1.trans (by
    refine XS.iloadN X0.here hexec rfl (hb hbytes d0) rfl ?_
    exact Steps.refl _)
  obtain ⟨T3, B3, X3, ba3, bs3, bv3, bh3, bf3, st3⟩ := X0.anew hexec (atype := .byte) (wk W (.arrayClass .byte)) rfl (by show len * 1 ≤ _; omega) (by omega) (g := (mkF m 1 #[.val (.ref b), .val (.int (Int32.ofNat o)), .val (.int (Int32.ofNat len)), .unset, .unset, .unset] [.int (Int32.ofNat len)])) rfl (hb hbytes d1) (rest := []) rfl (Nat.le_refl _) (by show 0 + len ≤ len; omega)
  rw [hh0] at ba3 st3
  have kp3 : XT.Kept s T3 := (XT.Kept.of_eq hh0).push bh3
  have hA3 := hA.keep X3.warmed.alike (kp3 _ _ hA.1.1)
  have hne : b ≠ s.heap.size := hA.1.ne
  have c4 : Steps p.tables e below (s₁.setTop (entryFrame m #[.ref b, .int (Int32.ofNat o), .int (Int32.ofNat len)] 6)) (T3.setTop (mkF m 3 #[.val (.ref b), .val (.int (Int32.ofNat o)), .val (.int (Int32.ofNat len)), .unset, .unset, .unset] [.ref s.heap.size])) := c2.trans (st3 _ (Steps.refl _))
  have c5 : Steps p.tables e below (s₁.setTop (entryFrame m #[.ref b, .int (Int32.ofNat o), .int (Int32.ofNat len)] 6)) (T3.setTop (mkF m 9 #[.val (.ref b), .val (.int (Int32.ofNat o)), .val (.int (Int32.ofNat len)), .val (.ref s.heap.size), .unset, .unset] [.int (Int32.ofNat len), .int 0, .ref s.heap.size, .int (Int32.ofNat o), .ref b])) := c4.trans (by
    refine XS.astoreN X3.here hexec rfl (hb hbytes d3) rfl rfl rfl ?_
    refine XS.aloadN X3.here hexec rfl (hb hbytes d4) rfl rfl ?_
    refine XS.iloadN X3.here hexec rfl (hb hbytes d5) rfl ?_
    refine XS.aloadN X3.here hexec rfl (hb hbytes d6) rfl rfl ?_
    refine iconstV X3.here hexec rfl 0 (hb hbytes d7) (by decide) ?_
    refine XS.iloadN X3.here hexec rfl (hb hbytes d8) rfl ?_
    exact Steps.refl _)
  obtain ⟨v6, T6, X6, E6, g6⟩ := X3.callS hexec (Cmp5.law l b A s.heap.size B3 o 0 len) hown (wks W (staticW U16 115 Cmp5.yN)) (wk W Cmp5.tab) (W := 0) (Nat.le_of_ble_eq_true rfl) (Nat.le_of_ble_eq_true rfl) (Nat.le_refl _) (by show 0 + len + 0 ≤ len; omega) (g := (mkF m 9 #[.val (.ref b), .val (.int (Int32.ofNat o)), .val (.int (Int32.ofNat len)), .val (.ref s.heap.size), .unset, .unset] [.int (Int32.ofNat len), .int (Int32.ofNat 0), .ref s.heap.size, .int (Int32.ofNat o), .ref b])) rfl (by rw [hml]; rfl) c5 (argsL := [.ref b, .int (Int32.ofNat o), .ref s.heap.size, .int (Int32.ofNat 0), .int (Int32.ofNat len)]) (rest := []) rfl rfl (by show 2 * 0 + 0 ≤ _; decide) (hb hbytes d9) (⟨rfl, hA3, ba3, hne, l1, by rw [bs3]; simp, hp⟩)
  obtain ⟨rfl, B6, p6, f6⟩ := E6
  have c7 : Steps p.tables e below (s₁.setTop (entryFrame m #[.ref b, .int (Int32.ofNat o), .int (Int32.ofNat len)] 6)) (T6.setTop (mkF m 12 #[.val (.ref b), .val (.int (Int32.ofNat o)), .val (.int (Int32.ofNat len)), .val (.ref s.heap.size), .unset, .unset] [.int (Int32.ofNat len)])) := g6
  have c8 : Steps p.tables e below (s₁.setTop (entryFrame m #[.ref b, .int (Int32.ofNat o), .int (Int32.ofNat len)] 6)) (T6.setTop (mkF m 58 #[.val (.ref b), .val (.int (Int32.ofNat o)), .val (.int (Int32.ofNat len)), .val (.ref s.heap.size), .val (.int (Int32.ofNat len)), .unset] [.ref s.heap.size])) := c7.trans (by
    refine XS.istore X6.here hexec rfl (hb hbytes d12) rfl rfl ?_
    refine XS.iload X6.here hexec rfl (hb hbytes d14) rfl ?_
    refine XS.iloadN X6.here hexec rfl (hb hbytes d16) rfl ?_
    refine XS.icmpYes X6.here hexec rfl (pc0 := 17) rfl (hb hbytes d17) rfl (ii_eq_t rfl) (by decide) rfl ?_
    refine XS.aloadN X6.here hexec rfl (hb hbytes d57) rfl rfl ?_
    exact Steps.refl _)
  have X8 := X6.wide (L' := []) (cells' := 1) (slots' := len) (fun x hx hlt => by
    simp only [List.nil_append, copyLocs, List.mem_map, List.mem_range] at hx
    obtain ⟨i, -, rfl⟩ := hx
    exact absurd hlt (Nat.lt_irrefl _)) (Nat.le_refl _) (by omega)
  exact ⟨T6, some (.ref s.heap.size), _, _, _, X8, rfl, rfl, rfl, (fun h => by cases h), ⟨⟨rfl, B6, ba3.like (X3.warmed.alike.symm.trans X6.warmed.alike) p6.1 f6.1 f6.2.1 f6.2.2.1, f6.2.1.trans bv3, by rw [X6.warmed.alike.findClass, f6.1]; exact bf3, by rw [f6.2.2.1, bs3]; simp, fun j hj => by rw [f6.2.2.2 j, if_pos (by omega)]; rfl, kp3.put p6 (Nat.le_refl _)⟩, by rw [p6.2.2, bh3, hh0]; simp⟩, fun fs hl => c8.trans (X8.areturnOut hexec rfl hret rfl (hb hbytes d58) hl)⟩
end Cmp3
namespace CodL
def yN : MethodName := ⟨"java/lang/StringUTF16", "coderFromArrayLen", "([BI)B"⟩
abbrev yB : ByteArray := jdk_52_method_15_code
theorem d0 : decode yB 0 = .ok (.iload_n 1, 1) := by decide +kernel
theorem d1 : decode yB 1 = .ok (.aload_n 0, 1) := by decide +kernel
theorem d2 : decode yB 2 = .ok (.arraylength, 1) := by decide +kernel
theorem d3 : decode yB 3 = .ok (.isub, 1) := by decide +kernel
theorem d4 : decode yB 4 = .ok (.bipush 31, 2) := by decide +kernel
theorem d6 : decode yB 6 = .ok (.iushr, 1) := by decide +kernel
theorem d7 : decode yB 7 = .ok (.i2b, 1) := by decide +kernel
theorem d8 : decode yB 8 = .ok (.ireturn, 1) := by decide +kernel
def site : List Cond := []
def tab : Cond := tabOf yN yB 2 (some .byte) site
def P (d : Addr) (B : Cell) (args : Array Value) (s : State) : Prop := args = #[.ref d, .int (Int32.ofNat B.slots.size)] ∧ Arr .byte d B s
def E (r : Option Value) (s u : State) : Prop := XT.PureE (some (.int 0)) r s u
/-- an array as long as the number of chars: LATIN1 -/
theorem law (l : Launch) (d : Addr) (B : Cell) : Law l yN 2 2 0 0 yB 2 (some .byte) site (P d B) E [] 0 0 := by
  refine Law.of_walk (plainFor_of_name (by decide +kernel)) (by decide +kernel) (by decide +kernel) (by decide) (fun _ _ h => by rw [h.1]; rfl) (fun _ U U' hal hh h => ⟨h.1, h.2.mv hal hh⟩) (fun r U U' V V' h1 hal h2 h => XT.PureE.mv r U U' V V' h1 hal h2 h) ?_
  intro p e s m args below meth c s₁ X0 hexec hbytes hml hret hlk hnm hown hh0 W hP
  obtain ⟨rfl, hB⟩ := hP
  have hB0 := hB.mv X0.warmed.alike hh0
  have c1 : Steps p.tables e below (s₁.setTop (entryFrame m #[.ref d, .int (Int32.ofNat B.slots.size)] 2)) (s₁.setTop (mkF m 0 #[.val (.ref d), .val (.int (Int32.ofNat B.slots.size))] [])) := entry rfl
  have c2 : Steps p.tables e below (s₁.setTop (entryFrame m #[.ref d, .int (Int32.ofNat B.slots.size)] 2)) (s₁.setTop (mkF m 2 #[.val (.ref d), .val (.int (Int32.ofNat B.slots.size))] [.ref d, .int (Int32.ofNat B.slots.size)])) := c1.trans (by
    refine XS.iloadN X0.here hexec rfl (hb hbytes d0) rfl ?_
    refine XS.aloadN X0.here hexec rfl (hb hbytes d1) rfl rfl ?_
    exact Steps.refl _)
  have c3 : Steps p.tables e below (s₁.setTop (entryFrame m #[.ref d, .int (Int32.ofNat B.slots.size)] 2)) (s₁.setTop (mkF m 8 #[.val (.ref d), .val (.int (Int32.ofNat B.slots.size))] [.int (lo8 (ushr (Int32.ofNat B.slots.size - Int32.ofNat B.slots.size) 31))])) := c2.trans (by
    refine X0.alen hexec hB0 rfl rfl (hb hbytes d2) ?_
    refine XS.isub X0.here hexec rfl (hb hbytes d3) rfl ?_
    refine bipushV X0.here hexec rfl 31 (hb hbytes d4) (by decide) ?_
    refine iushr X0.here hexec rfl (hb hbytes d6) rfl ?_
    refine i2b X0.here hexec rfl (hb hbytes d7) rfl ?_
    exact Steps.refl _)
  have e0 : lo8 (ushr (Int32.ofNat B.slots.size - Int32.ofNat B.slots.size) 31) = 0 := by rw [Int32.sub_self]; decide
  rw [e0] at c3
  exact ⟨s₁, some (.int 0), _, _, _, X0, rfl, rfl, rfl, (fun h => by cases h), ⟨rfl, hh0⟩, fun fs hl => c3.trans (X0.ireturnOut hexec hret rfl (Or.inr (Or.inr (Or.inl rfl))) (hb hbytes d8) hl)⟩
end CodL
/-- the String at a is Latin-1 over a new byte[] (the heap's one new cell): the low bytes of the len chars of A from o on; every cell but a is kept -/
def Got (a : Addr) (D : Cell) (fV fC : Field) (A : Cell) (o len : Nat) (r : Option Value) (s u : State) : Prop := r = none ∧ ∃ D' V : Cell, Blank "java/lang/String" a D' u ∧ Same D D' [fV.slot, fC.slot] ∧ D'.slots[fV.slot]? = some (.ref s.heap.size) ∧ D'.slots[fC.slot]? = some (.int 0) ∧ Arr .byte s.heap.size V u ∧ V.vm = .none ∧ u.vm.findClass "[B" = some V.cls ∧ V.slots.size = len ∧ (∀ j, j < len → V.slots[j]? = some (.int (lo8 (cv A (o + j))))) ∧ (∀ (y : Addr) (c : Cell), y ≠ a → s.heap[y]? = some c → u.heap[y]? = some c) ∧ u.heap.size = s.heap.size + 1
theorem Got.mv {a : Addr} {D A : Cell} {fV fC : Field} {o len : Nat} : ∀ r (U U' V V' : State), U'.heap = U.heap → V.vm.Alike V'.vm → V'.heap = V.heap → Got a D fV fC A o len r U V → Got a D fV fC A o len r U' V' :=
  fun r U U' V V' h1 hal h2 ⟨e0, D', X, a1, a2, a3, a4, a5, a6, a7, a8, a9, a10, a11⟩ => ⟨e0, D', X, a1.mv hal h2, a2, by rw [h1]; exact a3, a4, by rw [h1]; exact a5.mv hal h2, a6, by rw [hal.findClass]; exact a7, a8, a9, by rw [h1, h2]; exact a10, by rw [h1, h2]; exact a11⟩
namespace New4
def yN : MethodName := ⟨"java/lang/String", "<init>", "([CIILjava/lang/Void;)V"⟩
abbrev yB : ByteArray := jdk_42_method_149_code
theorem d0 : decode yB 0 = .ok (.aload_n 0, 1) := by decide +kernel
theorem d1 : decode yB 1 = .ok (.invokespecial 1, 3) := by decide +kernel
theorem d4 : decode yB 4 = .ok (.iload_n 3, 1) := by decide +kernel
theorem d5 : decode yB 5 = .ok (.ifCond (.ne) 22, 3) := by decide +kernel
theorem d27 : decode yB 27 = .ok (.getstatic 38, 3) := by decide +kernel
theorem d30 : decode yB 30 = .ok (.ifCond (.eq) 28, 3) := by decide +kernel
theorem d33 : decode yB 33 = .ok (.aload_n 1, 1) := by decide +kernel
theorem d34 : decode yB 34 = .ok (.iload_n 2, 1) := by decide +kernel
theorem d35 : decode yB 35 = .ok (.iload_n 3, 1) := by decide +kernel
theorem d36 : decode yB 36 = .ok (.invokestatic 177, 3) := by decide +kernel
theorem d39 : decode yB 39 = .ok (.astore 5, 2) := by decide +kernel
theorem d41 : decode yB 41 = .ok (.aload_n 0, 1) := by decide +kernel
theorem d42 : decode yB 42 = .ok (.aload 5, 2) := by decide +kernel
theorem d44 : decode yB 44 = .ok (.iload_n 3, 1) := by decide +kernel
theorem d45 : decode yB 45 = .ok (.invokestatic 47, 3) := by decide +kernel
theorem d48 : decode yB 48 = .ok (.putfield 15, 3) := by decide +kernel
theorem d51 : decode yB 51 = .ok (.aload_n 0, 1) := by decide +kernel
theorem d52 : decode yB 52 = .ok (.aload 5, 2) := by decide +kernel
theorem d54 : decode yB 54 = .ok (.putfield 9, 3) := by decide +kernel
theorem d57 : decode yB 57 = .ok (.return_, 1) := by decide +kernel
def site : List Cond := [.fieldLink "java/lang/String" 38 "java/lang/String" "COMPACT_STRINGS" "Z", Cmp3.tab, CodL.tab, .laysFinal "java/lang/String" "java/lang/String" "value" "[B", .fieldLink "java/lang/String" 9 "java/lang/String" "value" "[B", .laysFinal "java/lang/String" "java/lang/String" "coder" "B", .fieldLink "java/lang/String" 15 "java/lang/String" "coder" "B"] ++ objW "java/lang/String" 1 ++ staticW "java/lang/String" 177 Cmp3.yN ++ staticW "java/lang/String" 47 CodL.yN
def tab : Cond := tabOf yN yB 6 none site
def P (a : Addr) (D : Cell) (fV fC : Field) (b : Addr) (A : Cell) (z : Int32) (o len : Nat) (args : Array Value) (s : State) : Prop := args = #[.ref a, .ref b, .int (Int32.ofNat o), .int (Int32.ofNat len), .null] ∧ Blank "java/lang/String" a D s ∧ Found "java/lang/String" "value" "[B" fV s ∧ Found "java/lang/String" "coder" "B" fC s ∧ Ch b A s ∧ StaticIs s "java/lang/String" "COMPACT_STRINGS" "Z" (.int z) ∧ ¬ z = 0 ∧ 0 < len ∧ o + len ≤ A.slots.size ∧ len ≤ 536870912 ∧ ∀ i, i < len → ¬ 255 < cv A (o + i)
def E (a : Addr) (D : Cell) (fV fC : Field) (A : Cell) (o len : Nat) (r : Option Value) (s u : State) : Prop := Got a D fV fC A o len r s u
/-- len > 0, no char of the range above 255: a Latin-1 String of their low bytes -/
theorem law (l : Launch) (a : Addr) (D : Cell) (fV fC : Field) (b : Addr) (A : Cell) (z : Int32) (o len : Nat) : Law l yN 5 4 2 35 yB 6 none site (P a D fV fC b A z o len) (E a D fV fC A o len) [⟨a, fC.slot⟩, ⟨a, fV.slot⟩] 1 len := by
  refine Law.of_walk (plainFor_of_name (by decide +kernel)) (by decide +kernel) (by decide +kernel) (by decide) (fun _ _ h => by rw [h.1]; rfl) (fun _ U U' hal hh h => ⟨h.1, h.2.1.mv hal hh, h.2.2.1.al hal, h.2.2.2.1.al hal, h.2.2.2.2.1.mv hal hh, h.2.2.2.2.2.1.there hal hh, h.2.2.2.2.2.2⟩) (fun r U U' V V' h1 hal h2 h => Got.mv r U U' V V' h1 hal h2 h) ?_
  intro p e s m args below meth c s₁ X0 hexec hbytes hml hret hlk hnm hown hh0 W hP
  obtain ⟨rfl, hB, f1, f2, hA, s1, hz, l0, l1, l2, hp⟩ := hP
  have a31 := hA.1.2.2.2
  have c1 : Steps p.tables e below (s₁.setTop (entryFrame m #[.ref a, .ref b, .int (Int32.ofNat o), .int (Int32.ofNat len), .null] 6)) (s₁.setTop (mkF m 0 #[.val (.ref a), .val (.ref b), .val (.int (Int32.ofNat o)), .val (.int (Int32.ofNat len)), .val .null, .unset] [])) := entry rfl
  have c2 : Steps p.tables e below (s₁.setTop (entryFrame m #[.ref a, .ref b, .int (Int32.ofNat o), .int (Int32.ofNat len), .null] 6)) (s₁.setTop (mkF m 1 #[.val (.ref a), .val (.ref b), .val (.int (Int32.ofNat o)), .val (.int (Int32.ofNat len)), .val .null, .unset] [.ref a])) := c1.trans (by
    refine XS.aloadN X0.here hexec rfl (hb hbytes d0) rfl rfl ?_
    exact Steps.refl _)
  obtain ⟨T3, X3, q3, st3⟩ := X0.oinit hexec hown (wks W (objW "java/lang/String" 1)) (g := (mkF m 1 #[.val (.ref a), .val (.ref b), .val (.int (Int32.ofNat o)), .val (.int (Int32.ofNat len)), .val .null, .unset] [.ref a])) rfl (by rw [hml]; rfl) (rest := []) rfl (hb hbytes d1) (W := 0) (by show 2 * 0 + 0 ≤ _; decide) (Nat.le_of_ble_eq_true rfl) (Nat.le_of_ble_eq_true rfl)
  have hh3 := q3.trans hh0
  have c4 : Steps p.tables e below (s₁.setTop (entryFrame m #[.ref a, .ref b, .int (Int32.ofNat o), .int (Int32.ofNat len), .null] 6)) (T3.setTop (mkF m 27 #[.val (.ref a), .val (.ref b), .val (.int (Int32.ofNat o)), .val (.int (Int32.ofNat len)), .val .null, .unset] [])) := (c2.trans (st3 _ (Steps.refl _))).trans (by
    refine XS.iloadN X3.here hexec rfl (hb hbytes d4) rfl ?_
    refine XS.ifYes X3.here hexec rfl (pc0 := 5) rfl (hb hbytes d5) rfl (i0_ne_t (nz32 (by omega) l0)) (by decide) rfl ?_
    exact Steps.refl _)
  obtain ⟨T5, X5, q5, st5⟩ := X3.sget hexec hown (wk W (.fieldLink "java/lang/String" 38 "java/lang/String" "COMPACT_STRINGS" "Z")) s1 (fun _ _ h => by rw [hh3]; exact h) (g := (mkF m 27 #[.val (.ref a), .val (.ref b), .val (.int (Int32.ofNat o)), .val (.int (Int32.ofNat len)), .val .null, .unset] [])) rfl (hb hbytes d27)
  have hh5 := q5.trans hh3
  have c6 : Steps p.tables e below (s₁.setTop (entryFrame m #[.ref a, .ref b, .int (Int32.ofNat o), .int (Int32.ofNat len), .null] 6)) (T5.setTop (mkF m 30 #[.val (.ref a), .val (.ref b), .val (.int (Int32.ofNat o)), .val (.int (Int32.ofNat len)), .val .null, .unset] [.int z])) := c4.trans (st5 _ (Steps.refl _))
  have c7 : Steps p.tables e below (s₁.setTop (entryFrame m #[.ref a, .ref b, .int (Int32.ofNat o), .int (Int32.ofNat len), .null] 6)) (T5.setTop (mkF m 36 #[.val (.ref a), .val (.ref b), .val (.int (Int32.ofNat o)), .val (.int (Int32.ofNat len)), .val .null, .unset] [.int (Int32.ofNat len), .int (Int32.ofNat o), .ref b])) := c6.trans (by
    refine XS.ifNo X5.here hexec rfl (hb hbytes d30) rfl (i0_eq_f hz) ?_
    refine XS.aloadN X5.here hexec rfl (hb hbytes d33) rfl rfl ?_
    refine XS.iloadN X5.here hexec rfl (hb hbytes d34) rfl ?_
    refine XS.iloadN X5.here hexec rfl (hb hbytes d35) rfl ?_
    exact Steps.refl _)
  obtain ⟨v8, T8, X8, E8, g8⟩ := X5.callS hexec (Cmp3.law l b A o len) hown (wks W (staticW "java/lang/String" 177 Cmp3.yN)) (wk W Cmp3.tab) (W := 0) (Nat.le_of_ble_eq_true rfl) (Nat.le_of_ble_eq_true rfl) (Nat.le_refl _) (by show 0 + len ≤ len; omega) (g := (mkF m 36 #[.val (.ref a), .val (.ref b), .val (.int (Int32.ofNat o)), .val (.int (Int32.ofNat len)), .val .null, .unset] [.int (Int32.ofNat len), .int (Int32.ofNat o), .ref b])) rfl (by rw [hml]; rfl) c7 (argsL := [.ref b, .int (Int32.ofNat o), .int (Int32.ofNat len)]) (rest := []) rfl rfl (by show 2 * 0 + 0 ≤ _; decide) (hb hbytes d36) (⟨rfl, hA.mv X5.warmed.alike hh5, l1, l2, hp⟩)
  obtain ⟨e8, z8⟩ := E8
  obtain ⟨rfl, N, n1, n2, n3, n4, n5, n6⟩ := NewArr.mv _ T5 s _ _ hh5.symm (Vm.Alike.refl _) rfl e8
  rw [hh5] at z8
  have hB1 := hB.keep X8.warmed.alike (n6 _ _ hB.1)
  have hne : s.heap.size ≠ a := (Nat.ne_of_lt (Array.getElem?_eq_some_iff.mp hB.1).1).symm
  have c9 : Steps p.tables e below (s₁.setTop (entryFrame m #[.ref a, .ref b, .int (Int32.ofNat o), .int (Int32.ofNat len), .null] 6)) (T8.setTop (mkF m 39 #[.val (.ref a), .val (.ref b), .val (.int (Int32.ofNat o)), .val (.int (Int32.ofNat len)), .val .null, .unset] [.ref s.heap.size])) := g8
  have c10 : Steps p.tables e below (s₁.setTop (entryFrame m #[.ref a, .ref b, .int (Int32.ofNat o), .int (Int32.ofNat len), .null] 6)) (T8.setTop (mkF m 45 #[.val (.ref a), .val (.ref b), .val (.int (Int32.ofNat o)), .val (.int (Int32.ofNat len)), .val .null, .val (.ref s.heap.size)] [.int (Int32.ofNat N.slots.size), .ref s.heap.size, .ref a])) := by
    have hc : Steps p.tables e below (s₁.setTop (entryFrame m #[.ref a, .ref b, .int (Int32.ofNat o), .int (Int32.ofNat len), .null] 6)) (T8.setTop (mkF m 45 #[.val (.ref a), .val (.ref b), .val (.int (Int32.ofNat o)), .val (.int (Int32.ofNat len)), .val .null, .val (.ref s.heap.size)] [.int (Int32.ofNat len), .ref s.heap.size, .ref a])) := c9.trans (by
      refine XS.astore X8.here hexec rfl (hb hbytes d39) rfl rfl rfl ?_
      refine XS.aloadN X8.here hexec rfl (hb hbytes d41) rfl rfl ?_
      refine XS.aload X8.here hexec rfl (hb hbytes d42) rfl rfl ?_
      refine XS.iloadN X8.here hexec rfl (hb hbytes d44) rfl ?_
      exact Steps.refl _)
    rw [n4]; exact hc
  obtain ⟨v11, T11, X11, E11, g11⟩ := X8.callS hexec (CodL.law l s.heap.size N) hown (wks W (staticW "java/lang/String" 47 CodL.yN)) (wk W CodL.tab) (W := 1) (Nat.le_of_ble_eq_true rfl) (Nat.le_of_ble_eq_true rfl) (Nat.le_refl _) (by show 0 + len + 0 ≤ len; omega) (g := (mkF m 45 #[.val (.ref a), .val (.ref b), .val (.int (Int32.ofNat o)), .val (.int (Int32.ofNat len)), .val .null, .val (.ref s.heap.size)] [.int (Int32.ofNat N.slots.size), .ref s.heap.size, .ref a])) rfl (by rw [hml]; rfl) c10 (argsL := [.ref s.heap.size, .int (Int32.ofNat N.slots.size)]) (rest := [.ref a]) rfl rfl (by show 2 * 0 + (1 + 0) ≤ _; decide) (hb hbytes d45) (⟨rfl, n1⟩)
  obtain ⟨rfl, q11⟩ := E11
  have hB11 := hB1.mv (X8.warmed.alike.symm.trans X11.warmed.alike) q11
  have c12 : Steps p.tables e below (s₁.setTop (entryFrame m #[.ref a, .ref b, .int (Int32.ofNat o), .int (Int32.ofNat len), .null] 6)) (T11.setTop (mkF m 48 #[.val (.ref a), .val (.ref b), .val (.int (Int32.ofNat o)), .val (.int (Int32.ofNat len)), .val .null, .val (.ref s.heap.size)] [.int 0, .ref a])) := g11
  obtain ⟨T13, X13, p13, bl13, sl13, st13⟩ := X11.finit hexec hown (wk W (.fieldLink "java/lang/String" 15 "java/lang/String" "coder" "B")) (Or.inr ⟨_, (wk W (.laysFinal "java/lang/String" "java/lang/String" "coder" "B"))⟩) (Or.inl ⟨rfl, hnm⟩) f2 (Or.inl rfl) hB11 (t := .byte) (by decide +kernel) rfl (g := (mkF m 48 #[.val (.ref a), .val (.ref b), .val (.int (Int32.ofNat o)), .val (.int (Int32.ofNat len)), .val .null, .val (.ref s.heap.size)] [.int 0, .ref a])) rfl (rest := []) rfl (hb hbytes d48)
  have c14 : Steps p.tables e below (s₁.setTop (entryFrame m #[.ref a, .ref b, .int (Int32.ofNat o), .int (Int32.ofNat len), .null] 6)) (T13.setTop (mkF m 54 #[.val (.ref a), .val (.ref b), .val (.int (Int32.ofNat o)), .val (.int (Int32.ofNat len)), .val .null, .val (.ref s.heap.size)] [.ref s.heap.size, .ref a])) := (c12.trans (st13 _ (Steps.refl _))).trans (by
    refine XS.aloadN X13.here hexec rfl (hb hbytes d51) rfl rfl ?_
    refine XS.aload X13.here hexec rfl (hb hbytes d52) rfl rfl ?_
    exact Steps.refl _)
  obtain ⟨T15, X15, p15, bl15, sl15, st15⟩ := X13.finit hexec hown (wk W (.fieldLink "java/lang/String" 9 "java/lang/String" "value" "[B")) (Or.inr ⟨_, (wk W (.laysFinal "java/lang/String" "java/lang/String" "value" "[B"))⟩) (Or.inl ⟨rfl, hnm⟩) f1 (Or.inl rfl) bl13 (t := (.array .byte)) (by decide +kernel) rfl (g := (mkF m 54 #[.val (.ref a), .val (.ref b), .val (.int (Int32.ofNat o)), .val (.int (Int32.ofNat len)), .val .null, .val (.ref s.heap.size)] [.ref s.heap.size, .ref a])) rfl (rest := []) rfl (hb hbytes d54)
  have c16 : Steps p.tables e below (s₁.setTop (entryFrame m #[.ref a, .ref b, .int (Int32.ofNat o), .int (Int32.ofNat len), .null] 6)) (T15.setTop (mkF m 57 #[.val (.ref a), .val (.ref b), .val (.int (Int32.ofNat o)), .val (.int (Int32.ofNat len)), .val .null, .val (.ref s.heap.size)] [])) := c14.trans (st15 _ (Steps.refl _))
  have ap := apart (Or.inr ⟨_, (wk W (.laysFinal "java/lang/String" "java/lang/String" "value" "[B"))⟩) (Or.inr ⟨_, (wk W (.laysFinal "java/lang/String" "java/lang/String" "coder" "B"))⟩) f1 f2 (t₁ := .array .byte) (t₂ := .byte) (by decide +kernel) (by decide +kernel) (by decide)
  have al := X8.warmed.alike.symm.trans X15.warmed.alike
  have n7 : T11.heap[s.heap.size]? = some N := by rw [q11]; exact n1.1
  exact ⟨T15, none, _, _, _, X15, by simp, rfl, by omega, (fun _ => rfl), ⟨rfl, _, N, bl15, ((Same.refl D _).set _ (by simp)).set _ (by simp), sl15, (Cell.slots_setSlot_ne _ ap).trans sl13, n1.keep al (p15.other hne (p13.other hne n7)), n2, by rw [al.findClass]; exact n3, n4, n5, fun y c h1 h2 => p15.other h1 (p13.other h1 (by rw [q11]; exact n6 y c h2)), by rw [p15.2.2, p13.2.2, q11]; exact z8⟩, fun fs hl => c16.trans (X15.returnOut hexec hret (hb hbytes d57) hl)⟩
end New4
namespace New1
def yN : MethodName := ⟨"java/lang/String", "<init>", "([C)V"⟩
abbrev yB : ByteArray := jdk_42_method_3_code
theorem d0 : decode yB 0 = .ok (.aload_n 0, 1) := by decide +kernel
theorem d1 : decode yB 1 = .ok (.aload_n 1, 1) := by decide +kernel
theorem d2 : decode yB 2 = .ok (.iconst 0, 1) := by decide +kernel
theorem d3 : decode yB 3 = .ok (.aload_n 1, 1) := by decide +kernel
theorem d4 : decode yB 4 = .ok (.arraylength, 1) := by decide +kernel
theorem d5 : decode yB 5 = .ok (.aconst_null, 1) := by decide +kernel
theorem d6 : decode yB 6 = .ok (.invokespecial 27, 3) := by decide +kernel
theorem d9 : decode yB 9 = .ok (.return_, 1) := by decide +kernel
def site : List Cond := [New4.tab] ++ initW "java/lang/String" 27 New4.yN
def tab : Cond := tabOf yN yB 2 none site
def P (a : Addr) (D : Cell) (fV fC : Field) (b : Addr) (A : Cell) (z : Int32) (args : Array Value) (s : State) : Prop := args = #[.ref a, .ref b] ∧ Blank "java/lang/String" a D s ∧ Found "java/lang/String" "value" "[B" fV s ∧ Found "java/lang/String" "coder" "B" fC s ∧ Ch b A s ∧ StaticIs s "java/lang/String" "COMPACT_STRINGS" "Z" (.int z) ∧ ¬ z = 0 ∧ 0 < A.slots.size ∧ A.slots.size ≤ 536870912 ∧ ∀ i, i < A.slots.size → ¬ 255 < cv A i
def E (a : Addr) (D : Cell) (fV fC : Field) (A : Cell) (r : Option Value) (s u : State) : Prop := Got a D fV fC A 0 A.slots.size r s u
/-- new String(chars), not empty, no char above 255: a Latin-1 String of their low bytes -/
theorem law (l : Launch) (a : Addr) (D : Cell) (fV fC : Field) (b : Addr) (A : Cell) (z : Int32) : Law l yN 2 1 3 52 yB 2 none site (P a D fV fC b A z) (E a D fV fC A) [⟨a, fC.slot⟩, ⟨a, fV.slot⟩] 1 A.slots.size := by
  refine Law.of_walk (plainFor_of_name (by decide +kernel)) (by decide +kernel) (by decide +kernel) (by decide) (fun _ _ h => by rw [h.1]; rfl) (fun _ U U' hal hh h => ⟨h.1, h.2.1.mv hal hh, h.2.2.1.al hal, h.2.2.2.1.al hal, h.2.2.2.2.1.mv hal hh, h.2.2.2.2.2.1.there hal hh, h.2.2.2.2.2.2⟩) (fun r U U' V V' h1 hal h2 h => Got.mv r U U' V V' h1 hal h2 h) ?_
  intro p e s m args below meth c s₁ X0 hexec hbytes hml hret hlk hnm hown hh0 W hP
  obtain ⟨rfl, hB, f1, f2, hA, s1, hz, l0, l2, hp⟩ := hP
  have c1 : Steps p.tables e below (s₁.setTop (entryFrame m #[.ref a, .ref b] 2)) (s₁.setTop (mkF m 0 #[.val (.ref a), .val (.ref b)] [])) := entry rfl
  have c2 : Steps p.tables e below (s₁.setTop (entryFrame m #[.ref a, .ref b] 2)) (s₁.setTop (mkF m 6 #[.val (.ref a), .val (.ref b)] [.null, .int (Int32.ofNat A.slots.size), .int 0, .ref b, .ref a])) := c1.trans (by
    refine XS.aloadN X0.here hexec rfl (hb hbytes d0) rfl rfl ?_
    refine XS.aloadN X0.here hexec rfl (hb hbytes d1) rfl rfl ?_
    refine iconstV X0.here hexec rfl 0 (hb hbytes d2) (by decide) ?_
    refine XS.aloadN X0.here hexec rfl (hb hbytes d3) rfl rfl ?_
    refine X0.alen hexec (hA.1.mv X0.warmed.alike hh0) rfl rfl (hb hbytes d4) ?_
    refine XS.aconstNull X0.here hexec rfl (hb hbytes d5) ?_
    exact Steps.refl _)
  obtain ⟨v3, T3, X3, E3, g3⟩ := X0.callN hexec (New4.law l a D fV fC b A z 0 A.slots.size) rfl hown (wks W (initW "java/lang/String" 27 New4.yN)) (W New4.tab (by simp only [site, List.mem_cons, List.mem_append, true_or, or_true])) (W := 0) (Nat.le_of_ble_eq_true rfl) (Nat.le_of_ble_eq_true rfl) (Nat.le_refl _) (by show 0 + A.slots.size ≤ A.slots.size; omega) (g := (mkF m 6 #[.val (.ref a), .val (.ref b)] [.null, .int (Int32.ofNat A.slots.size), .int (Int32.ofNat 0), .ref b, .ref a])) rfl (by rw [hml]; rfl) c2 (argsL := [.ref b, .int (Int32.ofNat 0), .int (Int32.ofNat A.slots.size), .null]) (rest := []) rfl rfl (by show 2 * 0 + 0 ≤ _; decide) (hb hbytes d6) (⟨rfl, hB.mv X0.warmed.alike hh0, f1.al X0.warmed.alike, f2.al X0.warmed.alike, hA.mv X0.warmed.alike hh0, s1.there X0.warmed.alike hh0, hz, l0, by omega, l2, fun i hi => by rw [Nat.zero_add]; exact hp i hi⟩)
  have e0 := Got.mv _ s₁ s _ _ hh0.symm (Vm.Alike.refl _) rfl E3
  obtain rfl := e0.1
  have c4 : Steps p.tables e below (s₁.setTop (entryFrame m #[.ref a, .ref b] 2)) (T3.setTop (mkF m 9 #[.val (.ref a), .val (.ref b)] [])) := g3
  exact ⟨T3, none, _, _, _, X3, by simp, rfl, by omega, (fun _ => rfl), e0, fun fs hl => c4.trans (X3.returnOut hexec hret (hb hbytes d9) hl)⟩
theorem pays {l : Launch} {R : Room} {p : Program} {e : Env} {below : List Frame} {s : State} {sargs : Array Value} {len W : Nat} (a : Addr) (D : Cell) (fV fC : Field) (b : Addr) (A : Cell) (z : Int32) (htab : tab.before sargs s = true) (hfr : 4 ≤ R.frames) (hlo : W + 65 ≤ R.locals) :
    Back l R p e below s sargs yN len W (fun A₁ a₁ => A₁.cells + 1 ≤ R.cells ∧ A₁.slots + A.slots.size ≤ R.slots ∧ P a D fV fC b A z a₁ A₁.U) (fun A₁ _ v₁ B₁ => E a D fV fC A v₁ A₁.U B₁.U ∧ B₁.locs = A₁.locs ++ [⟨a, fC.slot⟩, ⟨a, fV.slot⟩] ∧ B₁.cells = A₁.cells + 1 ∧ B₁.slots = A₁.slots + A.slots.size) :=
  (law l a D fV fC b A z).pays htab hfr (by omega)
end New1
/-- the byte, read back as charAt reads it, is the char -/
theorem lo8_mask {x : Int32} (h0 : ¬ x < 0) (h1 : ¬ 255 < x) : lo8 x &&& 255 = x := by
  have t : ∀ k : Fin 256, lo8 (Int32.ofNat k.val) &&& 255 = Int32.ofNat k.val := by decide +kernel
  rw [Int32.lt_iff_toInt_lt] at h0 h1
  have e0 : (0 : Int32).toInt = 0 := rfl
  have e1 : (255 : Int32).toInt = 255 := rfl
  obtain ⟨k, hk⟩ : ∃ k : Nat, x.toInt = k := ⟨x.toInt.toNat, by omega⟩
  have hx : x = Int32.ofNat k := Int32.toInt_inj.mp (by rw [hk, Int32.toInt_ofNat_small (by omega)])
  rw [hx]
  exact t ⟨k, by omega⟩
end StrChars
namespace StrChars.Road
open Jvm Sem ClassFile Op Lib Jvm.Stand Jvm.Free Jvm.Free.XT
open Jvm.Lib.Cold (StaticIs)
abbrev ST : String := "java/lang/String"
/-- every table word that New1's law asks, flat -/
abbrev words : List Jvm.Cond := [.code New1.yN New1.yB 2 none, .initialized ST, .methodLink ST 27 New4.yN, .instanceMethod New4.yN,
  .code New4.yN New4.yB 6 none, .fieldLink ST 38 ST "COMPACT_STRINGS" "Z", .laysFinal ST ST "value" "[B", .fieldLink ST 9 ST "value" "[B", .laysFinal ST ST "coder" "B", .fieldLink ST 15 ST "coder" "B",
  .methodLink ST 1 Lib.objectInit, .instanceMethod Lib.objectInit, .code Lib.objectInit ⟨#[0xb1]⟩ 1 none, .methodLink ST 177 Cmp3.yN, .static Cmp3.yN, .methodLink ST 47 CodL.yN, .static CodL.yN,
  .code Cmp3.yN Cmp3.yB 6 (some (.array .byte)), .initialized U16, .arrayClass .byte, .methodLink U16 115 Cmp5.yN, .static Cmp5.yN, .code Cmp5.yN Cmp5.yB 7 (some .int), .code CodL.yN CodL.yB 2 (some .byte)]
theorem tab_of {a : Array Value} {s : State} (h : ∀ w ∈ words, w.before a s = true) : New1.tab.before a s = true := by
  have h5 : Cmp5.tab.before a s = true := unparts (wk h (.code Cmp5.yN Cmp5.yB 7 (some .int))) (wks h (.initialized Cmp5.yN.cls :: Cmp5.site))
  have hc : CodL.tab.before a s = true := unparts (wk h (.code CodL.yN CodL.yB 2 (some .byte))) (wks h (.initialized CodL.yN.cls :: CodL.site))
  have q5 : ∀ w ∈ Cmp5.tab :: words, w.before a s = true := fun w hw => (List.mem_cons.mp hw).elim (fun e => e ▸ h5) (h w)
  have h3 : Cmp3.tab.before a s = true := unparts (wk q5 (.code Cmp3.yN Cmp3.yB 6 (some (.array .byte)))) (wks q5 (.initialized Cmp3.yN.cls :: Cmp3.site))
  have q3 : ∀ w ∈ Cmp3.tab :: CodL.tab :: words, w.before a s = true := fun w hw => (List.mem_cons.mp hw).elim (fun e => e ▸ h3) fun hw => (List.mem_cons.mp hw).elim (fun e => e ▸ hc) (h w)
  have h4 : New4.tab.before a s = true := unparts (wk q3 (.code New4.yN New4.yB 6 none)) (wks q3 (.initialized New4.yN.cls :: New4.site))
  have q4 : ∀ w ∈ New4.tab :: words, w.before a s = true := fun w hw => (List.mem_cons.mp hw).elim (fun e => e ▸ h4) (h w)
  exact unparts (wk q4 (.code New1.yN New1.yB 2 none)) (wks q4 (.initialized New1.yN.cls :: New1.site))
/-- the words ride from the start Z to the walk's own state -/
theorem moved {Z s : State} {a0 args : Array Value} (hZ : Z.Warmed39 s.vm) (hw : ∀ d ∈ words, d.before a0 Z = true) : ∀ d ∈ words, d.before args s = true := fun d hd => by
  have q := hw d hd
  have t : ∀ d ∈ words, d = .arrayClass .byte ∨ (d.onTables && d.keepsFace) = true := by decide +kernel
  rcases t d hd with rfl | t
  · exact RoadKit.mvA hZ q
  · exact RoadKit.mv hZ q t
/-- WHAT COMES BACK, over the tables of the start Z: h the heap at the call, h' behind it -/
def Q (Z : State) (x : Addr) (A : Cell) (h : Heap) (v : Option Value) (h' : Heap) (L : List Loc) : Prop := v = none ∧ (∀ y ∈ L, y.base = x) ∧ RoadKit.Keep h h' [x] ∧ h'.size = h.size + 1 ∧ RoadKit.Exa Z h' x ST ∧ RoadKit.Fld Z h' x ST "value" "[B" (.ref h.size) ∧ RoadKit.Fld Z h' x ST "coder" "B" (.int 0) ∧
  (∃ V : Cell, RoadKit.Arr Z h' h.size V .byte ∧ V.vm = .none ∧ Z.vm.findClass "[B" = some V.cls ∧ V.slots.size = A.slots.size ∧ ∀ j, j < A.slots.size → V.slots[j]? = some (.int (lo8 (cv A j)))) ∧
  ∀ (O n d : String) (w : Value), RoadKit.Fld Z h x O n d w → RoadKit.slotOf Z O n d ≠ RoadKit.slotOf Z ST "value" "[B" → RoadKit.slotOf Z O n d ≠ RoadKit.slotOf Z ST "coder" "B" → RoadKit.Fld Z h' x O n d w
/-- **new String(chars) AT A CALL, IN THE ROAD'S FORM**: for specialBack behind newO: x the fresh String, b the char[] with the cell A -/
theorem back {p : Program} {l : Launch} {e : Env} {R : Room} {s : State} {args : Array Value} {below : List Frame} {len W : Nat} {Z : State} {a0 : Array Value} {h : Heap} (hZ : Z.Warmed39 s.vm) (hw : ∀ d ∈ words, d.before a0 Z = true) {kI : Nat} (wi : (Jvm.Cond.instantiable ST kI).before a0 Z = true)
    {x b : Addr} {A : Cell} {z : Int32} {v0 c0 : Value} (E : RoadKit.Exa Z h x ST) (V : RoadKit.Fld Z h x ST "value" "[B" v0) (C : RoadKit.Fld Z h x ST "coder" "B" c0) (K : RoadKit.Arr Z h b A .char) (hty : Typed .char A) (S : RoadKit.Sta Z h ST "COMPACT_STRINGS" "Z" (.int z)) (hz : ¬ z = 0)
    (l0 : 0 < A.slots.size) (l2 : A.slots.size ≤ 536870912) (hp : ∀ i, i < A.slots.size → ¬ 255 < cv A i) (hfr : 4 ≤ R.frames) (hlo : W + 65 ≤ R.locals) :
    Back l R p e below s args New1.yN len W (fun P a => a = #[.ref x, .ref b] ∧ P.U.heap = h ∧ P.cells + 1 ≤ R.cells ∧ P.slots + A.slots.size ≤ R.slots)
      (fun P _ v B => ∃ L, Q Z x A h v B.U.heap L ∧ B.locs = P.locs ++ L ∧ B.cells = P.cells + 1 ∧ B.slots = P.slots + A.slots.size) := by
  intro m meth c P g ig mk a X hg hsize hdg hW hn hp'
  obtain ⟨rfl, rfl, r1, r2⟩ := hp'
  have al : Z.vm.Alike P.U.vm := hZ.alike.trans X.warmed.alike
  obtain ⟨D, cfV, kV, iV, fV, hD, gV, stV, knV, obV, asV, slV⟩ := id V
  obtain ⟨D', cfC, kC, iC, fC, hD', gC, stC, -, -, asC, slC⟩ := id C
  cases hD.symm.trans hD'
  obtain ⟨D2, kD, e1, e2, e3, e4, e5⟩ := id E
  cases hD.symm.trans e1
  obtain ⟨c2, k2, i1, i2, i3, -⟩ := Cond.instantiable_spec wi
  cases e2.symm.trans i1
  cases e3.symm.trans i2
  obtain ⟨kU, u1, u2⟩ := al.2.2 _ _ e3
  have hB : Blank ST x D P.U := ⟨hD, ⟨knV, fun q hq => by rw [hq] at obV; cases obV⟩, by rw [al.findClass]; exact e2, kU, u1, by rw [u2]; exact i3, by rw [u2]; exact e5 i3⟩
  have F1 : Found ST "value" "[B" fV P.U := ⟨SBG.found_only al ⟨cfV, kV, iV, gV⟩, stV⟩
  have F2 : Found ST "coder" "B" fC P.U := ⟨SBG.found_only al ⟨cfC, kC, iC, gC⟩, stC⟩
  have hA : Ch b A P.U := ⟨⟨K.1, State.isArrayOf_alike al K.2.1, K.2.2, by omega⟩, hty⟩
  have hS : StaticIs P.U ST "COMPACT_STRINGS" "Z" (.int z) := by
    obtain ⟨cfS, iS, kS, fS, st, cS, t1, t2, t3, t4, t5, t6, t7⟩ := S
    exact StaticIs.there (s := { Z with heap := P.U.heap }) ⟨cfS, iS, kS, fS, st, cS, t1, t2, t3, t4, t5, (fun q => by rw [q] at t6; cases t6), t7⟩ al rfl
  obtain ⟨v, B, X', ⟨⟨hv, E', V', q1, q2, q3, q4, q5, q6, q7, q8, q9, q10, q11⟩, hl, hc, hs⟩, st⟩ := New1.pays x D fV fC b A z (tab_of (moved hZ hw)) hfr hlo m meth c P g ig mk _ X hg hsize hdg hW hn ⟨r1, r2, rfl, hB, F1, F2, hA, hS, hz, l0, l2, hp⟩
  have al' : Z.vm.Alike B.U.vm := hZ.alike.trans X'.warmed.alike
  have hsz : E'.slots.size = D.slots.size := by
    obtain ⟨-, -, -, kB, w1, w2, w3⟩ := q1
    obtain ⟨kB', y1, y2⟩ := al'.2.2 _ _ e3
    rw [q2.2.1] at w1
    cases w1.symm.trans y1
    rw [w3, e5 i3, y2]
  refine ⟨v, B, X', ⟨_, ⟨hv, ?_, ⟨by omega, fun y cy hy hn' => q10 y cy (by simpa using hn') hy, fun y cy hy => ?_⟩, q11, ⟨E', _, q1.1, by rw [q2.2.1]; exact e2, by rw [q2.2.1]; exact e3, by rw [q2.1]; exact obV, fun _ => by rw [hsz]; exact e5 i3⟩,
    ⟨E', cfV, kV, iV, fV, q1.1, gV, stV, by rw [q2.1]; exact knV, by rw [q2.1]; exact obV, by rw [q2.2.1]; exact asV, q3⟩, ⟨E', cfC, kC, iC, fC, q1.1, gC, stC, by rw [q2.1]; exact knV, by rw [q2.1]; exact obV, by rw [q2.2.1]; exact asC, q4⟩,
    ⟨V', ⟨q5.1, State.isArrayOf_alike al'.symm q5.2.1, q5.2.2.1⟩, q6, by rw [← al'.findClass]; exact q7, q8, fun j hj => by have := q9 j hj; rwa [Nat.zero_add] at this⟩, fun O n d w F n1 n2 => ?_⟩, hl, hc, hs⟩, st⟩
  · intro y hy
    simp only [List.mem_cons, List.not_mem_nil, or_false] at hy
    rcases hy with rfl | rfl <;> rfl
  · by_cases q : y = x
    · subst q
      cases hD.symm.trans hy
      exact ⟨E', q1.1, q2.2.1, q2.1, hsz⟩
    · exact ⟨cy, q10 y cy q hy, rfl, rfl, rfl⟩
  · obtain ⟨D3, cf, k, i, f, g1, g2, g3, g4, g5, g6, g7⟩ := F
    cases hD.symm.trans g1
    simp only [RoadKit.slotOf, g2, gV, gC, Option.map_some, Option.getD_some] at n1 n2
    exact ⟨E', cf, k, i, f, q1.1, g2, g3, by rw [q2.1]; exact g4, by rw [q2.1]; exact g5, by rw [q2.2.1]; exact g6, by rw [q2.2.2 f.slot (by simp [n1, n2])]; exact g7⟩
end StrChars.Road
namespace StrChars.Road
open Jvm Sem ClassFile Op Lib Jvm.Stand Jvm.Free Jvm.Free.XT
/-- WHAT COMES BACK, the byte[] as a list of values -/
def QA (Z : State) (x : Addr) (zn : Int32) (cs : List Int32) (h : Heap) (v : Option Value) (h' : Heap) (L : List Loc) : Prop := v = none ∧ (∀ y ∈ L, y.base = x) ∧ RoadKit.Keep h h' [x] ∧ h'.size = h.size + 1 ∧ RoadKit.Exa Z h' x ST ∧ RoadKit.Fld Z h' x ST "value" "[B" (.ref h.size) ∧ RoadKit.Fld Z h' x ST "coder" "B" (.int 0) ∧
  (∃ kb, Z.vm.findClass "[B" = some kb ∧ RoadKit.Arv Z h' h.size kb .byte zn (cs.map fun c => .int (lo8 c)) (.int 0)) ∧
  ∀ (O n d : String) (w : Value), RoadKit.Fld Z h x O n d w → RoadKit.slotOf Z O n d ≠ RoadKit.slotOf Z ST "value" "[B" → RoadKit.slotOf Z O n d ≠ RoadKit.slotOf Z ST "coder" "B" → RoadKit.Fld Z h' x O n d w
/-- **new String(chars) AT A CALL, THE ARRAYS AS LISTS**: the char[] at b holds cs, not empty, no char above 255 -/
theorem backArv {p : Program} {l : Launch} {e : Env} {R : Room} {s : State} {args : Array Value} {below : List Frame} {len W : Nat} {Z : State} {a0 : Array Value} {h : Heap} (hZ : Z.Warmed39 s.vm) (hw : ∀ d ∈ words, d.before a0 Z = true) {kI : Nat} (wi : (Jvm.Cond.instantiable ST kI).before a0 Z = true)
    {x b : Addr} {k : ClassId} {zn z : Int32} {cs : List Int32} {dv v0 c0 : Value} (E : RoadKit.Exa Z h x ST) (V : RoadKit.Fld Z h x ST "value" "[B" v0) (C : RoadKit.Fld Z h x ST "coder" "B" c0) (K : RoadKit.Arv Z h b k .char zn (cs.map Value.int) dv) (S : RoadKit.Sta Z h ST "COMPACT_STRINGS" "Z" (.int z)) (hz : ¬ z = 0)
    (hlen : zn.toNatClampNeg = cs.length) (h0 : 0 < cs.length) (hbig : cs.length ≤ 536870912) (hall : ∀ c ∈ cs, ¬ 255 < c) (hfr : 4 ≤ R.frames) (hlo : W + 65 ≤ R.locals) :
    Back l R p e below s args New1.yN len W (fun P a => a = #[.ref x, .ref b] ∧ P.U.heap = h ∧ P.cells + 1 ≤ R.cells ∧ P.slots + cs.length ≤ R.slots)
      (fun P _ v B => ∃ L, QA Z x zn cs h v B.U.heap L ∧ B.locs = P.locs ++ L ∧ B.cells = P.cells + 1 ∧ B.slots = P.slots + cs.length) := by
  obtain ⟨A, K1, K2, K3, K4, K5, K6⟩ := K
  have e : A.slots.size = cs.length := K3.trans hlen
  have hat : ∀ (i : Nat) (hi : i < cs.length), A.slots[i]? = some (.int cs[i]) := fun i hi => by rw [K5 i (by omega)]; simp [List.getD_eq_getElem?_getD, hi]
  have hcv : ∀ (i : Nat) (hi : i < cs.length), cv A i = cs[i] := fun i hi => by unfold cv; rw [hat i hi]
  have hty : Typed .char A := fun i v hv => by
    have hi : i < A.slots.size := (Array.getElem?_eq_some_iff.mp hv).1
    have q := K5 i hi
    rw [hv] at q
    rw [Option.some.inj q]
    exact K6 i hi
  refine Back.mono (back hZ hw wi E V C K1 hty S hz (by omega) (by omega) (fun i hi => by rw [hcv i (by omega)]; exact hall _ (List.getElem_mem _)) hfr hlo) (fun P a hp => ⟨hp.1, hp.2.1, hp.2.2.1, by rw [e]; exact hp.2.2.2⟩) (fun P a v B hp hq => ?_)
  obtain ⟨L, ⟨q1, q2, q3, q4, q5, q6, q7, ⟨V', v1, v2, v3, v4, v5⟩, q9⟩, hl, hc, hs⟩ := hq
  refine ⟨L, ⟨q1, q2, q3, q4, q5, q6, q7, ⟨V'.cls, v3, V', v1, rfl, by rw [v4, e, hlen], K4, fun i hi => ?_, fun i hi => ?_⟩, q9⟩, hl, hc, by rw [hs, e]⟩
  · have hi' : i < cs.length := by omega
    rw [v5 i (by omega), hcv i hi']; simp [List.getD_eq_getElem?_getD, hi']
  · have hi' : i < cs.length := by omega
    simp only [List.getD_eq_getElem?_getD, List.getElem?_map, List.getElem?_eq_getElem hi', Option.map_some, Option.getD_some]
    exact fits_lo8 _
end StrChars.Road
namespace StrChars.Road
open Jvm Sem ClassFile Op Lib Jvm.Stand Jvm.Free Jvm.Free.XT
/-- WHAT COMES BACK, in the writer's own shape -/
def QV (Z : State) (x : Addr) (N : Int32) (bs : List Int32) (h : Heap) (n0 : Nat) (v : Option Value) (h' : Heap) (L : List Loc) : Prop := v = none ∧ RoadKit.Fr n0 L ∧ RoadKit.Keep h h' [x] ∧ RoadKit.Exa Z h' x ST ∧ RoadKit.Fld Z h' x ST "coder" "B" (.int 0) ∧
  ∃ (t : Addr) (kb : ClassId), n0 ≤ t ∧ h.size ≤ t ∧ ¬ t = x ∧ RoadKit.Fld Z h' x ST "value" "[B" (.ref t) ∧ RoadKit.Arv Z h' t kb .byte N (bs.map Value.int) (.int 0)
/-- **new String(chars) AT A CALL, FOR THE WRITER**: a char[] of n known ints, each 0 to 255 -/
theorem backV {p : Program} {l : Launch} {e : Env} {R : Room} {s : State} {args : Array Value} {below : List Frame} {len W : Nat} {Z : State} {a0 : Array Value} {h : Heap} (hZ : Z.Warmed39 s.vm) (hw : ∀ d ∈ words, d.before a0 Z = true) {kI : Nat} (wi : (Jvm.Cond.instantiable ST kI).before a0 Z = true)
    {x b : Addr} {kC : ClassId} {cs bs : List Int32} {d v0 c0 : Value} {z N : Int32} {n n0 : Nat} (hx0 : n0 ≤ x) (hh0 : n0 ≤ h.size) (E : RoadKit.Exa Z h x ST) (V : RoadKit.Fld Z h x ST "value" "[B" v0) (C : RoadKit.Fld Z h x ST "coder" "B" c0) (K : RoadKit.Arv Z h b kC .char N (cs.map Value.int) d) (S : RoadKit.Sta Z h ST "COMPACT_STRINGS" "Z" (.int z)) (hz : ¬ z = 0)
    (hn : cs.length = n) (hN : N = Int32.ofNat n) (l0 : 0 < n) (l2 : n ≤ 4000) (hp : ∀ c ∈ cs, ¬ c < 0 ∧ ¬ (255 : Int32) < c) (hb : bs = cs.map (fun c => c.toInt8.toInt32)) (hfr : 4 ≤ R.frames) (hlo : W + 65 ≤ R.locals) :
    Back l R p e below s args (⟨"java/lang/String", "<init>", "([C)V"⟩ : MethodName) len W (fun P a => a = #[.ref x, .ref b] ∧ P.U.heap = h ∧ P.cells + 1 ≤ R.cells ∧ P.slots + n ≤ R.slots)
      (fun P _ v B => ∃ L, QV Z x N bs h n0 v B.U.heap L ∧ B.locs = P.locs ++ L ∧ B.cells = P.cells + 1 ∧ B.slots = P.slots + n) := by
  subst hn hN hb
  refine Back.mono (backArv hZ hw wi E V C K S hz (n32 (by omega)) l0 (by omega) (fun c hc => (hp c hc).2) hfr hlo) (fun P a hp => hp) (fun P a v B hp hq => ?_)
  obtain ⟨L, ⟨q1, q2, q3, q4, q5, q6, q7, ⟨kb, v1, v2⟩, q9⟩, hl, hc, hs⟩ := hq
  exact ⟨L, ⟨q1, fun y hy => by rw [q2 y hy]; exact hx0, q3, q5, q7, h.size, kb, hh0, Nat.le_refl _, Nat.ne_of_gt E.lt, q6, by rw [List.map_map]; exact v2⟩, hl, hc, hs⟩
end StrChars.Road
namespace StrChars
open Jvm Sem ClassFile Op Lib Jvm.Stand Jvm.Free.XT Jvm.Free.ALB Jvm.Free.JM Jvm.Free
open Jvm.Lib.Cold (StaticIs)
def hi8 (x : Int32) : Int32 := lo8 (x >>> ((8 : Int32) &&& 31))
/-- what StringUTF16.getChar makes of two bytes -/
def pairCh (u v : Int32) : Int32 := (((u &&& 255) <<< ((0 : Int32) &&& 31)) ||| ((v &&& 255) <<< ((8 : Int32) &&& 31))).toUInt32.toUInt16.toUInt32.toInt32
theorem lo8_and (x : Int32) : (lo8 x &&& 255).toBitVec.toNat = x.toBitVec.toNat % 256 := by
  have h : (lo8 x).toBitVec = (x.toBitVec.signExtend 8).signExtend 32 := by rw [lo8, Int8.toBitVec_toInt32, Int32.toBitVec_toInt8]
  rw [Int32.toBitVec_and, BitVec.toNat_and, h]
  have e : ((x.toBitVec.signExtend 8).signExtend 32).toNat % 256 = x.toBitVec.toNat % 256 := by
    rw [BitVec.toNat_signExtend]
    have hlt := x.toBitVec.isLt
    simp only [BitVec.toNat_setWidth, BitVec.toNat_signExtend]
    split <;> split <;> omega
  rw [← e]
  exact Nat.and_two_pow_sub_one_eq_mod _ 8
theorem pair_says {c : Int32} (h0 : ¬ c < 0) (h1 : ¬ 65535 < c) : pairCh (lo8 c) (hi8 c) = c := by
  rw [Int32.lt_iff_toInt_lt] at h0 h1
  have e0 : (0 : Int32).toInt = 0 := rfl
  have e1 : (65535 : Int32).toInt = 65535 := rfl
  have hc : c.toInt = c.toBitVec.toNat := by
    have := c.toBitVec.isLt
    have e : c.toInt = c.toBitVec.toInt := rfl
    rw [e] at h0 h1
    rw [e]
    rw [BitVec.toInt_eq_toNat_cond] at h0 h1 ⊢
    split at h0 <;> split <;> omega
  have hn : c.toBitVec.toNat < 65536 := by omega
  have a1 := lo8_and c
  have a2 : (hi8 c &&& 255).toBitVec.toNat = c.toBitVec.toNat / 256 := by
    rw [hi8, lo8_and]
    have e : ((8 : Int32) &&& 31) = 8 := by decide
    rw [e, Int32.toBitVec_shiftRight]
    have e2 : ((8 : Int32).toBitVec.smod 32) = 8#32 := by decide
    rw [e2, BitVec.sshiftRight_eq', BitVec.toNat_sshiftRight_of_msb_false (by rw [BitVec.msb_eq_false_iff_two_mul_lt]; omega)]
    show c.toBitVec.toNat >>> 8 % 256 = _
    rw [Nat.shiftRight_eq_div_pow]
    omega
  unfold pairCh
  apply Int32.toBitVec_inj.mp
  apply BitVec.eq_of_toNat_eq
  have f0 : ((0 : Int32) &&& 31) = 0 := by decide
  have f8 : ((8 : Int32) &&& 31) = 8 := by decide
  rw [f0, f8]
  have g : (((lo8 c &&& 255) <<< (0 : Int32)) ||| ((hi8 c &&& 255) <<< (8 : Int32))).toBitVec.toNat = c.toBitVec.toNat := by
    rw [Int32.toBitVec_or, Int32.toBitVec_shiftLeft, Int32.toBitVec_shiftLeft]
    have s0 : ((0 : Int32).toBitVec.smod 32) = 0#32 := by decide
    have s8 : ((8 : Int32).toBitVec.smod 32) = 8#32 := by decide
    rw [s0, s8, BitVec.toNat_or]
    simp only [BitVec.shiftLeft_eq', BitVec.toNat_shiftLeft, a1, a2]
    show (c.toBitVec.toNat % 256) <<< 0 % 2 ^ 32 ||| (c.toBitVec.toNat / 256) <<< 8 % 2 ^ 32 = _
    rw [Nat.shiftLeft_zero, Nat.mod_eq_of_lt (show c.toBitVec.toNat % 256 < 2 ^ 32 by omega), Nat.mod_eq_of_lt (show (c.toBitVec.toNat / 256) <<< 8 < 2 ^ 32 by rw [Nat.shiftLeft_eq]; omega), Nat.or_comm, ← Nat.shiftLeft_add_eq_or_of_lt (by omega), Nat.shiftLeft_eq]
    omega
  show BitVec.toNat (((((lo8 c &&& 255) <<< (0 : Int32)) ||| ((hi8 c &&& 255) <<< (8 : Int32))).toBitVec.setWidth 16).setWidth 32) = _
  rw [BitVec.toNat_setWidth, BitVec.toNat_setWidth, g]
  omega
end StrChars
namespace StrChars
open Jvm Sem ClassFile Op Lib Jvm.Stand Jvm.Free.XT Jvm.Free.ALB Jvm.Free.JM Jvm.Free
open Jvm.Lib.Cold (StaticIs)
theorem narrow_ch {c : Int32} (h0 : ¬ c < 0) (h1 : ¬ 65535 < c) : narrow .char (.int c) = .int c := by
  have q : narrow .char (.int (pairCh (lo8 c) (hi8 c))) = .int (pairCh (lo8 c) (hi8 c)) := narrow_c _
  rwa [pair_says h0 h1] at q
end StrChars
namespace StrChars.Road
open Jvm Sem ClassFile Op Lib Jvm.Stand Jvm.Free Jvm.Free.XT
open Jvm.Lib.Cold (StaticIs)
/-- the bytes of the chars cs, low before high -/
def wideBytes : List Int32 → List Value
  | [] => []
  | c :: cs => .int (lo8 c) :: .int (hi8 c) :: wideBytes cs
theorem low_at (d : Value) (cs : List Int32) (j : Nat) (h : j < cs.length) : (cs.map fun c => Value.int (lo8 c)).getD j d = .int (lo8 (cs.getD j 0)) := by
  simp [List.getD_eq_getElem?_getD, h]
/-- an array of N2 bytes vs codes the chars cs by the coder cd -/
def CodA (cs : List Int32) (cd N2 : Int32) (vs : List Value) : Prop := (cd = 0 ∧ N2 = Int32.ofNat cs.length ∧ vs = (cs.map fun c => Value.int (lo8 c)) ∧ ∀ c ∈ cs, ¬ 255 < c) ∨ (cd = 1 ∧ N2 = Int32.ofNat (2 * cs.length) ∧ vs = wideBytes cs ∧ ∃ c ∈ cs, 255 < c)
end StrChars.Road
namespace StrChars.Road
open Jvm Sem ClassFile Op Lib Jvm.Stand Jvm.Free Jvm.Free.XT
open Jvm.Lib.Cold (StaticIs)
/-- what backV says of its String, as the contracts of this text ask it: cs's low bytes, coder 0 -/
theorem codOf {cs : List Int32} {n : Nat} (hn : cs.length = n) (hb : ∀ c ∈ cs, ¬ 255 < c) : CodA cs 0 (Int32.ofNat n) ((cs.map lo8).map Value.int) := Or.inl ⟨rfl, by rw [hn], by simp [List.map_map, Function.comp_def], hb⟩
end StrChars.Road
end Jvm.Pilot.@@N@@
namespace Jvm.Pilot.@@N@@
open Jvm Jvm.ClassFile Sem Op Lib Jvm.Free Jvm.Stand Jvm.LawKit Jvm.RoadKit Bundle Jvm.Pilot.@@N@@.Jvm.D
section Own
variable {p : Program} {l : Launch} {e : Env} {R : Room} {s : State} {m : MethodId} {args : Array Value} {below : List Frame} {meth : Method} {c : Code} {T T' : State} {locs : List Loc} {cells slots : Nat} {G : Outcome → State → Prop} {g g' : JFrame}
/-- from here the walk ends, and ends as G says -/
def OwnGoes (p : Program) (e : Env) (below : List Frame) (G : Outcome → State → Prop) (T : State) (g : JFrame) : Prop := ∃ s₂ o, Steps p.tables e below (T.setTop g) s₂ ∧ s₂.status = .running ∧ Ended s₂ below o ∧ G o s₂
abbrev vI (x : Int32) : Slot := .val (.int x)
abbrev oR (a b c d : Nat) : Room := { frames := a, cells := b, slots := c, locals := d }
abbrev vU : Slot := .unset
theorem own_w {d : Jvm.Cond} {a0 : Array Value} {Z : State} (hw : ∀ d ∈ tables_1, d.before a0 Z = true) (i : Nat) (h : tables_1[i]? = some d) : d.before a0 Z = true := hw _ (List.mem_of_getElem? h)
abbrev vR (a : Addr) : Slot := .val (.ref a)
abbrev OwnG (p : Program) (e : Env) (b : List Frame) (T : State) (m : MethodId) (pc : Nat) (L : Array Slot) (S : List Value) (t : State) : Prop := Steps p.tables e b (T.setTop (mkF m pc L S)) t
theorem OwnGoes.step (h : ∀ t, Steps p.tables e below (T'.setTop g') t → Steps p.tables e below (T.setTop g) t) (k : OwnGoes p e below G T' g') : OwnGoes p e below G T g := by
  obtain ⟨s2, o, h1, r⟩ := k
  exact ⟨s2, o, h _ h1, r⟩
theorem OwnGoes.tr (h : Steps p.tables e below (T.setTop g) (T'.setTop g')) (k : OwnGoes p e below G T' g') : OwnGoes p e below G T g := by
  obtain ⟨s2, o, h1, r⟩ := k
  exact ⟨s2, o, h.trans h1, r⟩
theorem og (T' : State) (m' : MethodId) (pc : Nat) (L : Array Slot) (S : List Value) (h : ∀ t, Steps p.tables e below (T'.setTop (mkF m' pc L S)) t → Steps p.tables e below (T.setTop g) t) (k : OwnGoes p e below G T' (mkF m' pc L S)) : OwnGoes p e below G T g := OwnGoes.step h k
theorem own_leave (X : Stand p l e R s m args below meth c T locs cells slots) (hlk : meth.locks = false) {v : Option Value} (hv : meth.sig.returnType = none → v = none)
    (hret : ∀ fs, (∀ (f : JFrame) (acts : List Action), f.method = m → f.locked = none → f.entered = [] → (doReturn e (T.setTop f) acts v).1 = T.setFrames fs) → Steps p.tables e below (T.setTop g) (T.setFrames fs))
    {k n : Nat} (hc : cells ≤ k) (hs : slots ≤ n) {Q : Option Value → Heap → List Loc → Prop} (hQ : Q v T.heap locs) :
    OwnGoes p e below (fun o U' => ∃ v L, o = .returned v ∧ Q v U'.heap L ∧ FrameEnd s o U' L k n) T g := by
  obtain ⟨fs, hr, hrun, hended, hW, hsame⟩ := X.leave (v := v) hv hlk
  exact ⟨_, _, hret fs hr, hrun, hended, v, locs, rfl, hQ, ⟨_, rfl⟩, hW, hsame.mono hc hs⟩
theorem own_leaveW {Z : State} {EL : List (String × Nat)} {vm1 : Vm} (X : Stand p l e R (s.setVm vm1) m args below meth c T locs cells slots) {n1 : Nat} (hS : s.Since vm1 n1) (hn : n1 ≤ T.heap.size) (hlk : meth.locks = false) {v : Option Value} (hv : meth.sig.returnType = none → v = none)
    (hret : ∀ fs, (∀ (f : JFrame) (acts : List Action), f.method = m → f.locked = none → f.entered = [] → (doReturn e (T.setTop f) acts v).1 = T.setFrames fs) → Steps p.tables e below (T.setTop g) (T.setFrames fs))
    {k n : Nat} (hc : cells ≤ k) (hs : slots ≤ n) {Q : Option Value → Heap → List Loc → Prop} (hR : CHr Z EL s.vm s.heap T.vm T.heap) (hQ : Q v T.heap locs) :
    OwnGoes p e below (fun o U' => ∃ v L, o = .returned v ∧ Q v U'.heap L ∧ CHr Z EL s.vm s.heap U'.vm U'.heap ∧ ReturnedEndW s o U' L k n) T g := by
  obtain ⟨fs, hr, hrun, hended, a1, a2, a3, a4⟩ := X.leaveW hS hn (v := v) hv hlk
  exact ⟨_, _, hret fs hr, hrun, hended, v, locs, rfl, hQ, hR, a1, a2, a3, a4.mono hc hs⟩
theorem own_cls {s : State} {args : Array Value} {C : String} {y y' : MethodName} {m : MethodId} (hn : s.methodNamed? y = some m) (hs : (Cond.selects C y' y').before args s = true) (hc : y'.cls = y.cls) : ∃ mk, s.vm.classes[m.cls]? = some mk ∧ mk.isInterface = false := by
  obtain ⟨c2, r2, m2, q1, q2, q3, q4, kP, hkP, hkPi⟩ := Cond.selects_spec hs
  have a := findClass_of_methodNamed hn
  have b := findClass_of_methodNamed q3
  rw [hc, a] at b
  rw [Option.some.inj b]
  exact ⟨kP, hkP, hkPi⟩
theorem own_notface {s : State} {args : Array Value} {C : String} {y y' : MethodName} (hs : (Cond.selects C y' y').before args s = true) (hc : y'.cls = y.cls) : NotFace s y := fun r0 h0 => own_cls h0 hs hc
theorem own_same {s : State} {args : Array Value} {C : String} {y y' : MethodName} (hd : (Cond.declares y).before args s = true) (hs : (Cond.selects C y' y').before args s = true) (hc : y'.cls = y.cls) (hx : y.cls ≠ "java/lang/invoke/MethodHandle" ∧ y.cls ≠ "java/lang/invoke/VarHandle") : (Cond.sameMethod y.cls y.cls y.name y.desc).before args s = true := by
  obtain ⟨m, meth, h1, -⟩ := Cond.declares_spec hd
  obtain ⟨mk, k1, k2⟩ := own_cls h1 hs hc
  have a := findClass_of_methodNamed h1
  have b := State.methodFound?_of_named h1 hx
  have h1' : s.methodNamed? ⟨y.cls, y.name, y.desc⟩ = some m := h1
  simp [Cond.before, Cond.holds, Cond.value, a, b, h1', k1, k2]
theorem own_decl {s : State} {args : Array Value} {y : MethodName} {bytes : ByteArray} {maxL : Nat} {ret : Option FieldType} (h1 : (Cond.instanceMethod y).before args s = true) (h2 : (Cond.code y bytes maxL ret).before args s = true) : (Cond.declares y).before args s = true := by
  obtain ⟨mk, meth, hn, hm, hst, -⟩ := Cond.instanceMethod_spec h1
  obtain ⟨m2, cM, q1, -, -, -, -, -, -, hsig⟩ := Cond.code_spec hn h2
  cases hm.symm.trans q1
  simp [Cond.before, Cond.holds, Cond.value, hn, hm, hst, hsig]
theorem own_arv_ty {Z : State} {h : Heap} {a b : Addr} {k k' : ClassId} {ty ty' : FieldType} {n n' : Int32} {vs vs' : List Value} {d d' : Value} (A : Arv Z h a k ty n vs d) (B : Arv Z h b k' ty' n' vs' d') (q : ty ≠ ty') : a ≠ b := fun e => by
  subst e
  obtain ⟨c1, ⟨a1, ⟨-, k1, a2, c1', a3⟩, -⟩, -⟩ := A
  obtain ⟨c2, ⟨b1, ⟨-, k2, b2, c2', b3⟩, -⟩, -⟩ := B
  cases a1.symm.trans b1
  cases a2.symm.trans b2
  have := a3.symm.trans b3
  injection this with _ e
  exact q e
theorem own_nar2_char (x : Int32) : nar .char (nar .char x) = nar .char x := by simp only [nar, UInt32.toUInt32_toInt32, UInt16.toUInt16_toUInt32]
theorem own_nar2_byte (x : Int32) : nar .byte (nar .byte x) = nar .byte x := by simp [nar]
theorem own_nar2_boolean (x : Int32) : nar .boolean (nar .boolean x) = nar .boolean x := by simp [nar, Int32.and_assoc]
theorem own_toInt32_lt (x y : Int32) : x < y ↔ x.toInt < y.toInt := Int32.lt_iff_toInt_lt
theorem own_lat255 (x : Int32) : ¬ nar .char (x &&& (255 : Int32)) < 0 ∧ ¬ (255 : Int32) < nar .char (x &&& (255 : Int32)) := by
  have t : ∀ k : Fin 256, ¬ nar .char (Int32.ofNat k.val) < 0 ∧ ¬ (255 : Int32) < nar .char (Int32.ofNat k.val) := by decide +kernel
  have h : (x &&& 255).toBitVec.toNat < 256 := by
    simp only [Int32.toBitVec_and, BitVec.toNat_and]
    exact Nat.lt_succ_of_le Nat.and_le_right
  have e : (x &&& 255) = Int32.ofNat (x &&& 255).toBitVec.toNat := by
    apply Int32.toBitVec_inj.mp
    show _ = BitVec.ofNat 32 _
    rw [BitVec.ofNat_toNat]; simp
  rw [e]
  exact t ⟨_, h⟩
theorem own_nar_lat {x : Int32} (h : ¬ x < 0 ∧ ¬ (255 : Int32) < x) : nar .char x = x := by
  have h1 : ∀ k : Fin 256, nar .char (Int32.ofNat k.val) = Int32.ofNat k.val := by decide +kernel
  obtain ⟨a, b⟩ := h
  rw [Int32.lt_iff_toInt_lt] at a b
  have e1 : (0 : Int32).toInt = 0 := rfl
  have e2 : (255 : Int32).toInt = 255 := rfl
  have e : x = Int32.ofNat x.toInt.toNat := by
    apply Int32.toInt_inj.mp
    rw [Int32.toInt_ofNat_of_lt (by omega)]
    omega
  rw [e]
  exact h1 ⟨x.toInt.toNat, by omega⟩
theorem own_up (cs : List Int32) (h : ∀ c ∈ cs, ¬ c < 0 ∧ ¬ (255 : Int32) < c) : ∀ c ∈ cs, ¬ c < 0 ∧ ¬ (65535 : Int32) < c := fun c hc => ⟨(h c hc).1, fun q => (h c hc).2 (by rw [Int32.lt_iff_toInt_lt] at q ⊢; have e1 : (65535 : Int32).toInt = 65535 := rfl; have e2 : (255 : Int32).toInt = 255 := rfl; omega)⟩
end Own
theorem own_mk {s : State} {vm1 : Vm} {n : Nat} (hS : s.Since vm1 n) (h : s.vm.MethodsKnown) : vm1.MethodsKnown := Vm.MethodsKnown.alikeC hS.1.alike h
theorem own_fk {s : State} {vm1 : Vm} {n : Nat} {fs : List Frame} (hS : s.Since vm1 n) (h : s.vm.FramesKnown fs) : vm1.FramesKnown fs := Vm.FramesKnown.alikeC hS.1.alike h
theorem own_ths {Z : State} {n0 : Nat} {h : Heap} (O : Old Z n0 h) : ThS Z h := fun st k cl cell _ _ _ q _ => O.2.2 st cell q
theorem own_mem0 {P : Int32 → Prop} : ∀ c ∈ ([] : List Int32), P c := fun _ h => nomatch h
theorem own_memS {P : Int32 → Prop} {x : Int32} {L : List Int32} (h : P x) (r : ∀ c ∈ L, P c) : ∀ c ∈ x :: L, P c := fun c q => by
  rcases List.mem_cons.mp q with rfl | q
  · exact h
  · exact r c q
theorem own_safe_null {Z : State} {EL : List (String × Nat)} {vm : Vm} {h : Heap} {a : Addr} {a0 : Array Value} {n : Nat} (hal : Z.vm.Alike vm) (wi : (Jvm.Cond.instantiable "java/lang/String" n).before a0 Z = true) (E : Exa Z h a "java/lang/String") (F : Fld Z h a "java/lang/String" "value" "[B" .null) : Safe Z EL vm h a := fun B => by
  obtain ⟨cell, k, e1, e2, e3, -, -⟩ := E
  obtain ⟨p, -, u, b, -, q, -, G, rfl | rfl⟩ := B
  · obtain ⟨cS, ⟨⟨s1, -, -, ⟨cv, kv, iv, s4, -⟩, -, -, -, s8, -⟩, -⟩, -⟩ := G
    obtain ⟨c2, cf, k2, i2, f2, g1, g2, -, -, -, -, g7⟩ := F
    obtain ⟨kv', z4⟩ := ff_back (U := Wst Z vm h) hal s4
    cases g2.symm.trans z4
    cases (show h[q.sa]? = some q.sC from s1).symm.trans g1
    rw [s8] at g7
    cases g7
  · have hd : h[q.sd]? = some q.SA := G.hd
    cases hd.symm.trans e1
    obtain ⟨cS, -, -, f, -⟩ := G
    have f' : vm.findClass "[B" = some q.SA.cls := f
    rw [hal.findClass] at f'
    obtain ⟨k1, q1, q2⟩ := Vm.findClass_spec f'
    obtain ⟨k2, q3, q4⟩ := Vm.findClass_spec e2
    cases q1.symm.trans q3
    exact absurd (q2.symm.trans q4) (by decide)
theorem own_ins_keep {Z : State} {h h' : Heap} {a : Addr} {C : String} {ws : List Addr} (F : Ins Z h a C true) (K : Keep h h' ws) : Ins Z h' a C true := by
  obtain ⟨c, cT, h1, h2, h3⟩ := F
  obtain ⟨c', q1, q2, q3, -⟩ := K.2.2 _ _ h1
  exact ⟨c', cT, q1, h2, by rw [q2, q3]; exact h3⟩
abbrev mN0 : MethodName := (⟨"java/lang/String", "<init>", "([CIILjava/lang/Void;)V"⟩ : MethodName)
abbrev mN1 : MethodName := (⟨"java/lang/String", "<init>", "([C)V"⟩ : MethodName)
abbrev mN2 : MethodName := (⟨"java/lang/StringLatin1", "canEncode", "(C)Z"⟩ : MethodName)
abbrev mN3 : MethodName := (⟨"java/lang/StringLatin1", "toBytes", "(C)[B"⟩ : MethodName)
abbrev mN4 : MethodName := (⟨"java/lang/String", "<init>", "([BB)V"⟩ : MethodName)
abbrev mN5 : MethodName := (⟨"java/lang/String", "valueOf", "(C)Ljava/lang/String;"⟩ : MethodName)
abbrev mN6 : MethodName := (⟨"java/lang/String", "coder", "()B"⟩ : MethodName)
abbrev mN7 : MethodName := (⟨"java/lang/String", "length", "()I"⟩ : MethodName)
abbrev mN8 : MethodName := (⟨"java/lang/AbstractStringBuilder", "<init>", "(I)V"⟩ : MethodName)
abbrev mN9 : MethodName := (⟨"java/lang/StringBuilder", "<init>", "()V"⟩ : MethodName)
abbrev mN10 : MethodName := (⟨"java/lang/AbstractStringBuilder", "inflateIfNeededFor", "(Ljava/lang/String;)V"⟩ : MethodName)
abbrev mN11 : MethodName := (⟨"java/lang/String", "getBytes", "([BIB)V"⟩ : MethodName)
abbrev mN12 : MethodName := (⟨"java/lang/AbstractStringBuilder", "putStringAt", "(ILjava/lang/String;)V"⟩ : MethodName)
abbrev mN13 : MethodName := (⟨"java/lang/AbstractStringBuilder", "ensureCapacityInternal", "(I)V"⟩ : MethodName)
abbrev mN14 : MethodName := (⟨"java/lang/AbstractStringBuilder", "append", "(Ljava/lang/String;)Ljava/lang/AbstractStringBuilder;"⟩ : MethodName)
abbrev mN15 : MethodName := (⟨"java/lang/StringBuilder", "append", "(Ljava/lang/String;)Ljava/lang/StringBuilder;"⟩ : MethodName)
abbrev mN16 : MethodName := (⟨"java/lang/AbstractStringBuilder", "getValue", "()[B"⟩ : MethodName)
abbrev mN17 : MethodName := (⟨"java/lang/AbstractStringBuilder", "length", "()I"⟩ : MethodName)
abbrev mN18 : MethodName := (⟨"java/lang/StringBuilder", "length", "()I"⟩ : MethodName)
abbrev mN19 : MethodName := (⟨"java/lang/AbstractStringBuilder", "isLatin1", "()Z"⟩ : MethodName)
abbrev mN20 : MethodName := (⟨"java/util/Arrays", "checkLength", "(II)V"⟩ : MethodName)
abbrev mN21 : MethodName := (⟨"java/lang/Math", "min", "(II)I"⟩ : MethodName)
abbrev mN22 : MethodName := (⟨"java/util/Arrays", "copyOfRangeByte", "([BII)[B"⟩ : MethodName)
abbrev mN23 : MethodName := (⟨"java/util/Arrays", "copyOfRange", "([BII)[B"⟩ : MethodName)
abbrev mN24 : MethodName := (⟨"java/lang/String", "<init>", "(Ljava/lang/AbstractStringBuilder;Ljava/lang/Void;)V"⟩ : MethodName)
abbrev mN25 : MethodName := (⟨"java/lang/String", "<init>", "(Ljava/lang/StringBuilder;)V"⟩ : MethodName)
abbrev mN26 : MethodName := (⟨"java/lang/StringBuilder", "toString", "()Ljava/lang/String;"⟩ : MethodName)
abbrev mN27 : MethodName := (⟨"java/lang/Record", "<init>", "()V"⟩ : MethodName)
abbrev mN28 : MethodName := (⟨"com/example/kindling/kindling/config/Setting", "<init>", "(Ljava/lang/String;Ljava/lang/String;Ljava/lang/String;)V"⟩ : MethodName)
abbrev mN29 : MethodName := (⟨"com/example/kindling/kindling/config/Setting", "keyAndOrigin", "()Ljava/lang/String;"⟩ : MethodName)
abbrev mN30 : MethodName := (⟨"com/example/kindling/kindling/config/SettingKeyAndOriginPinLaw", "mk", "(ICC)Ljava/lang/String;"⟩ : MethodName)
abbrev mN31 : MethodName := (⟨"java/lang/String", "isLatin1", "()Z"⟩ : MethodName)
abbrev mN32 : MethodName := (⟨"jdk/internal/util/Preconditions", "checkIndex", "(IILjava/util/function/BiFunction;)I"⟩ : MethodName)
abbrev mN33 : MethodName := (⟨"java/lang/String", "checkIndex", "(II)V"⟩ : MethodName)
abbrev mN34 : MethodName := (⟨"java/lang/StringLatin1", "charAt", "([BI)C"⟩ : MethodName)
abbrev mN35 : MethodName := (⟨"java/lang/String", "charAt", "(I)C"⟩ : MethodName)
abbrev mN36 : MethodName := (⟨"com/example/kindling/kindling/config/SettingKeyAndOriginPinLaw", "expected", "(ILjava/lang/String;Ljava/lang/String;)C"⟩ : MethodName)
abbrev mN37 : MethodName := (⟨"com/example/kindling/kindling/config/SettingKeyAndOriginPinLaw", "at", "(Ljava/lang/String;ILjava/lang/String;Ljava/lang/String;I)Z"⟩ : MethodName)
/-- the bytes vs (N of them, coder cd) spell the chars cs -/
def OwnStr (cs : List Int32) (cd N : Int32) (vs : List Value) : Prop := StrChars.Road.CodA cs cd N vs ∧ (∀ c ∈ cs, ¬ c < 0 ∧ ¬ (65535 : Int32) < c) ∧ cs.length ≤ 4000
theorem own_str_lat {cs : List Int32} {n : Nat} (hn : cs.length = n) (l2 : n ≤ 4000) (h : ∀ c ∈ cs, ¬ c < 0 ∧ ¬ (255 : Int32) < c) : OwnStr cs 0 (Int32.ofNat n) ((cs.map (fun c => c.toInt8.toInt32)).map Value.int) := ⟨StrChars.Road.codOf hn (fun x hx => (h x hx).2), own_up _ h, by omega⟩

theorem own_l0 {cs : List Int32} {N : Int32} {vs : List Value} (h : OwnStr cs 0 N vs) : N = Int32.ofNat cs.length ∧ vs = (cs.map fun c => Value.int (StrChars.lo8 c)) ∧ ∀ c ∈ cs, ¬ 255 < c := by
  rcases h.1 with ⟨-, a, b, c⟩ | ⟨q, -⟩
  · exact ⟨a, b, c⟩
  · exact absurd q (by decide)
theorem own_l1 {cs : List Int32} {N : Int32} {vs : List Value} (h1 : N = Int32.ofNat cs.length) (h2 : vs = (cs.map fun c => Value.int (StrChars.lo8 c))) (h3 : ∀ c ∈ cs, ¬ 255 < c) (h4 : ∀ c ∈ cs, ¬ c < 0 ∧ ¬ (65535 : Int32) < c) (h5 : cs.length ≤ 4000) : OwnStr cs 0 N vs := ⟨Or.inl ⟨rfl, h1, h2, h3⟩, h4, h5⟩
def OwnB (cs : List Int32) (q : Int32) (vsb : List Value) : Prop := OwnStr cs 0 q (vsb.take cs.length) ∧ vsb.length = 16 ∧ cs.length ≤ 15
theorem own_nat {n : Nat} (h : n ≤ 4000) : (Int32.ofNat n).toInt = (n : Int) ∧ ¬ Int32.ofNat n < 0 ∧ (Int32.ofNat n).toNatClampNeg = n := by
  have e : (Int32.ofNat n).toInt = (n : Int) := Int32.toInt_ofNat_of_lt (by omega)
  have e0 : (0 : Int32).toInt = 0 := rfl
  refine ⟨e, ?_, ?_⟩
  · rw [Int32.lt_iff_toInt_lt]; omega
  · simp only [Int32.toNatClampNeg]; omega
theorem own_addN (a b : Nat) : Int32.ofNat a + Int32.ofNat b = Int32.ofNat (a + b) := by
  apply Int32.toBitVec_inj.mp
  apply BitVec.eq_of_toNat_eq
  show ((BitVec.ofNat 32 a) + (BitVec.ofNat 32 b)).toNat = (BitVec.ofNat 32 (a + b)).toNat
  simp [BitVec.toNat_ofNat, BitVec.toNat_add]
theorem own_range {α : Type} (vs : List α) (d : α) (n : Nat) (h : n ≤ vs.length) : vs.take n = (List.range n).map fun i => vs.getD (0 + i) d := by
  apply List.ext_getElem?
  intro i
  by_cases hi : i < n
  · have h2 : i < vs.length := by omega
    simp [List.getElem?_take, hi, List.getD_eq_getElem?_getD, h2]
  · simp [List.getElem?_take, hi]
theorem own_app {cs ds : List Int32} {N M : Int32} {vs ws : List Value} (h : OwnStr cs 0 N vs) (k : OwnStr ds 0 M ws) (hl : cs.length + ds.length ≤ 4000) : OwnStr (cs ++ ds) 0 (N + M) (vs ++ ws) := by
  obtain ⟨a1, a2, a3⟩ := own_l0 h
  obtain ⟨b1, b2, b3⟩ := own_l0 k
  refine own_l1 ?_ ?_ ?_ ?_ ?_
  · rw [a1, b1, own_addN, List.length_append]
  · rw [a2, b2, List.map_append]
  · intro c hc; rcases List.mem_append.mp hc with q | q; exact a3 c q; exact b3 c q
  · intro c hc; rcases List.mem_append.mp hc with q | q; exact h.2.1 c q; exact k.2.1 c q
  · rw [List.length_append]; exact hl
theorem own_gb {cs ds : List Int32} {q N : Int32} {vs vsb : List Value} (h : OwnB cs q vsb) (k : OwnStr ds 0 N vs) (hl : cs.length + ds.length ≤ 15) :
    ¬ q < 0 ∧ ¬ N < 0 ∧ (0 : Int32).toNatClampNeg + N.toNatClampNeg ≤ N.toNatClampNeg ∧ q.toNatClampNeg + N.toNatClampNeg ≤ (16 : Int32).toNatClampNeg ∧ (vs = (List.range N.toNatClampNeg).map fun i => vs.getD ((0 : Int32).toNatClampNeg + i) (.int 0)) ∧ q.toNatClampNeg + N.toNatClampNeg ≤ vsb.length ∧
    OwnB (cs ++ ds) (q + N) (vsb.take q.toNatClampNeg ++ vs ++ vsb.drop (q.toNatClampNeg + N.toNatClampNeg)) := by
  obtain ⟨h1, h2, h3⟩ := h
  obtain ⟨a1, a2, a3⟩ := own_l0 h1
  obtain ⟨b1, b2, b3⟩ := own_l0 k
  have eq := own_nat (n := cs.length) (by omega)
  have en := own_nat (n := ds.length) (by omega)
  have e0 : (0 : Int32).toNatClampNeg = 0 := rfl
  have e16 : (16 : Int32).toNatClampNeg = 16 := rfl
  have hv : vs.length = ds.length := by rw [b2]; simp
  have ht : (vsb.take cs.length).length = cs.length := by rw [List.length_take]; omega
  rw [e0, e16]
  subst a1 b1
  rw [eq.2.2, en.2.2]
  refine ⟨eq.2.1, en.2.1, by omega, by omega, ?_, by omega, ?_, ?_, ?_⟩
  · conv => lhs; rw [← List.take_length (l := vs), hv]
    exact own_range vs _ _ (by omega)
  · have e : ((vsb.take cs.length ++ vs) ++ vsb.drop (cs.length + ds.length)).take (cs ++ ds).length = vsb.take cs.length ++ vs := by
      apply List.take_left'
      rw [List.length_append, List.length_append, ht, hv]
    rw [e]
    exact own_app h1 k (by omega)
  · rw [List.length_append, List.length_append, List.length_drop, ht, hv]; omega
  · rw [List.length_append]; exact hl
theorem own_b0 : OwnB [] (0 : Int32) [(.int 0), (.int 0), (.int 0), (.int 0), (.int 0), (.int 0), (.int 0), (.int 0), (.int 0), (.int 0), (.int 0), (.int 0), (.int 0), (.int 0), (.int 0), (.int 0)] :=
  ⟨own_l1 rfl rfl (fun _ h => nomatch h) (fun _ h => nomatch h) (by decide), rfl, by decide⟩
theorem own_q {cs : List Int32} {q : Int32} {vsb : List Value} (h : OwnB cs q vsb) : ¬ q < (0 : Int32) ∧ q < (16 : Int32) ∧ ¬ (q = (16 : Int32)) ∧ q.toNatClampNeg ≤ 16 ∧ ¬ ((0 : Int32) < (q - (16 : Int32))) := by
  obtain ⟨h1, h2, h3⟩ := h
  obtain ⟨a1, -⟩ := own_l0 h1
  have eq := own_nat (n := cs.length) (by omega)
  have e16 : (16 : Int32).toInt = 16 := rfl
  have e0 : (0 : Int32).toInt = 0 := rfl
  subst a1
  refine ⟨eq.2.1, ?_, ?_, ?_, ?_⟩
  · rw [Int32.lt_iff_toInt_lt]; omega
  · intro z; have := congrArg Int32.toInt z; omega
  · omega
  · rw [Int32.lt_iff_toInt_lt, Int32.toInt_sub, eq.1, e16, e0, Int.bmod_eq_of_le (by omega) (by omega)]; omega
theorem own_cr {cs : List Int32} {q : Int32} {vsb : List Value} (h : OwnB cs q vsb) :
    (0 : Int32).toNatClampNeg + q.toNatClampNeg ≤ (16 : Int32).toNatClampNeg ∧ (0 : Int32).toNatClampNeg + q.toNatClampNeg ≤ q.toNatClampNeg ∧ (vsb.take cs.length = (List.range q.toNatClampNeg).map fun i => vsb.getD ((0 : Int32).toNatClampNeg + i) (.int 0)) ∧ (0 : Int32).toNatClampNeg + q.toNatClampNeg ≤ ([] ++ List.replicate cs.length (Value.int (0 : Int32))).length ∧
    ([] ++ List.replicate cs.length (Value.int (0 : Int32))).take (0 : Int32).toNatClampNeg ++ vsb.take cs.length ++ ([] ++ List.replicate cs.length (Value.int (0 : Int32))).drop ((0 : Int32).toNatClampNeg + q.toNatClampNeg) = vsb.take cs.length := by
  obtain ⟨h1, h2, h3⟩ := h
  obtain ⟨a1, -⟩ := own_l0 h1
  have eq := own_nat (n := cs.length) (by omega)
  have e0 : (0 : Int32).toNatClampNeg = 0 := rfl
  have e16 : (16 : Int32).toNatClampNeg = 16 := rfl
  subst a1
  rw [e0, e16, eq.2.2]
  refine ⟨by omega, by omega, ?_, ?_, ?_⟩
  · exact own_range vsb _ _ (by omega)
  · simp
  · simp
theorem own_shl0 (c : Int32) : c <<< ((0 : Int32) &&& 31) = c := by
  have e : ((0 : Int32) &&& 31) = 0 := by decide
  rw [e]
  apply Int32.toBitVec_inj.mp
  rw [Int32.toBitVec_shiftLeft]
  have e1 : ((0 : Int32).toBitVec.smod 32) = 0#32 := by decide
  rw [e1]
  apply BitVec.eq_of_toNat_eq
  simp
theorem own_sub0 (c : Int32) : c - (0 : Int32) = c := by simp
theorem own_shr0 (c : Int32) : c >>> ((0 : Int32) &&& 31) = c := by
  have e : ((0 : Int32) &&& 31) = 0 := by decide
  rw [e]
  apply Int32.toBitVec_inj.mp
  rw [Int32.toBitVec_shiftRight]
  have e1 : ((0 : Int32).toBitVec.smod 32) = 0#32 := by decide
  rw [e1, BitVec.sshiftRight_eq']
  exact BitVec.sshiftRight_zero

theorem own_nar_w {c : Int32} (h : ¬ c < 0 ∧ ¬ (65535 : Int32) < c) : nar .char c = c := by
  have q := StrChars.narrow_ch h.1 h.2
  injection q
def OwnL (N : Int32) (vs : List Value) (i c : Int32) : Prop := ∃ v : Int32, (¬ i < 0 ∧ i < N) ∧ vs.getD i.toNatClampNeg (.int 0) = .int v ∧ (nar .char (v &&& (255 : Int32))) = c ∧ nar .char c = c
theorem own_rg {cs : List Int32} {N : Int32} {vs : List Value} (h : OwnStr cs 0 N vs) {j : Nat} (hj : j < cs.length) : nar .char (cs.getD j 0) = cs.getD j 0 := by
  have e : cs.getD j 0 = cs[j] := by simp [List.getD_eq_getElem?_getD, hj]
  exact own_nar_w (by rw [e]; exact h.2.1 _ (List.getElem_mem _))
theorem own_chL {cs : List Int32} {N : Int32} {vs : List Value} (h : OwnStr cs 0 N vs) {j : Nat} (hj : j < cs.length) : OwnL N vs (Int32.ofNat j) (cs.getD j 0) := by
  obtain ⟨a1, a2, a3⟩ := own_l0 h
  have h3 := h.2.2
  have e : cs.getD j 0 = cs[j] := by simp [List.getD_eq_getElem?_getD, hj]
  have hr : ¬ cs.getD j 0 < 0 ∧ ¬ (65535 : Int32) < cs.getD j 0 := by rw [e]; exact h.2.1 _ (List.getElem_mem _)
  have hc2 : ¬ 255 < cs.getD j 0 := by rw [e]; exact a3 _ (List.getElem_mem _)
  have ej := own_nat (n := j) (by omega)
  have el := own_nat (n := cs.length) h3
  subst a1 a2
  refine ⟨StrChars.lo8 (cs.getD j 0), ⟨ej.2.1, by rw [Int32.lt_iff_toInt_lt]; omega⟩, ?_, ?_, own_nar_w hr⟩
  · rw [ej.2.2, StrChars.Road.low_at _ cs j hj]
  · rw [StrChars.lo8_mask hr.1 hc2, own_nar_w hr]
def OwnR (k o : List Int32) : List Int32 := ((([] ++ k) ++ [32, 40]) ++ o) ++ [41]
theorem own_rlen (k o : List Int32) : (OwnR k o).length = k.length + o.length + 3 := by simp [OwnR]; omega
theorem own_e1 {k o : List Int32} {nk no : Int32} {vk vo : List Value} {j : Nat} (h : OwnStr k 0 nk vk) (hj : j ≤ 6) (q : Int32.ofNat j < nk) : (OwnR k o).getD j 0 = k.getD j 0 ∧ j < k.length := by
  obtain ⟨a1, -⟩ := own_l0 h
  have h3 := h.2.2
  subst a1
  rw [Int32.lt_iff_toInt_lt, (own_nat (n := j) (by omega)).1, (own_nat h3).1] at q
  have hq : j < k.length := by omega
  refine ⟨?_, hq⟩
  simp [OwnR, List.getD_eq_getElem?_getD, List.getElem?_append, hq, show j < k.length + 2 + o.length by omega, show j < k.length + (o.length + 1 + 1) by omega]
theorem own_ofN {a b : Nat} (ha : a ≤ 4000) (hb : b ≤ 4000) (h : Int32.ofNat a = Int32.ofNat b) : a = b := by
  have := congrArg Int32.toInt h
  rw [(own_nat ha).1, (own_nat hb).1] at this
  omega
theorem own_e2 {k o : List Int32} {nk : Int32} {vk : List Value} {j : Nat} (h : OwnStr k 0 nk vk) (hj : j ≤ 6) (q : Int32.ofNat j = nk) : (OwnR k o).getD j 0 = 32 := by
  obtain ⟨a1, -⟩ := own_l0 h
  have e := own_ofN (by omega) h.2.2 (q.trans a1)
  subst e
  simp [OwnR, List.getD_eq_getElem?_getD, List.getElem?_append]
theorem own_e3 {k o : List Int32} {nk : Int32} {vk : List Value} {j : Nat} (h : OwnStr k 0 nk vk) (hk : k.length ≤ 2) (hj : j ≤ 6) (q : Int32.ofNat j = nk + (1 : Int32)) : (OwnR k o).getD j 0 = 40 := by
  obtain ⟨a1, -⟩ := own_l0 h
  have e := own_ofN (by omega) (by omega) (q.trans ((congrArg (· + (1 : Int32)) a1).trans (own_addN k.length 1)))
  subst e
  simp [OwnR, List.getD_eq_getElem?_getD, List.getElem?_append]
theorem own_req (k o : List Int32) (m : Nat) : (OwnR k o).getD (k.length + 2 + m) 0 = (o ++ [41]).getD m 0 := by
  have e : OwnR k o = (k ++ [32, 40]) ++ (o ++ [41]) := by simp [OwnR]
  have el : k.length + 2 + m = (k ++ [32, 40]).length + m := by simp
  rw [e, el, List.getD_eq_getElem?_getD, List.getD_eq_getElem?_getD, List.getElem?_append_right (by omega), Nat.add_sub_cancel_left]
theorem own_e4 {k o : List Int32} {nk no : Int32} {vk vo : List Value} {j : Nat} (h : OwnStr k 0 nk vk) (g : OwnStr o 0 no vo) (hk : k.length ≤ 2) (ho : o.length ≤ 2) (hj : j ≤ 6) (n1 : ¬ Int32.ofNat j < nk) (n2 : ¬ Int32.ofNat j = nk) (n3 : ¬ Int32.ofNat j = nk + (1 : Int32)) (q : Int32.ofNat j < (nk + (2 : Int32)) + no) :
    (OwnR k o).getD j 0 = o.getD (j - k.length - 2) 0 ∧ (Int32.ofNat j - nk) - (2 : Int32) = Int32.ofNat (j - k.length - 2) ∧ j - k.length - 2 < o.length := by
  obtain ⟨a1, -⟩ := own_l0 h
  obtain ⟨b1, -⟩ := own_l0 g
  subst a1 b1
  have e2 : (2 : Int32) = Int32.ofNat 2 := rfl
  have e1 : (1 : Int32) = Int32.ofNat 1 := rfl
  rw [e2, own_addN, own_addN, Int32.lt_iff_toInt_lt, (own_nat (n := j) (by omega)).1, (own_nat (n := k.length + 2 + o.length) (by omega)).1] at q
  rw [Int32.lt_iff_toInt_lt, (own_nat (n := j) (by omega)).1, (own_nat (n := k.length) (by omega)).1] at n1
  have m2 : j ≠ k.length := fun z => n2 (by rw [z])
  have m3 : j ≠ k.length + 1 := fun z => n3 (by rw [z, e1, own_addN])
  obtain ⟨i, rfl⟩ : ∃ i, j = k.length + 2 + i := ⟨j - k.length - 2, by omega⟩
  have ei : k.length + 2 + i - k.length - 2 = i := by omega
  rw [ei]
  refine ⟨?_, ?_, by omega⟩
  · have hi : i < o.length := by omega
    rw [own_req, List.getD_eq_getElem?_getD, List.getElem?_append_left hi, ← List.getD_eq_getElem?_getD]
  · rw [← own_addN, ← own_addN, e2]
    apply Int32.toBitVec_inj.mp
    apply BitVec.eq_of_toNat_eq
    simp
    omega
theorem own_e5 {k o : List Int32} {nk no : Int32} {vk vo : List Value} {j : Nat} (h : OwnStr k 0 nk vk) (g : OwnStr o 0 no vo) (hk : k.length ≤ 2) (ho : o.length ≤ 2) (hj : j ≤ 6) (hl : j < k.length + o.length + 3) (q : ¬ Int32.ofNat j < (nk + (2 : Int32)) + no) : (OwnR k o).getD j 0 = 41 := by
  obtain ⟨a1, -⟩ := own_l0 h
  obtain ⟨b1, -⟩ := own_l0 g
  subst a1 b1
  have e2 : (2 : Int32) = Int32.ofNat 2 := rfl
  rw [e2, own_addN, own_addN, Int32.lt_iff_toInt_lt, (own_nat (n := j) (by omega)).1, (own_nat (n := k.length + 2 + o.length) (by omega)).1] at q
  obtain rfl : j = k.length + 2 + o.length := by omega
  rw [own_req]
  simp [List.getD_eq_getElem?_getD]
theorem own_jn {k o : List Int32} {n : Int32} {j : Nat} (hk : k.length ≤ 2) (ho : o.length ≤ 2) (hj : j ≤ 6) (hn : n = Int32.ofNat (k.length + o.length + 3)) (q : Int32.ofNat j < n) : j < k.length + o.length + 3 := by
  subst hn
  rw [Int32.lt_iff_toInt_lt, (own_nat (n := j) (by omega)).1, (own_nat (n := k.length + o.length + 3) (by omega)).1] at q
  omega
theorem own_nn {k o : List Int32} {nk no kl ol : Int32} {vk vo : List Value} (h : OwnStr k 0 nk vk) (g : OwnStr o 0 no vo) (e1 : nk = kl) (e2 : no = ol) : ((kl + ol) + (3 : Int32)) = Int32.ofNat (k.length + o.length + 3) := by
  obtain ⟨a1, -⟩ := own_l0 h
  obtain ⟨b1, -⟩ := own_l0 g
  subst e1 e2 a1 b1
  rw [own_addN, show (3 : Int32) = Int32.ofNat 3 from rfl, own_addN]
theorem own_and3 (x : Int32) : ((x &&& (3 : Int32)) % (3 : Int32)) = 0 ∨ ((x &&& (3 : Int32)) % (3 : Int32)) = 1 ∨ ((x &&& (3 : Int32)) % (3 : Int32)) = 2 := by
  have t : ∀ k : Fin 4, (Int32.ofNat k.val % (3 : Int32)) = 0 ∨ (Int32.ofNat k.val % (3 : Int32)) = 1 ∨ (Int32.ofNat k.val % (3 : Int32)) = 2 := by decide +kernel
  have h : (x &&& 3).toBitVec.toNat < 4 := by
    simp only [Int32.toBitVec_and, BitVec.toNat_and]
    exact Nat.lt_succ_of_le Nat.and_le_right
  have e : (x &&& 3) = Int32.ofNat (x &&& 3).toBitVec.toNat := by
    apply Int32.toBitVec_inj.mp
    show _ = BitVec.ofNat 32 _
    rw [BitVec.ofNat_toNat]; simp
  rw [e]
  exact t ⟨_, h⟩
theorem ef_si6e (m : MethodId) (x0 : Addr) (x1 : Addr) : entryFrame m #[(.ref x0), (.ref x1), (.int 0), (.int 0), .null] 6 = mkF m 0 #[vR x0, vR x1, vI 0, vI 0, .val .null, vU] [] := by
  first | (simp [entryFrame, mkF, argsToLocals, Value.category]; done) | rfl
def Q_si6e (Z : State) (a1 : Addr) (b1 : Addr) (h0 : Heap) (n0 : Nat) (v : Option Value) (h : Heap) (L : List Loc) : Prop := ∃ (t : Addr), ∃ (k : ClassId), v = none ∧ Fr n0 L ∧ Keep h0 h ([a1] : List Addr) ∧ Exa Z h a1 "java/lang/String" ∧ Fld Z h a1 "java/lang/String" "value" "[B" (.ref t) ∧ Fld Z h a1 "java/lang/String" "coder" "B" (.int 0) ∧ Arv Z h t k .byte (0 : Int32) [] (.int 0)
def OwnCx (Z : State) (a0 : Array Value) (wG1 : Int32) (wG3 : Value) : Prop := (Sta Z Z.heap "java/lang/String" "COMPACT_STRINGS" "Z" (.int wG1)) ∧ (¬ (wG1 = (0 : Int32))) ∧ (Sta Z Z.heap "jdk/internal/util/Preconditions" "SIOOBE_FORMATTER" "Ljava/util/function/BiFunction;" wG3) ∧ (wG3.isRef = true) ∧ (∀ a ∈ Bundle.stringAtoms, a.before a0 Z = true)
theorem pn_52039224 : plainName "java/lang/String" = true := by first | (simp [plainName, overriddenIn]; done) | decide +kernel
theorem d0_0 : decode jdk_42_method_149_code 0 = .ok (.aload_n 0, 1) := by decide +kernel
theorem d0_1 : decode jdk_42_method_149_code 1 = .ok (.invokespecial 1, 3) := by decide +kernel
theorem d0_4 : decode jdk_42_method_149_code 4 = .ok (.iload_n 3, 1) := by decide +kernel
theorem d0_5 : decode jdk_42_method_149_code 5 = .ok (.ifCond .ne 22, 3) := by decide +kernel
theorem d0_8 : decode jdk_42_method_149_code 8 = .ok (.aload_n 0, 1) := by decide +kernel
theorem d0_9 : decode jdk_42_method_149_code 9 = .ok (.ldc 7, 2) := by decide +kernel
theorem d0_11 : decode jdk_42_method_149_code 11 = .ok (.getfield 9, 3) := by decide +kernel
theorem d0_14 : decode jdk_42_method_149_code 14 = .ok (.putfield 9, 3) := by decide +kernel
theorem d0_17 : decode jdk_42_method_149_code 17 = .ok (.aload_n 0, 1) := by decide +kernel
theorem d0_18 : decode jdk_42_method_149_code 18 = .ok (.ldc 7, 2) := by decide +kernel
theorem d0_20 : decode jdk_42_method_149_code 20 = .ok (.getfield 15, 3) := by decide +kernel
theorem d0_23 : decode jdk_42_method_149_code 23 = .ok (.putfield 15, 3) := by decide +kernel
theorem d0_26 : decode jdk_42_method_149_code 26 = .ok (.return_, 1) := by decide +kernel
set_option maxRecDepth 65536 in
set_option maxHeartbeats 40000000 in
theorem rm_si6e (l : Launch) (Z : State) (a0 : Array Value) (hw : ∀ d ∈ tables_1, d.before a0 Z = true) (ws : List Jvm.Cond) (wG1 : Int32) (wG3 : Value) (cx : OwnCx Z a0 wG1 wG3) (hEL : EW Z a0 consts_1) (h0 : Heap) (n0 : Nat) (X00 : Old Z n0 h0) (a1 : Addr) (b1 : Addr) (f0 : Exa Z h0 a1 "java/lang/String") (f1 : Fld Z h0 a1 "java/lang/String" "value" "[B" .null) (f2 : Fld Z h0 a1 "java/lang/String" "coder" "B" (.int 0)) (f3 : n0 ≤ a1) :
    MetFree l mN0 (head1 (Jvm.Cond.code mN0 jdk_42_method_149_code 6 none :: ws) (oR 1 4 8 12)) (fun a U => a = #[(.ref a1), (.ref b1), (.int 0), (.int 0), .null] ∧ Z.Warmed39 U.vm ∧ U.heap = h0 ∧ CHv Z consts_1 U.vm h0) (fun _ _ _ _ _ => True) (fun _ U o U' => ∃ v L, o = .returned v ∧ Q_si6e Z a1 b1 h0 n0 v U'.heap L ∧ CHr Z consts_1 U.vm U.heap U'.vm U'.heap ∧ ReturnedEndW U o U' L (oR 1 4 8 12).cells (oR 1 4 8 12).slots) := by
  refine MetFree.of_bodySF (plainFor_of_name pn_52039224) hisR ?_
  intro p e s m args below meth c s₁ Bd hml0 hP hK
  obtain ⟨rfl, hZ, hh, hH⟩ := hP
  obtain ⟨wO2, wP5, wO4, wrG3, hstr⟩ := id cx
  have hx := Bd.exec
  have hby := Bd.bytes
  have hlk := Bd.notSynchronized
  have hml : c.maxLocals = 6 := hml0
  have hown : s.vm.findClass "java/lang/String" = some m.cls := findClass_of_methodNamed Bd.named
  have hnm := (name_of_methodNamed Bd.named Bd.method).1
  have X0 : Stand p l e (oR 1 4 8 12) (s.setVm s.vm) m #[(.ref a1), (.ref b1), (.int 0), (.int 0), .null] below meth c s₁ [] 0 0 := Stand.of_body Bd
  have e0 : s₁.heap = h0 := by rw [← hh, Bd.state]; rfl
  have N0 := Fr.nil n0
  have Z0 : n0 ≤ h0.size := X00.1 ▸ X00.2.1
  have K0 : Keep h0 h0 ([a1] : List Addr) := Keep.refl _ _
  have R0 : CHr Z consts_1 s.vm h0 s.vm h0 := CHr.refl hH
  have hS0 : s.Since s.vm h0.size := State.WarmedH.since (State.WarmedH.refl s) _
  have hk0 : h0.size ≤ h0.size := Nat.le_refl _
  have Sf0_a1 : Safe Z consts_1 s.vm h0 a1 := (own_safe_null (vm := s.vm) hZ.alike (own_w hw 5 rfl) f0 f1)
  show OwnGoes p e below _ s₁ (entryFrame m _ _)
  refine og s₁ m 0 #[vR a1, vR b1, vI 0, vI 0, .val .null, vU] [] (fun tgt kgo => castTop (ef_si6e m a1 b1) kgo) ?_
  refine og s₁ m 1 #[vR a1, vR b1, vI 0, vI 0, .val .null, vU] [(.ref a1)] (fun tgt kgo => ?_) ?_
  · refine XS.aloadN X0.here hx rfl (hb hby d0_0) rfl rfl ?_
    exact kgo
  obtain ⟨T1, X1, e1, st1⟩ := initO X0 hx hZ hown (own_w hw 15 rfl) (own_w hw 16 rfl) (own_w hw 17 rfl) e0 (g := (mkF m 1 #[vR a1, vR b1, vI 0, vI 0, .val .null, vU] [(.ref a1)])) rfl (by rw [hml]; rfl) rfl (hb hby d0_1) (by decide) (W := 0) (Nat.le_of_eq rfl) (by decide)
  refine og T1 m 4 #[vR a1, vR b1, vI 0, vI 0, .val .null, vU] [] st1 ?_
  refine og T1 m 9 #[vR a1, vR b1, vI 0, vI 0, .val .null, vU] [(.ref a1)] (fun tgt kgo => ?_) ?_
  · refine XS.iloadN X1.here hx rfl (hb hby d0_4) rfl ?_
    show OwnG p e below T1 m 5 #[vR a1, vR b1, vI 0, vI 0, .val .null, vU] [(.int 0)] tgt
    refine XS.ifNo X1.here hx rfl (hb hby d0_5) rfl ((if0 _ _).trans (teq (by decide : (0 : Int32) = (0 : Int32))).2) ?_
    show OwnG p e below T1 m 8 #[vR a1, vR b1, vI 0, vI 0, .val .null, vU] [] tgt
    refine XS.aloadN X1.here hx rfl (hb hby d0_8) rfl rfl ?_
    exact kgo
  obtain ⟨b2, T2, h2, kk2, t2, k2, X2, e2, E2, hS2, hk2, hZ2, ho2, A2, Fc2, Fv2, V2, lt2, lu2, Rc2, Lt2, ns2, st2⟩ := ldcCH X1 hx hZ hown (own_w hw 34 rfl) hstr e1 hS0 hk0 hEL (by decide) R0.1 (vs := []) (z := (0 : Int32)) (by decide +kernel) (by decide) (by decide +kernel) (g := (mkF m 9 #[vR a1, vR b1, vI 0, vI 0, .val .null, vU] [(.ref a1)])) rfl (hb hby d0_9) (n := 0) (by decide) (by decide) (by decide) (by decide)
  refine og T2 m 11 #[vR a1, vR b1, vI 0, vI 0, .val .null, vU] [(.ref b2), (.ref a1)] st2 ?_
  have F2_1 := f0.ext E2
  have F2_2 := f1.ext E2
  have F2_3 := f2.ext E2
  have F2_4 := Rc2.safe f0.lt Sf0_a1
  have Ol2 := X00.ext E2
  have K2 : Keep h0 h2 ([a1] : List Addr) := K0.ext E2
  have R2 := R0.trans Rc2
  have nl2_a1 := ns2 _ F2_4
  obtain ⟨T3, X3, e3, st3⟩ := getF X2 hx hZ2 ho2 (host := "") (Or.inl (own_w hw 32 rfl)) Via.refl e2 Fv2 (g := (mkF m 11 #[vR a1, vR b1, vI 0, vI 0, .val .null, vU] [(.ref b2), (.ref a1)])) rfl rfl (hb hby d0_11)
  refine og T3 m 14 #[vR a1, vR b1, vI 0, vI 0, .val .null, vU] [(.ref t2), (.ref a1)] st3 ?_
  obtain ⟨T4, h4, X4, e4, W4, st4⟩ := putF X3 hx hZ2 ho2 (host := "") (Or.inl (own_w hw 32 rfl)) Via.refl e3 F2_2 F2_1 (Or.inr ⟨(own_w hw 33 rfl), rfl, hnm⟩) (own_w hw 5 rfl) (ty := (.array .byte)) (by decide) rfl rfl (g := (mkF m 14 #[vR a1, vR b1, vI 0, vI 0, .val .null, vU] [(.ref t2), (.ref a1)])) rfl rfl (hb hby d0_14)
  refine og T4 m 17 #[vR a1, vR b1, vI 0, vI 0, .val .null, vU] [] st4 ?_
  have Fw4 := F2_2.same W4
  have F4_5 := F2_1.wr W4
  have F4_6 := F2_3.other W4 (Or.inr (slot_ne (Or.inr (own_w hw 31 rfl)) (Or.inr (own_w hw 33 rfl)) (by decide) (t := .byte) (t' := (.array .byte)) (by decide) (by decide)))
  have F4_7 := Safe.wr W4 F2_4 R2.1 F2_4
  have F4_8 := A2.wr W4
  have F4_9 := Fc2.other W4 (Or.inl (Ne.symm nl2_a1.1))
  have F4_10 := Fv2.other W4 (Or.inl (Ne.symm nl2_a1.1))
  have F4_11 := V2.other W4 (Ne.symm nl2_a1.2)
  have Ol4 := Ol2.wr W4 f3
  have K4 : Keep h0 h4 ([a1] : List Addr) := K2.wr W4 (Or.inl (List.mem_of_getElem? (i := 0) rfl))
  have R4 := R2.trans (CHr.wr W4 F2_4 R2.1)
  have hk4 := Nat.le_trans hk2 (Keep.of_wr W4).1
  have N4 := Fr.snoc X4 N0 f3
  refine og T4 m 18 #[vR a1, vR b1, vI 0, vI 0, .val .null, vU] [(.ref a1)] (fun tgt kgo => ?_) ?_
  · refine XS.aloadN X4.here hx rfl (hb hby d0_17) rfl rfl ?_
    exact kgo
  obtain ⟨b5, T5, h5, kk5, t5, k5, X5, e5, E5, hS5, hk5, hZ5, ho5, A5, Fc5, Fv5, V5, lt5, lu5, Rc5, Lt5, ns5, st5⟩ := ldcCH X4 hx hZ2 ho2 (own_w hw 34 rfl) hstr e4 hS2 hk4 hEL (by decide) R4.1 (vs := []) (z := (0 : Int32)) (by decide +kernel) (by decide) (by decide +kernel) (g := (mkF m 18 #[vR a1, vR b1, vI 0, vI 0, .val .null, vU] [(.ref a1)])) rfl (hb hby d0_18) (n := 0) (by decide) (by decide) (by decide) (by decide)
  refine og T5 m 20 #[vR a1, vR b1, vI 0, vI 0, .val .null, vU] [(.ref b5), (.ref a1)] st5 ?_
  have F5_12 := F4_5.ext E5
  have F5_13 := Fw4.ext E5
  have F5_14 := F4_6.ext E5
  have F5_15 := Rc5.safe F4_5.lt F4_7
  have F5_16 := F4_8.ext E5
  have F5_17 := F4_9.ext E5
  have F5_18 := F4_10.ext E5
  have F5_19 := F4_11.ext E5
  have Ol5 := Ol4.ext E5
  have K5 : Keep h0 h5 ([a1] : List Addr) := K4.ext E5
  have R5 := R4.trans Rc5
  have nl5_a1 := ns5 _ F5_15
  obtain ⟨T6, X6, e6, st6⟩ := getF X5 hx hZ5 ho5 (host := "") (Or.inl (own_w hw 30 rfl)) Via.refl e5 Fc5 (g := (mkF m 20 #[vR a1, vR b1, vI 0, vI 0, .val .null, vU] [(.ref b5), (.ref a1)])) rfl rfl (hb hby d0_20)
  refine og T6 m 23 #[vR a1, vR b1, vI 0, vI 0, .val .null, vU] [(.int 0), (.ref a1)] st6 ?_
  obtain ⟨T7, h7, X7, e7, W7, st7⟩ := putFN X6 hx hZ5 ho5 (own_w hw 30 rfl) Via.refl e6 F5_14 F5_12 (Or.inr ⟨(own_w hw 31 rfl), rfl, hnm⟩) (own_w hw 5 rfl) (ty := .byte) (v' := (.int (nar .byte (0 : Int32)))) (by decide) rfl (fits_nar_byte _) (g := (mkF m 23 #[vR a1, vR b1, vI 0, vI 0, .val .null, vU] [(.int 0), (.ref a1)])) rfl rfl (hb hby d0_23)
  refine og T7 m 26 #[vR a1, vR b1, vI 0, vI 0, .val .null, vU] [] st7 ?_
  have Fw7 := F5_14.same W7
  rw [(by decide : nar .byte (0 : Int32) = (0 : Int32))] at Fw7
  have F7_20 := F5_12.wr W7
  have F7_21 := F5_13.other W7 (Or.inr (slot_ne (Or.inr (own_w hw 33 rfl)) (Or.inr (own_w hw 31 rfl)) (by decide) (t := (.array .byte)) (t' := .byte) (by decide) (by decide)))
  have F7_22 := Safe.wr W7 F5_15 R5.1 F5_15
  have F7_23 := F5_16.wr W7
  have F7_24 := F5_17.other W7 (Or.inl (Ne.symm nl2_a1.1))
  have F7_25 := F5_18.other W7 (Or.inl (Ne.symm nl2_a1.1))
  have F7_26 := F5_19.other W7 (Ne.symm nl2_a1.2)
  have F7_27 := A5.wr W7
  have F7_28 := Fc5.other W7 (Or.inl (Ne.symm nl5_a1.1))
  have F7_29 := Fv5.other W7 (Or.inl (Ne.symm nl5_a1.1))
  have F7_30 := V5.other W7 (Ne.symm nl5_a1.2)
  have Ol7 := Ol5.wr W7 f3
  have K7 : Keep h0 h7 ([a1] : List Addr) := K5.wr W7 (Or.inl (List.mem_of_getElem? (i := 0) rfl))
  have R7 := R5.trans (CHr.wr W7 F5_15 R5.1)
  have hk7 := Nat.le_trans hk5 (Keep.of_wr W7).1
  have N7 := Fr.snoc X7 N4 f3
  refine own_leaveW (Z := Z) (EL := consts_1) X7 hS5 (e7 ▸ hk7) hlk (v := none) (fun _ => rfl) (fun fs hr => X7.returnOut hx Bd.returns (hb hby d0_26) hr) (by decide) (by decide) ?_ ?_
  · rw [hh, e7]
    exact R7.trans (CHv.at X7 hZ5 hEL R7.1)
  show Q_si6e Z a1 b1 h0 n0 _ T7.heap _
  rw [e7]
  exact ⟨t2, k2, rfl, N7, K7, F7_20, F7_21, Fw7, F7_26⟩
theorem ef_si2e (m : MethodId) (x0 : Addr) (x1 : Addr) : entryFrame m #[(.ref x0), (.ref x1)] 2 = mkF m 0 #[vR x0, vR x1] [] := by
  first | (simp [entryFrame, mkF, argsToLocals, Value.category]; done) | rfl
def Q_si2e (Z : State) (a1 : Addr) (b1 : Addr) (kc : ClassId) (h0 : Heap) (n0 : Nat) (v : Option Value) (h : Heap) (L : List Loc) : Prop := ∃ (t : Addr), ∃ (k : ClassId), v = none ∧ Fr n0 L ∧ Keep h0 h ([a1] : List Addr) ∧ Exa Z h a1 "java/lang/String" ∧ Fld Z h a1 "java/lang/String" "value" "[B" (.ref t) ∧ Fld Z h a1 "java/lang/String" "coder" "B" (.int 0) ∧ Arv Z h t k .byte (0 : Int32) [] (.int 0)
theorem d1_0 : decode jdk_42_method_3_code 0 = .ok (.aload_n 0, 1) := by decide +kernel
theorem d1_1 : decode jdk_42_method_3_code 1 = .ok (.aload_n 1, 1) := by decide +kernel
theorem d1_2 : decode jdk_42_method_3_code 2 = .ok (.iconst 0, 1) := by decide +kernel
theorem d1_3 : decode jdk_42_method_3_code 3 = .ok (.aload_n 1, 1) := by decide +kernel
theorem d1_4 : decode jdk_42_method_3_code 4 = .ok (.arraylength, 1) := by decide +kernel
theorem d1_5 : decode jdk_42_method_3_code 5 = .ok (.aconst_null, 1) := by decide +kernel
theorem d1_6 : decode jdk_42_method_3_code 6 = .ok (.invokespecial 27, 3) := by decide +kernel
theorem pd_10261703 : parseMethodDescriptor "([CIILjava/lang/Void;)V" = some ⟨[(.array .char), .int, .int, (.object "java/lang/Void")], none⟩ := by decide +kernel
theorem d1_9 : decode jdk_42_method_3_code 9 = .ok (.return_, 1) := by decide +kernel
set_option maxRecDepth 65536 in
set_option maxHeartbeats 40000000 in
theorem rm_si2e (l : Launch) (Z : State) (a0 : Array Value) (hw : ∀ d ∈ tables_1, d.before a0 Z = true) (ws : List Jvm.Cond) (wG1 : Int32) (wG3 : Value) (cx : OwnCx Z a0 wG1 wG3) (hEL : EW Z a0 consts_1) (h0 : Heap) (n0 : Nat) (X00 : Old Z n0 h0) (a1 : Addr) (b1 : Addr) (kc : ClassId) (f0 : Exa Z h0 a1 "java/lang/String") (f1 : Fld Z h0 a1 "java/lang/String" "value" "[B" .null) (f2 : Fld Z h0 a1 "java/lang/String" "coder" "B" (.int 0)) (f3 : n0 ≤ a1) (f4 : Arv Z h0 b1 kc .char (0 : Int32) [] (.int 0)) :
    MetFree l mN1 (head1 (Jvm.Cond.code mN1 jdk_42_method_3_code 2 none :: ws) (oR 2 4 8 29)) (fun a U => a = #[(.ref a1), (.ref b1)] ∧ Z.Warmed39 U.vm ∧ U.heap = h0 ∧ CHv Z consts_1 U.vm h0) (fun _ _ _ _ _ => True) (fun _ U o U' => ∃ v L, o = .returned v ∧ Q_si2e Z a1 b1 kc h0 n0 v U'.heap L ∧ CHr Z consts_1 U.vm U.heap U'.vm U'.heap ∧ ReturnedEndW U o U' L (oR 2 4 8 29).cells (oR 2 4 8 29).slots) := by
  refine MetFree.of_bodySF (plainFor_of_name pn_52039224) hisR ?_
  intro p e s m args below meth c s₁ Bd hml0 hP hK
  obtain ⟨rfl, hZ, hh, hH⟩ := hP
  obtain ⟨wO2, wP5, wO4, wrG3, hstr⟩ := id cx
  have hx := Bd.exec
  have hby := Bd.bytes
  have hlk := Bd.notSynchronized
  have hml : c.maxLocals = 2 := hml0
  have hown : s.vm.findClass "java/lang/String" = some m.cls := findClass_of_methodNamed Bd.named
  have hnm := (name_of_methodNamed Bd.named Bd.method).1
  have X0 : Stand p l e (oR 2 4 8 29) (s.setVm s.vm) m #[(.ref a1), (.ref b1)] below meth c s₁ [] 0 0 := Stand.of_body Bd
  have e0 : s₁.heap = h0 := by rw [← hh, Bd.state]; rfl
  have N0 := Fr.nil n0
  have Z0 : n0 ≤ h0.size := X00.1 ▸ X00.2.1
  have K0 : Keep h0 h0 ([a1] : List Addr) := Keep.refl _ _
  have R0 : CHr Z consts_1 s.vm h0 s.vm h0 := CHr.refl hH
  have hS0 : s.Since s.vm h0.size := State.WarmedH.since (State.WarmedH.refl s) _
  have hk0 : h0.size ≤ h0.size := Nat.le_refl _
  have Sf0_a1 : Safe Z consts_1 s.vm h0 a1 := (own_safe_null (vm := s.vm) hZ.alike (own_w hw 5 rfl) f0 f1)
  show OwnGoes p e below _ s₁ (entryFrame m _ _)
  refine og s₁ m 0 #[vR a1, vR b1] [] (fun tgt kgo => castTop (ef_si2e m a1 b1) kgo) ?_
  refine og s₁ m 6 #[vR a1, vR b1] [.null, (.int 0), (.int 0), (.ref b1), (.ref a1)] (fun tgt kgo => ?_) ?_
  · refine XS.aloadN X0.here hx rfl (hb hby d1_0) rfl rfl ?_
    show OwnG p e below s₁ m 1 #[vR a1, vR b1] [(.ref a1)] tgt
    refine XS.aloadN X0.here hx rfl (hb hby d1_1) rfl rfl ?_
    show OwnG p e below s₁ m 2 #[vR a1, vR b1] [(.ref b1), (.ref a1)] tgt
    refine XS.iconst X0.here hx rfl (hb hby d1_2) ?_
    show OwnG p e below s₁ m 3 #[vR a1, vR b1] [(.int 0), (.ref b1), (.ref a1)] tgt
    refine XS.aloadN X0.here hx rfl (hb hby d1_3) rfl rfl ?_
    show OwnG p e below s₁ m 4 #[vR a1, vR b1] [(.ref b1), (.int 0), (.ref b1), (.ref a1)] tgt
    obtain ⟨cl1, Ar1, q1, S1, M1, -, -⟩ := f4
    refine X0.arraylength hx (by rw [e0]; exact Ar1.1) (State.isArrayOf_alike hZ.alike Ar1.2.1) (g := (mkF m 4 #[vR a1, vR b1] [(.ref b1), (.int 0), (.ref b1), (.ref a1)])) rfl rfl (hb hby d1_4) _ ?_
    rw [len_of S1 M1]
    show OwnG p e below s₁ m 5 #[vR a1, vR b1] [(.int 0), (.int 0), (.ref b1), (.ref a1)] tgt
    refine XS.aconstNull X0.here hx rfl (hb hby d1_5) ?_
    exact kgo
  obtain ⟨_, _, ⟨T2, L2, k2, n2⟩, -, X2, Si2, Gr2, ⟨Lc2, hQ2, l2, y2, z2, Rc2⟩, st2⟩ := X0.specialBackS hx (y := mN0) rfl hown (mvT hZ (own_w hw 11 rfl)) (mvT hZ (own_w hw 12 rfl)) (mvT hZ (own_w hw 14 rfl)) (by decide) (backOfSH (W := 0) (rm_si6e l Z a0 hw [] wG1 wG3 cx hEL h0 n0 X00 a1 b1 f0 f1 f2 f3) hZ (own_w hw 14 rfl) (own_w hw 6 rfl) (by decide) (by decide) hEL R0.1) (g := (mkF m 6 #[vR a1, vR b1] [.null, (.int 0), (.int 0), (.ref b1), (.ref a1)])) rfl (by rw [hml]; rfl) (Steps.refl _) (a := a1) (argsL := [(.ref b1), (.int 0), (.int 0), .null]) (rest := []) (lenOf pd_10261703 rfl) rfl (Nat.le_of_eq rfl) (hb hby d1_6) (fun _ _ => ⟨rfl, e0, (by decide : 0 + 4 ≤ _), (by decide : 0 + 8 ≤ _)⟩)
  dsimp only [Pt.U, Pt.locs, Pt.cells, Pt.slots] at X2 l2 y2 z2 st2 hQ2 Si2 Gr2 Rc2
  subst l2 y2 z2
  obtain ⟨t_2, k_2, rfl, Nq2, Kq2, fq2_0, fq2_1, fq2_2, fq2_3⟩ := hQ2
  refine OwnGoes.tr (T' := T2) (g' := (mkF m 9 #[vR a1, vR b1] [])) st2 ?_
  have N2 := Fr.app N0 Nq2
  have gz2 : h0.size ≤ T2.heap.size := Rc2.2.1
  obtain ⟨X2, hS2, hZ2, ho2⟩ := rebS hS0 hk0 X2 Si2 gz2 hZ hown
  have F2_1 := f0.keep Kq2
  have F2_2 := f4.keep Kq2 (ninS (Ne.symm (Exa.neArv f0 f4 (own_w hw 5 rfl))) nin0)
  have F2_3 := Rc2.safe f0.lt Sf0_a1
  have Ol2 := X00.keep Kq2 (allS f3 all0)
  have K2 : Keep h0 T2.heap ([a1] : List Addr) := K0.trans Kq2 (allS (Or.inl (List.mem_of_getElem? (i := 0) rfl)) all0)
  have R2 := R0.trans Rc2
  refine own_leaveW (Z := Z) (EL := consts_1) X2 hS2 (Nat.le_refl _) hlk (v := none) (fun _ => rfl) (fun fs hr => X2.returnOut hx Bd.returns (hb hby d1_9) hr) (by decide) (by decide) ?_ ?_
  · rw [hh]
    exact R2.trans (CHv.at X2 hZ2 hEL R2.1)
  show Q_si2e Z a1 b1 kc h0 n0 _ T2.heap _
  exact ⟨t_2, k_2, rfl, N2, K2, fq2_0, fq2_1, fq2_2, fq2_3⟩
theorem ef_can (m : MethodId) (x0 : Int32) : entryFrame m #[(.int x0)] 1 = mkF m 0 #[vI x0] [] := by
  first | (simp [entryFrame, mkF, argsToLocals, Value.category]; done) | rfl
def Q_can (Z : State) (p1 : Int32) (h0 : Heap) (n0 : Nat) (v : Option Value) (h : Heap) (L : List Loc) : Prop := v = some (.int 1) ∧ Fr n0 L ∧ h = h0
theorem pn_54843740 : plainName "java/lang/StringLatin1" = true := by first | (simp [plainName, overriddenIn]; done) | decide +kernel
theorem d2_0 : decode jdk_43_method_3_code 0 = .ok (.iload_n 0, 1) := by decide +kernel
theorem d2_1 : decode jdk_43_method_3_code 1 = .ok (.sipush 255, 3) := by decide +kernel
theorem d2_4 : decode jdk_43_method_3_code 4 = .ok (.if_icmp .gt 7, 3) := by decide +kernel
theorem d2_7 : decode jdk_43_method_3_code 7 = .ok (.iconst 1, 1) := by decide +kernel
theorem d2_8 : decode jdk_43_method_3_code 8 = .ok (.goto 4, 3) := by decide +kernel
theorem d2_12 : decode jdk_43_method_3_code 12 = .ok (.ireturn, 1) := by decide +kernel
set_option maxRecDepth 65536 in
set_option maxHeartbeats 40000000 in
theorem rm_can (l : Launch) (Z : State) (a0 : Array Value) (hw : ∀ d ∈ tables_1, d.before a0 Z = true) (ws : List Jvm.Cond) (wG1 : Int32) (wG3 : Value) (cx : OwnCx Z a0 wG1 wG3) (hEL : EW Z a0 consts_1) (h0 : Heap) (n0 : Nat) (X00 : Old Z n0 h0) (p1 : Int32) (hl : ¬ ((255 : Int32) < p1)) :
    MetFree l mN2 (head1 (Jvm.Cond.code mN2 jdk_43_method_3_code 1 (some .boolean) :: ws) (oR 0 0 0 0)) (fun a U => a = #[(.int p1)] ∧ Z.Warmed39 U.vm ∧ U.heap = h0) (fun _ _ _ _ _ => True) (fun _ U o U' => ∃ v L, o = .returned v ∧ Q_can Z p1 h0 n0 v U'.heap L ∧ FrameEnd U o U' L (oR 0 0 0 0).cells (oR 0 0 0 0).slots) := by
  refine MetFree.of_bodySF (plainFor_of_name pn_54843740) hisR ?_
  intro p e s m args below meth c s₁ Bd hml0 hP hK
  obtain ⟨rfl, hZ, hh⟩ := hP
  obtain ⟨wO2, wP5, wO4, wrG3, hstr⟩ := id cx
  have hx := Bd.exec
  have hby := Bd.bytes
  have hlk := Bd.notSynchronized
  have hml : c.maxLocals = 1 := hml0
  have hown : s.vm.findClass "java/lang/StringLatin1" = some m.cls := findClass_of_methodNamed Bd.named
  have hnm := (name_of_methodNamed Bd.named Bd.method).1
  have X0 : Stand p l e (oR 0 0 0 0) s m #[(.int p1)] below meth c s₁ [] 0 0 := Stand.of_body Bd
  have e0 : s₁.heap = h0 := by rw [← hh, Bd.state]; rfl
  have N0 := Fr.nil n0
  have Z0 : n0 ≤ h0.size := X00.1 ▸ X00.2.1
  have K0 : Keep h0 h0 ([] : List Addr) := Keep.refl _ _
  show OwnGoes p e below _ s₁ (entryFrame m _ _)
  refine og s₁ m 0 #[vI p1] [] (fun tgt kgo => castTop (ef_can m p1) kgo) ?_
  refine og s₁ m 12 #[vI p1] [(.int 1)] (fun tgt kgo => ?_) ?_
  · refine XS.iloadN X0.here hx rfl (hb hby d2_0) rfl ?_
    show OwnG p e below s₁ m 1 #[vI p1] [(.int p1)] tgt
    refine XS.sipush X0.here hx rfl (hb hby d2_1) ?_
    show OwnG p e below s₁ m 4 #[vI p1] [(.int 255), (.int p1)] tgt
    refine XS.icmpNo X0.here hx rfl (hb hby d2_4) rfl (flt hl).2.2.1 ?_
    show OwnG p e below s₁ m 7 #[vI p1] [] tgt
    refine XS.iconst X0.here hx rfl (hb hby d2_7) ?_
    show OwnG p e below s₁ m 8 #[vI p1] [(.int 1)] tgt
    refine XS.goto X0.here hx rfl (pc0 := 8) (pc' := 12) rfl (hb hby d2_8) (by decide) (by decide) ?_
    exact kgo
  refine own_leave X0 hlk (v := some (.int 1)) (fun h => by rw [Bd.returns] at h; cases h) (fun fs hr => retN X0 hx (t := .boolean) Bd.returns (by simp) (hb hby d2_12) (by rw [(by decide : nar .boolean (1 : Int32) = (1 : Int32))]; exact hr)) (by decide) (by decide) ?_
  show Q_can Z p1 h0 n0 _ s₁.heap _
  rw [e0]
  exact ⟨rfl, N0, rfl⟩
theorem ef_tob (m : MethodId) (x0 : Int32) : entryFrame m #[(.int x0)] 1 = mkF m 0 #[vI x0] [] := by
  first | (simp [entryFrame, mkF, argsToLocals, Value.category]; done) | rfl
def Q_tob (Z : State) (p1 : Int32) (h0 : Heap) (n0 : Nat) (v : Option Value) (h : Heap) (L : List Loc) : Prop := ∃ (t : Addr), ∃ (k : ClassId), v = some (.ref t) ∧ Fr n0 L ∧ Keep h0 h ([] : List Addr) ∧ h0.size ≤ t ∧ Arv Z h t k .byte (1 : Int32) [(.int (nar .byte p1))] (.int 0)
theorem d3_0 : decode jdk_43_method_46_code 0 = .ok (.iconst 1, 1) := by decide +kernel
theorem d3_1 : decode jdk_43_method_46_code 1 = .ok (.newarray .byte, 2) := by decide +kernel
theorem d3_3 : decode jdk_43_method_46_code 3 = .ok (.dup, 1) := by decide +kernel
theorem d3_4 : decode jdk_43_method_46_code 4 = .ok (.iconst 0, 1) := by decide +kernel
theorem d3_5 : decode jdk_43_method_46_code 5 = .ok (.iload_n 0, 1) := by decide +kernel
theorem d3_6 : decode jdk_43_method_46_code 6 = .ok (.i2b, 1) := by decide +kernel
theorem d3_7 : decode jdk_43_method_46_code 7 = .ok (.bastore, 1) := by decide +kernel
theorem d3_8 : decode jdk_43_method_46_code 8 = .ok (.areturn, 1) := by decide +kernel
set_option maxRecDepth 65536 in
set_option maxHeartbeats 40000000 in
theorem rm_tob (l : Launch) (Z : State) (a0 : Array Value) (hw : ∀ d ∈ tables_1, d.before a0 Z = true) (ws : List Jvm.Cond) (wG1 : Int32) (wG3 : Value) (cx : OwnCx Z a0 wG1 wG3) (hEL : EW Z a0 consts_1) (h0 : Heap) (n0 : Nat) (X00 : Old Z n0 h0) (p1 : Int32) :
    MetFree l mN3 (head1 (Jvm.Cond.code mN3 jdk_43_method_46_code 1 (some (.array .byte)) :: ws) (oR 0 1 1 0)) (fun a U => a = #[(.int p1)] ∧ Z.Warmed39 U.vm ∧ U.heap = h0) (fun _ _ _ _ _ => True) (fun _ U o U' => ∃ v L, o = .returned v ∧ Q_tob Z p1 h0 n0 v U'.heap L ∧ FrameEnd U o U' L (oR 0 1 1 0).cells (oR 0 1 1 0).slots) := by
  refine MetFree.of_bodySF (plainFor_of_name pn_54843740) hisR ?_
  intro p e s m args below meth c s₁ Bd hml0 hP hK
  obtain ⟨rfl, hZ, hh⟩ := hP
  obtain ⟨wO2, wP5, wO4, wrG3, hstr⟩ := id cx
  have hx := Bd.exec
  have hby := Bd.bytes
  have hlk := Bd.notSynchronized
  have hml : c.maxLocals = 1 := hml0
  have hown : s.vm.findClass "java/lang/StringLatin1" = some m.cls := findClass_of_methodNamed Bd.named
  have hnm := (name_of_methodNamed Bd.named Bd.method).1
  have X0 : Stand p l e (oR 0 1 1 0) s m #[(.int p1)] below meth c s₁ [] 0 0 := Stand.of_body Bd
  have e0 : s₁.heap = h0 := by rw [← hh, Bd.state]; rfl
  have N0 := Fr.nil n0
  have Z0 : n0 ≤ h0.size := X00.1 ▸ X00.2.1
  have K0 : Keep h0 h0 ([] : List Addr) := Keep.refl _ _
  show OwnGoes p e below _ s₁ (entryFrame m _ _)
  refine og s₁ m 0 #[vI p1] [] (fun tgt kgo => castTop (ef_tob m p1) kgo) ?_
  refine og s₁ m 1 #[vI p1] [(.int 1)] (fun tgt kgo => ?_) ?_
  · refine XS.iconst X0.here hx rfl (hb hby d3_0) ?_
    exact kgo
  obtain ⟨T1, h1, k1, X1, e1, E1, A1, st1⟩ := newP X0 hx hZ (own_w hw 23 rfl) e0 (g := (mkF m 1 #[vI p1] [(.int 1)])) rfl (hb hby d3_1) rfl (by decide) (cap := 1) (by decide) (by decide) (by decide) (by decide)
  obtain ⟨b1, g1⟩ : ∃ z, z = h0.size := ⟨_, rfl⟩
  rw [← g1] at A1 st1
  refine og T1 m 3 #[vI p1] [(.ref b1)] st1 ?_
  have V1 : Arv Z h1 b1 k1 .byte (1 : Int32) [(.int 0)] (.int 0) := (Arv.new A1 (by decide)).pad (pad_rep [] (.int 0) 1)
  have g_b1 : n0 ≤ b1 := Nat.le_trans (Nat.le_trans Z0 K0.1) (Nat.le_of_eq g1.symm)
  have s_b1 : h0.size ≤ b1 := Nat.le_trans K0.1 (Nat.le_of_eq g1.symm)
  have Ol1 := X00.ext E1
  have K1 : Keep h0 h1 ([] : List Addr) := K0.ext E1
  refine og T1 m 7 #[vI p1] [(.int (nar .byte p1)), (.int 0), (.ref b1), (.ref b1)] (fun tgt kgo => ?_) ?_
  · refine XS.dup X1.here hx rfl (hb hby d3_3) rfl rfl ?_
    show OwnG p e below T1 m 4 #[vI p1] [(.ref b1), (.ref b1)] tgt
    refine XS.iconst X1.here hx rfl (hb hby d3_4) ?_
    show OwnG p e below T1 m 5 #[vI p1] [(.int 0), (.ref b1), (.ref b1)] tgt
    refine XS.iloadN X1.here hx rfl (hb hby d3_5) rfl ?_
    show OwnG p e below T1 m 6 #[vI p1] [(.int p1), (.int 0), (.ref b1), (.ref b1)] tgt
    refine XS.i2b X1.here hx rfl (hb hby d3_6) rfl ?_
    exact kgo
  obtain ⟨cl2, Ar2, q2, S2, M2, H2, G2⟩ := id V1
  obtain ⟨T2, h2, X2, e2, W2, st2⟩ := stB X1 hx hZ e1 Ar2 (j := (0 : Int32)) (inb_of S2 ⟨by decide, by decide⟩) (g := (mkF m 7 #[vI p1] [(.int (nar .byte p1)), (.int 0), (.ref b1), (.ref b1)])) rfl rfl (hb hby d3_7)
  refine og T2 m 8 #[vI p1] [(.ref b1)] st2 ?_
  have V2 : Arv Z h2 b1 k1 .byte (1 : Int32) [(.int (nar .byte (nar .byte p1)))] (.int 0) := Arv.set Ar2 q2 S2 M2 H2 G2 (fits_nar_byte _) W2 0 rfl (Nat.le_of_ble_eq_true rfl)
  rw [own_nar2_byte] at V2
  have V2' : Arv Z h2 b1 k1 .byte (1 : Int32) [(.int (nar .byte p1))] (.int 0) := V2
  have Ol2 := Ol1.wr W2 g_b1
  have K2 : Keep h0 h2 ([] : List Addr) := K1.wr W2 (Or.inr s_b1)
  have N2 := Fr.snoc X2 N0 g_b1
  have hret : ∀ fs, (∀ (f : JFrame) (acts : List Action), f.method = m → f.locked = none → f.entered = [] → (doReturn e (T2.setTop f) acts (some (.ref b1))).1 = T2.setFrames fs) → Steps p.tables e below (T2.setTop (mkF m 8 #[vI p1] [(.ref b1)])) (T2.setFrames fs) := by
    intro fs hr
    jvm_step X2.here [X2.here.top, hx, (hb hby d3_8), X2.method', Bd.returns, Value.isRef, FieldType.isReference]
    first | (intro acts; rw [hr _ acts rfl rfl rfl]) | rw [hr _ _ rfl rfl rfl]
    exact Steps.refl _
  refine own_leave X2 hlk (v := some (.ref b1)) (fun h => by rw [Bd.returns] at h; cases h) hret (by decide) (by decide) ?_
  show Q_tob Z p1 h0 n0 _ T2.heap _
  rw [e2]
  exact ⟨b1, k1, rfl, N2, K2, s_b1, V2'⟩
theorem ef_inibb (m : MethodId) (x0 : Addr) (x1 : Addr) : entryFrame m #[(.ref x0), (.ref x1), (.int 0)] 3 = mkF m 0 #[vR x0, vR x1, vI 0] [] := by
  first | (simp [entryFrame, mkF, argsToLocals, Value.category]; done) | rfl
def Q_inibb (Z : State) (a1 : Addr) (a2 : Addr) (u1 : Value) (u2 : Value) (h0 : Heap) (n0 : Nat) (v : Option Value) (h : Heap) (L : List Loc) : Prop := v = none ∧ Fr n0 L ∧ Keep h0 h ([a1] : List Addr) ∧ Exa Z h a1 "java/lang/String" ∧ Fld Z h a1 "java/lang/String" "value" "[B" (.ref a2) ∧ Fld Z h a1 "java/lang/String" "coder" "B" (.int 0)
theorem d4_0 : decode jdk_42_method_151_code 0 = .ok (.aload_n 0, 1) := by decide +kernel
theorem d4_1 : decode jdk_42_method_151_code 1 = .ok (.invokespecial 1, 3) := by decide +kernel
theorem d4_4 : decode jdk_42_method_151_code 4 = .ok (.aload_n 0, 1) := by decide +kernel
theorem d4_5 : decode jdk_42_method_151_code 5 = .ok (.aload_n 1, 1) := by decide +kernel
theorem d4_6 : decode jdk_42_method_151_code 6 = .ok (.putfield 9, 3) := by decide +kernel
theorem d4_9 : decode jdk_42_method_151_code 9 = .ok (.aload_n 0, 1) := by decide +kernel
theorem d4_10 : decode jdk_42_method_151_code 10 = .ok (.iload_n 2, 1) := by decide +kernel
theorem d4_11 : decode jdk_42_method_151_code 11 = .ok (.putfield 15, 3) := by decide +kernel
theorem d4_14 : decode jdk_42_method_151_code 14 = .ok (.return_, 1) := by decide +kernel
set_option maxRecDepth 65536 in
set_option maxHeartbeats 40000000 in
theorem rm_inibb (l : Launch) (Z : State) (a0 : Array Value) (hw : ∀ d ∈ tables_1, d.before a0 Z = true) (ws : List Jvm.Cond) (wG1 : Int32) (wG3 : Value) (cx : OwnCx Z a0 wG1 wG3) (hEL : EW Z a0 consts_1) (h0 : Heap) (n0 : Nat) (X00 : Old Z n0 h0) (a1 : Addr) (a2 : Addr) (u1 : Value) (u2 : Value) (f0 : Exa Z h0 a1 "java/lang/String") (f1 : Fld Z h0 a1 "java/lang/String" "value" "[B" u1) (f2 : Fld Z h0 a1 "java/lang/String" "coder" "B" u2) (f3 : n0 ≤ a1) :
    MetFree l mN4 (head1 (Jvm.Cond.code mN4 jdk_42_method_151_code 3 none :: ws) (oR 1 0 0 12)) (fun a U => a = #[(.ref a1), (.ref a2), (.int 0)] ∧ Z.Warmed39 U.vm ∧ U.heap = h0) (fun _ _ _ _ _ => True) (fun _ U o U' => ∃ v L, o = .returned v ∧ Q_inibb Z a1 a2 u1 u2 h0 n0 v U'.heap L ∧ FrameEnd U o U' L (oR 1 0 0 12).cells (oR 1 0 0 12).slots) := by
  refine MetFree.of_bodySF (plainFor_of_name pn_52039224) hisR ?_
  intro p e s m args below meth c s₁ Bd hml0 hP hK
  obtain ⟨rfl, hZ, hh⟩ := hP
  obtain ⟨wO2, wP5, wO4, wrG3, hstr⟩ := id cx
  have hx := Bd.exec
  have hby := Bd.bytes
  have hlk := Bd.notSynchronized
  have hml : c.maxLocals = 3 := hml0
  have hown : s.vm.findClass "java/lang/String" = some m.cls := findClass_of_methodNamed Bd.named
  have hnm := (name_of_methodNamed Bd.named Bd.method).1
  have X0 : Stand p l e (oR 1 0 0 12) s m #[(.ref a1), (.ref a2), (.int 0)] below meth c s₁ [] 0 0 := Stand.of_body Bd
  have e0 : s₁.heap = h0 := by rw [← hh, Bd.state]; rfl
  have N0 := Fr.nil n0
  have Z0 : n0 ≤ h0.size := X00.1 ▸ X00.2.1
  have K0 : Keep h0 h0 ([a1] : List Addr) := Keep.refl _ _
  show OwnGoes p e below _ s₁ (entryFrame m _ _)
  refine og s₁ m 0 #[vR a1, vR a2, vI 0] [] (fun tgt kgo => castTop (ef_inibb m a1 a2) kgo) ?_
  refine og s₁ m 1 #[vR a1, vR a2, vI 0] [(.ref a1)] (fun tgt kgo => ?_) ?_
  · refine XS.aloadN X0.here hx rfl (hb hby d4_0) rfl rfl ?_
    exact kgo
  obtain ⟨T1, X1, e1, st1⟩ := initO X0 hx hZ hown (own_w hw 15 rfl) (own_w hw 16 rfl) (own_w hw 17 rfl) e0 (g := (mkF m 1 #[vR a1, vR a2, vI 0] [(.ref a1)])) rfl (by rw [hml]; rfl) rfl (hb hby d4_1) (by decide) (W := 0) (Nat.le_of_eq rfl) (by decide)
  refine og T1 m 4 #[vR a1, vR a2, vI 0] [] st1 ?_
  refine og T1 m 6 #[vR a1, vR a2, vI 0] [(.ref a2), (.ref a1)] (fun tgt kgo => ?_) ?_
  · refine XS.aloadN X1.here hx rfl (hb hby d4_4) rfl rfl ?_
    show OwnG p e below T1 m 5 #[vR a1, vR a2, vI 0] [(.ref a1)] tgt
    refine XS.aloadN X1.here hx rfl (hb hby d4_5) rfl rfl ?_
    exact kgo
  obtain ⟨T2, h2, X2, e2, W2, st2⟩ := putF X1 hx hZ hown (host := "") (Or.inl (own_w hw 32 rfl)) Via.refl e1 f1 f0 (Or.inr ⟨(own_w hw 33 rfl), rfl, hnm⟩) (own_w hw 5 rfl) (ty := (.array .byte)) (by decide) rfl rfl (g := (mkF m 6 #[vR a1, vR a2, vI 0] [(.ref a2), (.ref a1)])) rfl rfl (hb hby d4_6)
  refine og T2 m 9 #[vR a1, vR a2, vI 0] [] st2 ?_
  have Fw2 := f1.same W2
  have F2_1 := f0.wr W2
  have F2_2 := f2.other W2 (Or.inr (slot_ne (Or.inr (own_w hw 31 rfl)) (Or.inr (own_w hw 33 rfl)) (by decide) (t := .byte) (t' := (.array .byte)) (by decide) (by decide)))
  have Ol2 := X00.wr W2 f3
  have K2 : Keep h0 h2 ([a1] : List Addr) := K0.wr W2 (Or.inl (List.mem_of_getElem? (i := 0) rfl))
  have N2 := Fr.snoc X2 N0 f3
  refine og T2 m 11 #[vR a1, vR a2, vI 0] [(.int 0), (.ref a1)] (fun tgt kgo => ?_) ?_
  · refine XS.aloadN X2.here hx rfl (hb hby d4_9) rfl rfl ?_
    show OwnG p e below T2 m 10 #[vR a1, vR a2, vI 0] [(.ref a1)] tgt
    refine XS.iloadN X2.here hx rfl (hb hby d4_10) rfl ?_
    exact kgo
  obtain ⟨T3, h3, X3, e3, W3, st3⟩ := putFN X2 hx hZ hown (own_w hw 30 rfl) Via.refl e2 F2_2 F2_1 (Or.inr ⟨(own_w hw 31 rfl), rfl, hnm⟩) (own_w hw 5 rfl) (ty := .byte) (v' := (.int (nar .byte (0 : Int32)))) (by decide) rfl (fits_nar_byte _) (g := (mkF m 11 #[vR a1, vR a2, vI 0] [(.int 0), (.ref a1)])) rfl rfl (hb hby d4_11)
  refine og T3 m 14 #[vR a1, vR a2, vI 0] [] st3 ?_
  have Fw3 := F2_2.same W3
  rw [(by decide : nar .byte (0 : Int32) = (0 : Int32))] at Fw3
  have F3_3 := F2_1.wr W3
  have F3_4 := Fw2.other W3 (Or.inr (slot_ne (Or.inr (own_w hw 33 rfl)) (Or.inr (own_w hw 31 rfl)) (by decide) (t := (.array .byte)) (t' := .byte) (by decide) (by decide)))
  have Ol3 := Ol2.wr W3 f3
  have K3 : Keep h0 h3 ([a1] : List Addr) := K2.wr W3 (Or.inl (List.mem_of_getElem? (i := 0) rfl))
  have N3 := Fr.snoc X3 N2 f3
  refine own_leave X3 hlk (v := none) (fun _ => rfl) (fun fs hr => X3.returnOut hx Bd.returns (hb hby d4_14) hr) (by decide) (by decide) ?_
  show Q_inibb Z a1 a2 u1 u2 h0 n0 _ T3.heap _
  rw [e3]
  exact ⟨rfl, N3, K3, F3_3, F3_4, Fw3⟩
theorem ef_valueOf (m : MethodId) (x0 : Int32) : entryFrame m #[(.int x0)] 1 = mkF m 0 #[vI x0] [] := by
  first | (simp [entryFrame, mkF, argsToLocals, Value.category]; done) | rfl
def Q_valueOf (Z : State) (p1 : Int32) (h0 : Heap) (n0 : Nat) (v : Option Value) (h : Heap) (L : List Loc) : Prop := ∃ (x : Addr), ∃ (t : Addr), ∃ (k : ClassId), v = some (.ref x) ∧ Fr n0 L ∧ Keep h0 h ([] : List Addr) ∧ h0.size ≤ x ∧ h0.size ≤ t ∧ Exa Z h x "java/lang/String" ∧ Fld Z h x "java/lang/String" "value" "[B" (.ref t) ∧ Fld Z h x "java/lang/String" "coder" "B" (.int 0) ∧ Arv Z h t k .byte (1 : Int32) [(.int (nar .byte p1))] (.int 0)
theorem d5_0 : decode jdk_42_method_139_code 0 = .ok (.getstatic 38, 3) := by decide +kernel
theorem d5_3 : decode jdk_42_method_139_code 3 = .ok (.ifCond .eq 23, 3) := by decide +kernel
theorem d5_6 : decode jdk_42_method_139_code 6 = .ok (.iload_n 0, 1) := by decide +kernel
theorem d5_7 : decode jdk_42_method_139_code 7 = .ok (.invokestatic 1015, 3) := by decide +kernel
theorem pd_92619605 : parseMethodDescriptor "(C)Z" = some ⟨[.char], some .boolean⟩ := by decide +kernel
theorem d5_10 : decode jdk_42_method_139_code 10 = .ok (.ifCond .eq 16, 3) := by decide +kernel
theorem d5_13 : decode jdk_42_method_139_code 13 = .ok (.new 10, 3) := by decide +kernel
theorem d5_16 : decode jdk_42_method_139_code 16 = .ok (.dup, 1) := by decide +kernel
theorem d5_17 : decode jdk_42_method_139_code 17 = .ok (.iload_n 0, 1) := by decide +kernel
theorem d5_18 : decode jdk_42_method_139_code 18 = .ok (.invokestatic 1018, 3) := by decide +kernel
theorem pd_11350343 : parseMethodDescriptor "(C)[B" = some ⟨[.char], some (.array .byte)⟩ := by decide +kernel
theorem d5_21 : decode jdk_42_method_139_code 21 = .ok (.iconst 0, 1) := by decide +kernel
theorem d5_22 : decode jdk_42_method_139_code 22 = .ok (.invokespecial 209, 3) := by decide +kernel
theorem pd_44458512 : parseMethodDescriptor "([BB)V" = some ⟨[(.array .byte), .byte], none⟩ := by decide +kernel
theorem d5_25 : decode jdk_42_method_139_code 25 = .ok (.areturn, 1) := by decide +kernel
set_option maxRecDepth 65536 in
set_option maxHeartbeats 40000000 in
theorem rm_valueOf (l : Launch) (Z : State) (a0 : Array Value) (hw : ∀ d ∈ tables_1, d.before a0 Z = true) (ws : List Jvm.Cond) (wG1 : Int32) (wG3 : Value) (cx : OwnCx Z a0 wG1 wG3) (hEL : EW Z a0 consts_1) (h0 : Heap) (n0 : Nat) (X00 : Old Z n0 h0) (p1 : Int32) (hl : ¬ ((255 : Int32) < p1)) :
    MetFree l mN5 (head1 (Jvm.Cond.code mN5 jdk_42_method_139_code 1 (some (.object "java/lang/String")) :: ws) (oR 2 2 5 27)) (fun a U => a = #[(.int p1)] ∧ Z.Warmed39 U.vm ∧ U.heap = h0) (fun _ _ _ _ _ => True) (fun _ U o U' => ∃ v L, o = .returned v ∧ Q_valueOf Z p1 h0 n0 v U'.heap L ∧ FrameEnd U o U' L (oR 2 2 5 27).cells (oR 2 2 5 27).slots) := by
  refine MetFree.of_bodySF (plainFor_of_name pn_52039224) hisR ?_
  intro p e s m args below meth c s₁ Bd hml0 hP hK
  obtain ⟨rfl, hZ, hh⟩ := hP
  obtain ⟨wO2, wP5, wO4, wrG3, hstr⟩ := id cx
  have hx := Bd.exec
  have hby := Bd.bytes
  have hlk := Bd.notSynchronized
  have hml : c.maxLocals = 1 := hml0
  have hown : s.vm.findClass "java/lang/String" = some m.cls := findClass_of_methodNamed Bd.named
  have hnm := (name_of_methodNamed Bd.named Bd.method).1
  have X0 : Stand p l e (oR 2 2 5 27) s m #[(.int p1)] below meth c s₁ [] 0 0 := Stand.of_body Bd
  have e0 : s₁.heap = h0 := by rw [← hh, Bd.state]; rfl
  have N0 := Fr.nil n0
  have Z0 : n0 ≤ h0.size := X00.1 ▸ X00.2.1
  have K0 : Keep h0 h0 ([] : List Addr) := Keep.refl _ _
  show OwnGoes p e below _ s₁ (entryFrame m _ _)
  refine og s₁ m 0 #[vI p1] [] (fun tgt kgo => castTop (ef_valueOf m p1) kgo) ?_
  obtain ⟨T1, X1, e1, st1⟩ := getS2 X0 hx hZ hown (host := "") (Or.inl (own_w hw 18 rfl)) Via.refl e0 (wO2.ext X00.2) (g := (mkF m 0 #[vI p1] [])) rfl (hb hby d5_0)
  refine og T1 m 3 #[vI p1] [(.int wG1)] st1 ?_
  refine og T1 m 7 #[vI p1] [(.int p1)] (fun tgt kgo => ?_) ?_
  · refine XS.ifNo X1.here hx rfl (hb hby d5_3) rfl ((if0 _ _).trans (feq wP5).1) ?_
    show OwnG p e below T1 m 6 #[vI p1] [] tgt
    refine XS.iloadN X1.here hx rfl (hb hby d5_6) rfl ?_
    exact kgo
  obtain ⟨_, _, ⟨T2, L2, k2, n2⟩, -, X2, ⟨Lc2, hQ2, l2, y2, z2⟩, st2⟩ := Jvm.LawKit.callS X1 hx (y := mN2) hown (mvT hZ (own_w hw 40 rfl)) (mvT hZ (own_w hw 41 rfl)) (mvT hZ (own_w hw 42 rfl)) (mvT hZ (own_w hw 43 rfl)) (by decide) (backOf (W := 0) (rm_can l Z a0 hw [] wG1 wG3 cx hEL h0 n0 X00 p1 hl) hZ (own_w hw 43 rfl) (own_w hw 42 rfl) (by decide) (by decide)) (g := (mkF m 7 #[vI p1] [(.int p1)])) rfl (by rw [hml]; rfl) (argsL := [(.int p1)]) (rest := []) (lenOf pd_92619605 rfl) rfl (Nat.le_of_eq rfl) (hb hby d5_7) (fun _ _ => ⟨rfl, e1, (by decide : 0 + 0 ≤ _), (by decide : 0 + 0 ≤ _)⟩)
  dsimp only [Pt.U, Pt.locs, Pt.cells, Pt.slots] at X2 l2 y2 z2 st2 hQ2
  subst l2 y2 z2
  obtain ⟨rfl, Nq2, eq2⟩ := hQ2
  refine og T2 m 10 #[vI p1] [(.int 1)] st2 ?_
  have N2 := Fr.app N0 Nq2
  refine og T2 m 13 #[vI p1] [] (fun tgt kgo => ?_) ?_
  · refine XS.ifNo X2.here hx rfl (hb hby d5_10) rfl ((if0 _ _).trans (feq (by decide : ¬ ((1 : Int32) = (0 : Int32)))).1) ?_
    exact kgo
  obtain ⟨T3, h3, X3, e3, E3, A3, D3, U3, st3⟩ := newO X2 hx hZ hown (own_w hw 44 rfl) (own_w hw 5 rfl) (own_w hw 6 rfl) eq2 (g := (mkF m 13 #[vI p1] [])) rfl (hb hby d5_13) (by decide) (by decide)
  obtain ⟨b3, g3⟩ : ∃ z, z = h0.size := ⟨_, rfl⟩
  rw [← g3] at A3 D3 U3 st3
  refine og T3 m 16 #[vI p1] [(.ref b3)] st3 ?_
  have g_b3 : n0 ≤ b3 := Nat.le_trans (Nat.le_trans Z0 K0.1) (Nat.le_of_eq g3.symm)
  have s_b3 : h0.size ≤ b3 := Nat.le_trans K0.1 (Nat.le_of_eq g3.symm)
  have Ol3 := X00.ext E3
  have K3 : Keep h0 h3 ([] : List Addr) := K0.ext E3
  have F3_1 : Fld Z h3 b3 "java/lang/String" "coder" "B" (.int 0) := D3 (Or.inr (own_w hw 31 rfl)) (ty := .byte) (by decide)
  have F3_2 : Fld Z h3 b3 "java/lang/String" "value" "[B" .null := D3 (Or.inr (own_w hw 33 rfl)) (ty := (.array .byte)) (by decide)
  refine og T3 m 18 #[vI p1] [(.int p1), (.ref b3), (.ref b3)] (fun tgt kgo => ?_) ?_
  · refine XS.dup X3.here hx rfl (hb hby d5_16) rfl rfl ?_
    show OwnG p e below T3 m 17 #[vI p1] [(.ref b3), (.ref b3)] tgt
    refine XS.iloadN X3.here hx rfl (hb hby d5_17) rfl ?_
    exact kgo
  obtain ⟨_, _, ⟨T4, L4, k4, n4⟩, -, X4, ⟨Lc4, hQ4, l4, y4, z4⟩, st4⟩ := Jvm.LawKit.callS X3 hx (y := mN3) hown (mvT hZ (own_w hw 45 rfl)) (mvT hZ (own_w hw 46 rfl)) (mvT hZ (own_w hw 42 rfl)) (mvT hZ (own_w hw 47 rfl)) (by decide) (backOf (W := 2) (rm_tob l Z a0 hw [] wG1 wG3 cx hEL h3 n0 Ol3 p1) hZ (own_w hw 47 rfl) (own_w hw 42 rfl) (by decide) (by decide)) (g := (mkF m 18 #[vI p1] [(.int p1), (.ref b3), (.ref b3)])) rfl (by rw [hml]; rfl) (argsL := [(.int p1)]) (rest := [(.ref b3), (.ref b3)]) (lenOf pd_11350343 rfl) rfl (Nat.le_of_eq rfl) (hb hby d5_18) (fun _ _ => ⟨rfl, e3, (by decide : 1 + 1 ≤ _), (by decide : 4 + 1 ≤ _)⟩)
  dsimp only [Pt.U, Pt.locs, Pt.cells, Pt.slots] at X4 l4 y4 z4 st4 hQ4
  subst l4 y4 z4
  obtain ⟨t_4, k_4, rfl, Nq4, Kq4, zq4_0, fq4_0⟩ := hQ4
  refine og T4 m 21 #[vI p1] [(.ref t_4), (.ref b3), (.ref b3)] st4 ?_
  have N4 := Fr.app N2 Nq4
  have ne_b3_t_4 : b3 ≠ t_4 := Nat.ne_of_lt (Nat.lt_of_lt_of_le A3.lt zq4_0)
  have g_t_4 : n0 ≤ t_4 := Nat.le_trans (Nat.le_trans Z0 K3.1) zq4_0
  have s_t_4 : h0.size ≤ t_4 := Nat.le_trans K3.1 zq4_0
  have F4_3 := A3.keep Kq4
  have F4_4 := F3_1.keep Kq4 nin0
  have F4_5 := F3_2.keep Kq4 nin0
  have Ol4 := Ol3.keep Kq4 all0
  have K4 : Keep h0 T4.heap ([] : List Addr) := K3.trans Kq4 all0
  refine og T4 m 22 #[vI p1] [(.int 0), (.ref t_4), (.ref b3), (.ref b3)] (fun tgt kgo => ?_) ?_
  · refine XS.iconst X4.here hx rfl (hb hby d5_21) ?_
    exact kgo
  obtain ⟨_, _, ⟨T5, L5, k5, n5⟩, -, X5, ⟨Lc5, hQ5, l5, y5, z5⟩, st5⟩ := X4.specialBack hx (y := mN4) rfl hown (mvT hZ (own_w hw 48 rfl)) (mvT hZ (own_w hw 49 rfl)) (mvT hZ (own_w hw 50 rfl)) (by decide) (backOf (W := 1) (rm_inibb l Z a0 hw [] wG1 wG3 cx hEL T4.heap n0 Ol4 b3 t_4 .null (.int 0) F4_3 F4_5 F4_4 g_b3) hZ (own_w hw 50 rfl) (own_w hw 6 rfl) (by decide) (by decide)) (g := (mkF m 22 #[vI p1] [(.int 0), (.ref t_4), (.ref b3), (.ref b3)])) rfl (by rw [hml]; rfl) (Steps.refl _) (a := b3) (argsL := [(.ref t_4), (.int 0)]) (rest := [(.ref b3)]) (lenOf pd_44458512 rfl) rfl (Nat.le_of_eq rfl) (hb hby d5_22) (fun _ _ => ⟨rfl, rfl, (by decide : 2 + 0 ≤ _), (by decide : 5 + 0 ≤ _)⟩)
  dsimp only [Pt.U, Pt.locs, Pt.cells, Pt.slots] at X5 l5 y5 z5 st5 hQ5
  subst l5 y5 z5
  obtain ⟨rfl, Nq5, Kq5, fq5_0, fq5_1, fq5_2⟩ := hQ5
  refine OwnGoes.tr (T' := T5) (g' := (mkF m 25 #[vI p1] [(.ref b3)])) st5 ?_
  have N5 := Fr.app N4 Nq5
  have F5_6 := F4_3.keep Kq5
  have F5_7 := fq4_0.keep Kq5 (ninS (Ne.symm ne_b3_t_4) nin0)
  have Ol5 := Ol4.keep Kq5 (allS g_b3 all0)
  have K5 : Keep h0 T5.heap ([] : List Addr) := K4.trans Kq5 (allS (Or.inr s_b3) all0)
  have hret : ∀ fs, (∀ (f : JFrame) (acts : List Action), f.method = m → f.locked = none → f.entered = [] → (doReturn e (T5.setTop f) acts (some (.ref b3))).1 = T5.setFrames fs) → Steps p.tables e below (T5.setTop (mkF m 25 #[vI p1] [(.ref b3)])) (T5.setFrames fs) := by
    intro fs hr
    jvm_step X5.here [X5.here.top, hx, (hb hby d5_25), X5.method', Bd.returns, Value.isRef, FieldType.isReference]
    first | (intro acts; rw [hr _ acts rfl rfl rfl]) | rw [hr _ _ rfl rfl rfl]
    exact Steps.refl _
  refine own_leave X5 hlk (v := some (.ref b3)) (fun h => by rw [Bd.returns] at h; cases h) hret (by decide) (by decide) ?_
  show Q_valueOf Z p1 h0 n0 _ T5.heap _
  exact ⟨b3, t_4, k_4, rfl, N5, K5, s_b3, s_t_4, fq5_0, fq5_1, fq5_2, F5_7⟩
theorem ef_coder0 (m : MethodId) (x0 : Addr) : entryFrame m #[(.ref x0)] 1 = mkF m 0 #[vR x0] [] := by
  first | (simp [entryFrame, mkF, argsToLocals, Value.category]; done) | rfl
def Q_coder0 (Z : State) (a1 : Addr) (h0 : Heap) (n0 : Nat) (v : Option Value) (h : Heap) (L : List Loc) : Prop := v = some (.int 0) ∧ Fr n0 L ∧ h = h0
theorem d6_0 : decode jdk_42_method_152_code 0 = .ok (.getstatic 38, 3) := by decide +kernel
theorem d6_3 : decode jdk_42_method_152_code 3 = .ok (.ifCond .eq 10, 3) := by decide +kernel
theorem d6_6 : decode jdk_42_method_152_code 6 = .ok (.aload_n 0, 1) := by decide +kernel
theorem d6_7 : decode jdk_42_method_152_code 7 = .ok (.getfield 15, 3) := by decide +kernel
theorem d6_10 : decode jdk_42_method_152_code 10 = .ok (.goto 4, 3) := by decide +kernel
theorem d6_14 : decode jdk_42_method_152_code 14 = .ok (.ireturn, 1) := by decide +kernel
set_option maxRecDepth 65536 in
set_option maxHeartbeats 40000000 in
theorem rm_coder0 (l : Launch) (Z : State) (a0 : Array Value) (hw : ∀ d ∈ tables_1, d.before a0 Z = true) (ws : List Jvm.Cond) (wG1 : Int32) (wG3 : Value) (cx : OwnCx Z a0 wG1 wG3) (hEL : EW Z a0 consts_1) (h0 : Heap) (n0 : Nat) (X00 : Old Z n0 h0) (a1 : Addr) (f0 : Exa Z h0 a1 "java/lang/String") (f1 : Fld Z h0 a1 "java/lang/String" "coder" "B" (.int 0)) :
    MetFree l mN6 (head1 (Jvm.Cond.code mN6 jdk_42_method_152_code 1 (some .byte) :: ws) (oR 0 0 0 0)) (fun a U => a = #[(.ref a1)] ∧ Z.Warmed39 U.vm ∧ U.heap = h0) (fun _ _ _ _ _ => True) (fun _ U o U' => ∃ v L, o = .returned v ∧ Q_coder0 Z a1 h0 n0 v U'.heap L ∧ FrameEnd U o U' L (oR 0 0 0 0).cells (oR 0 0 0 0).slots) := by
  refine MetFree.of_bodySF (plainFor_of_name pn_52039224) hisR ?_
  intro p e s m args below meth c s₁ Bd hml0 hP hK
  obtain ⟨rfl, hZ, hh⟩ := hP
  obtain ⟨wO2, wP5, wO4, wrG3, hstr⟩ := id cx
  have hx := Bd.exec
  have hby := Bd.bytes
  have hlk := Bd.notSynchronized
  have hml : c.maxLocals = 1 := hml0
  have hown : s.vm.findClass "java/lang/String" = some m.cls := findClass_of_methodNamed Bd.named
  have hnm := (name_of_methodNamed Bd.named Bd.method).1
  have X0 : Stand p l e (oR 0 0 0 0) s m #[(.ref a1)] below meth c s₁ [] 0 0 := Stand.of_body Bd
  have e0 : s₁.heap = h0 := by rw [← hh, Bd.state]; rfl
  have N0 := Fr.nil n0
  have Z0 : n0 ≤ h0.size := X00.1 ▸ X00.2.1
  have K0 : Keep h0 h0 ([] : List Addr) := Keep.refl _ _
  show OwnGoes p e below _ s₁ (entryFrame m _ _)
  refine og s₁ m 0 #[vR a1] [] (fun tgt kgo => castTop (ef_coder0 m a1) kgo) ?_
  obtain ⟨T1, X1, e1, st1⟩ := getS2 X0 hx hZ hown (host := "") (Or.inl (own_w hw 18 rfl)) Via.refl e0 (wO2.ext X00.2) (g := (mkF m 0 #[vR a1] [])) rfl (hb hby d6_0)
  refine og T1 m 3 #[vR a1] [(.int wG1)] st1 ?_
  refine og T1 m 7 #[vR a1] [(.ref a1)] (fun tgt kgo => ?_) ?_
  · refine XS.ifNo X1.here hx rfl (hb hby d6_3) rfl ((if0 _ _).trans (feq wP5).1) ?_
    show OwnG p e below T1 m 6 #[vR a1] [] tgt
    refine XS.aloadN X1.here hx rfl (hb hby d6_6) rfl rfl ?_
    exact kgo
  obtain ⟨T2, X2, e2, st2⟩ := getF X1 hx hZ hown (host := "") (Or.inl (own_w hw 30 rfl)) Via.refl e1 f1 (g := (mkF m 7 #[vR a1] [(.ref a1)])) rfl rfl (hb hby d6_7)
  refine og T2 m 10 #[vR a1] [(.int 0)] st2 ?_
  refine og T2 m 14 #[vR a1] [(.int 0)] (fun tgt kgo => ?_) ?_
  · refine XS.goto X2.here hx rfl (pc0 := 10) (pc' := 14) rfl (hb hby d6_10) (by decide) (by decide) ?_
    exact kgo
  refine own_leave X2 hlk (v := some (.int 0)) (fun h => by rw [Bd.returns] at h; cases h) (fun fs hr => retN X2 hx (t := .byte) Bd.returns (by simp) (hb hby d6_14) (by rw [(by decide : nar .byte (0 : Int32) = (0 : Int32))]; exact hr)) (by decide) (by decide) ?_
  show Q_coder0 Z a1 h0 n0 _ T2.heap _
  rw [e2]
  exact ⟨rfl, N0, rfl⟩
theorem ef_len (m : MethodId) (x0 : Addr) : entryFrame m #[(.ref x0)] 1 = mkF m 0 #[vR x0] [] := by
  first | (simp [entryFrame, mkF, argsToLocals, Value.category]; done) | rfl
def Q_len (Z : State) (a1 : Addr) (ta : Addr) (ka : ClassId) (na : Int32) (vsa : List Value) (h0 : Heap) (n0 : Nat) (v : Option Value) (h : Heap) (L : List Loc) : Prop := v = some (.int na) ∧ Fr n0 L ∧ h = h0
theorem d7_0 : decode jdk_42_method_54_code 0 = .ok (.aload_n 0, 1) := by decide +kernel
theorem d7_1 : decode jdk_42_method_54_code 1 = .ok (.getfield 9, 3) := by decide +kernel
theorem d7_4 : decode jdk_42_method_54_code 4 = .ok (.arraylength, 1) := by decide +kernel
theorem d7_5 : decode jdk_42_method_54_code 5 = .ok (.aload_n 0, 1) := by decide +kernel
theorem d7_6 : decode jdk_42_method_54_code 6 = .ok (.invokevirtual 335, 3) := by decide +kernel
theorem pd_61459997 : parseMethodDescriptor "()B" = some ⟨[], some .byte⟩ := by decide +kernel
theorem d7_9 : decode jdk_42_method_54_code 9 = .ok (.ishr, 1) := by decide +kernel
theorem d7_10 : decode jdk_42_method_54_code 10 = .ok (.ireturn, 1) := by decide +kernel
set_option maxRecDepth 65536 in
set_option maxHeartbeats 40000000 in
theorem rm_len (l : Launch) (Z : State) (a0 : Array Value) (hw : ∀ d ∈ tables_1, d.before a0 Z = true) (ws : List Jvm.Cond) (wG1 : Int32) (wG3 : Value) (cx : OwnCx Z a0 wG1 wG3) (hEL : EW Z a0 consts_1) (h0 : Heap) (n0 : Nat) (X00 : Old Z n0 h0) (a1 : Addr) (ta : Addr) (ka : ClassId) (na : Int32) (vsa : List Value) (f0 : Exa Z h0 a1 "java/lang/String") (f1 : Fld Z h0 a1 "java/lang/String" "value" "[B" (.ref ta)) (f2 : Fld Z h0 a1 "java/lang/String" "coder" "B" (.int 0)) (f3 : Arv Z h0 ta ka .byte na vsa (.int 0)) :
    MetFree l mN7 (head1 (Jvm.Cond.code mN7 jdk_42_method_54_code 1 (some .int) :: ws) (oR 1 0 0 13)) (fun a U => a = #[(.ref a1)] ∧ Z.Warmed39 U.vm ∧ U.heap = h0) (fun _ _ _ _ _ => True) (fun _ U o U' => ∃ v L, o = .returned v ∧ Q_len Z a1 ta ka na vsa h0 n0 v U'.heap L ∧ FrameEnd U o U' L (oR 1 0 0 13).cells (oR 1 0 0 13).slots) := by
  refine MetFree.of_bodySF (plainFor_of_name pn_52039224) hisR ?_
  intro p e s m args below meth c s₁ Bd hml0 hP hK
  obtain ⟨rfl, hZ, hh⟩ := hP
  obtain ⟨wO2, wP5, wO4, wrG3, hstr⟩ := id cx
  have hx := Bd.exec
  have hby := Bd.bytes
  have hlk := Bd.notSynchronized
  have hml : c.maxLocals = 1 := hml0
  have hown : s.vm.findClass "java/lang/String" = some m.cls := findClass_of_methodNamed Bd.named
  have hnm := (name_of_methodNamed Bd.named Bd.method).1
  have X0 : Stand p l e (oR 1 0 0 13) s m #[(.ref a1)] below meth c s₁ [] 0 0 := Stand.of_body Bd
  have e0 : s₁.heap = h0 := by rw [← hh, Bd.state]; rfl
  have N0 := Fr.nil n0
  have Z0 : n0 ≤ h0.size := X00.1 ▸ X00.2.1
  have K0 : Keep h0 h0 ([] : List Addr) := Keep.refl _ _
  show OwnGoes p e below _ s₁ (entryFrame m _ _)
  refine og s₁ m 0 #[vR a1] [] (fun tgt kgo => castTop (ef_len m a1) kgo) ?_
  refine og s₁ m 1 #[vR a1] [(.ref a1)] (fun tgt kgo => ?_) ?_
  · refine XS.aloadN X0.here hx rfl (hb hby d7_0) rfl rfl ?_
    exact kgo
  obtain ⟨T1, X1, e1, st1⟩ := getF X0 hx hZ hown (host := "") (Or.inl (own_w hw 32 rfl)) Via.refl e0 f1 (g := (mkF m 1 #[vR a1] [(.ref a1)])) rfl rfl (hb hby d7_1)
  refine og T1 m 4 #[vR a1] [(.ref ta)] st1 ?_
  refine og T1 m 6 #[vR a1] [(.ref a1), (.int na)] (fun tgt kgo => ?_) ?_
  · obtain ⟨cl2, Ar2, q2, S2, M2, -, -⟩ := f3
    refine X1.arraylength hx (by rw [e1]; exact Ar2.1) (State.isArrayOf_alike hZ.alike Ar2.2.1) (g := (mkF m 4 #[vR a1] [(.ref ta)])) rfl rfl (hb hby d7_4) _ ?_
    rw [len_of S2 M2]
    show OwnG p e below T1 m 5 #[vR a1] [(.int na)] tgt
    refine XS.aloadN X1.here hx rfl (hb hby d7_5) rfl rfl ?_
    exact kgo
  obtain ⟨cq3, kq3, q3a, q3b, q3c⟩ := isOf (s := s) hZ e1 f0
  obtain ⟨_, _, ⟨T3, L3, k3, n3⟩, -, X3, ⟨Lc3, hQ3, l3, y3, z3⟩, st3⟩ := X1.virtualBack hx (y := mN6) (z := mN6) hown (mvT hZ (own_w hw 107 rfl)) (mvT hZ (own_w hw 108 rfl)) (notFace_of_selects (args := #[]) (mvT hZ (own_w hw 110 rfl))) (mvT hZ (own_w hw 110 rfl)) (mvT hZ (own_w hw 109 rfl)) (by decide) (backOf (W := 1) (rm_coder0 l Z a0 hw [] wG1 wG3 cx hEL h0 n0 X00 a1 f0 f2) hZ (own_w hw 111 rfl) (own_w hw 6 rfl) (by decide) (by decide)) q3a q3c (g := (mkF m 6 #[vR a1] [(.ref a1), (.int na)])) rfl (by rw [hml]; rfl) (Steps.refl _) (argsL := []) (rest := [(.int na)]) (lenOf pd_61459997 rfl) rfl (Nat.le_of_eq rfl) (hb hby d7_6) (fun _ _ => ⟨rfl, e1, (by decide : 0 + 0 ≤ _), (by decide : 0 + 0 ≤ _)⟩)
  dsimp only [Pt.U, Pt.locs, Pt.cells, Pt.slots] at X3 l3 y3 z3 st3 hQ3
  subst l3 y3 z3
  obtain ⟨rfl, Nq3, eq3⟩ := hQ3
  refine OwnGoes.tr (T' := T3) (g' := (mkF m 9 #[vR a1] [(.int 0), (.int na)])) st3 ?_
  have N3 := Fr.app N0 Nq3
  refine og T3 m 10 #[vR a1] [(.int (na >>> ((0 : Int32) &&& 31)))] (fun tgt kgo => ?_) ?_
  · refine XS.ishr X3.here hx rfl (hb hby d7_9) rfl ?_
    exact kgo
  refine og T3 m 10 #[vR a1] [(.int na)] (fun tgt kgo => castTop (by rw [(own_shr0 na)]) kgo) ?_
  refine own_leave X3 hlk (v := some (.int na)) (fun h => by rw [Bd.returns] at h; cases h) (fun fs hr => retI X3 hx Bd.returns (hb hby d7_10) hr) (by decide) (by decide) ?_
  show Q_len Z a1 ta ka na vsa h0 n0 _ T3.heap _
  rw [eq3]
  exact ⟨rfl, N3, rfl⟩
theorem ef_asbi (m : MethodId) (x0 : Addr) : entryFrame m #[(.ref x0), (.int 16)] 2 = mkF m 0 #[vR x0, vI 16] [] := by
  first | (simp [entryFrame, mkF, argsToLocals, Value.category]; done) | rfl
def Q_asbi (Z : State) (sb : Addr) (h0 : Heap) (n0 : Nat) (v : Option Value) (h : Heap) (L : List Loc) : Prop := ∃ (vv : Addr), ∃ (k : ClassId), v = none ∧ Fr n0 L ∧ Keep h0 h ([sb] : List Addr) ∧ h0.size ≤ vv ∧ Exa Z h sb "java/lang/StringBuilder" ∧ Fld Z h sb "java/lang/AbstractStringBuilder" "value" "[B" (.ref vv) ∧ Fld Z h sb "java/lang/AbstractStringBuilder" "coder" "B" (.int 0) ∧ Fld Z h sb "java/lang/AbstractStringBuilder" "count" "I" (.int 0) ∧ Arv Z h vv k .byte (16 : Int32) [(.int 0), (.int 0), (.int 0), (.int 0), (.int 0), (.int 0), (.int 0), (.int 0), (.int 0), (.int 0), (.int 0), (.int 0), (.int 0), (.int 0), (.int 0), (.int 0)] (.int 0)
theorem pn_24045714 : plainName "java/lang/AbstractStringBuilder" = true := by first | (simp [plainName, overriddenIn]; done) | decide +kernel
theorem d8_0 : decode jdk_68_method_2_code 0 = .ok (.aload_n 0, 1) := by decide +kernel
theorem d8_1 : decode jdk_68_method_2_code 1 = .ok (.invokespecial 3, 3) := by decide +kernel
theorem d8_4 : decode jdk_68_method_2_code 4 = .ok (.getstatic 18, 3) := by decide +kernel
theorem d8_7 : decode jdk_68_method_2_code 7 = .ok (.ifCond .eq 18, 3) := by decide +kernel
theorem d8_10 : decode jdk_68_method_2_code 10 = .ok (.aload_n 0, 1) := by decide +kernel
theorem d8_11 : decode jdk_68_method_2_code 11 = .ok (.iload_n 1, 1) := by decide +kernel
theorem d8_12 : decode jdk_68_method_2_code 12 = .ok (.newarray .byte, 2) := by decide +kernel
theorem d8_14 : decode jdk_68_method_2_code 14 = .ok (.putfield 15, 3) := by decide +kernel
theorem d8_17 : decode jdk_68_method_2_code 17 = .ok (.aload_n 0, 1) := by decide +kernel
theorem d8_18 : decode jdk_68_method_2_code 18 = .ok (.iconst 0, 1) := by decide +kernel
theorem d8_19 : decode jdk_68_method_2_code 19 = .ok (.putfield 22, 3) := by decide +kernel
theorem d8_22 : decode jdk_68_method_2_code 22 = .ok (.goto 16, 3) := by decide +kernel
theorem d8_38 : decode jdk_68_method_2_code 38 = .ok (.return_, 1) := by decide +kernel
set_option maxRecDepth 65536 in
set_option maxHeartbeats 40000000 in
theorem rm_asbi (l : Launch) (Z : State) (a0 : Array Value) (hw : ∀ d ∈ tables_1, d.before a0 Z = true) (ws : List Jvm.Cond) (wG1 : Int32) (wG3 : Value) (cx : OwnCx Z a0 wG1 wG3) (hEL : EW Z a0 consts_1) (h0 : Heap) (n0 : Nat) (X00 : Old Z n0 h0) (sb : Addr) (f0 : Exa Z h0 sb "java/lang/StringBuilder") (f1 : Fld Z h0 sb "java/lang/AbstractStringBuilder" "value" "[B" .null) (f2 : Fld Z h0 sb "java/lang/AbstractStringBuilder" "coder" "B" (.int 0)) (f3 : Fld Z h0 sb "java/lang/AbstractStringBuilder" "count" "I" (.int 0)) (f4 : n0 ≤ sb) :
    MetFree l mN8 (head1 (Jvm.Cond.code mN8 jdk_68_method_2_code 2 none :: ws) (oR 1 1 16 12)) (fun a U => a = #[(.ref sb), (.int 16)] ∧ Z.Warmed39 U.vm ∧ U.heap = h0) (fun _ _ _ _ _ => True) (fun _ U o U' => ∃ v L, o = .returned v ∧ Q_asbi Z sb h0 n0 v U'.heap L ∧ FrameEnd U o U' L (oR 1 1 16 12).cells (oR 1 1 16 12).slots) := by
  refine MetFree.of_bodySF (plainFor_of_name pn_24045714) hisR ?_
  intro p e s m args below meth c s₁ Bd hml0 hP hK
  obtain ⟨rfl, hZ, hh⟩ := hP
  obtain ⟨wO2, wP5, wO4, wrG3, hstr⟩ := id cx
  have hx := Bd.exec
  have hby := Bd.bytes
  have hlk := Bd.notSynchronized
  have hml : c.maxLocals = 2 := hml0
  have hown : s.vm.findClass "java/lang/AbstractStringBuilder" = some m.cls := findClass_of_methodNamed Bd.named
  have hnm := (name_of_methodNamed Bd.named Bd.method).1
  have X0 : Stand p l e (oR 1 1 16 12) s m #[(.ref sb), (.int 16)] below meth c s₁ [] 0 0 := Stand.of_body Bd
  have e0 : s₁.heap = h0 := by rw [← hh, Bd.state]; rfl
  have N0 := Fr.nil n0
  have Z0 : n0 ≤ h0.size := X00.1 ▸ X00.2.1
  have K0 : Keep h0 h0 ([sb] : List Addr) := Keep.refl _ _
  show OwnGoes p e below _ s₁ (entryFrame m _ _)
  refine og s₁ m 0 #[vR sb, vI 16] [] (fun tgt kgo => castTop (ef_asbi m sb) kgo) ?_
  refine og s₁ m 1 #[vR sb, vI 16] [(.ref sb)] (fun tgt kgo => ?_) ?_
  · refine XS.aloadN X0.here hx rfl (hb hby d8_0) rfl rfl ?_
    exact kgo
  obtain ⟨T1, X1, e1, st1⟩ := initO X0 hx hZ hown (own_w hw 86 rfl) (own_w hw 16 rfl) (own_w hw 17 rfl) e0 (g := (mkF m 1 #[vR sb, vI 16] [(.ref sb)])) rfl (by rw [hml]; rfl) rfl (hb hby d8_1) (by decide) (W := 0) (Nat.le_of_eq rfl) (by decide)
  refine og T1 m 4 #[vR sb, vI 16] [] st1 ?_
  obtain ⟨T2, X2, e2, st2⟩ := getS2 X1 hx hZ hown (host := "") (Or.inl (own_w hw 87 rfl)) Via.refl e1 (wO2.ext X00.2) (g := (mkF m 4 #[vR sb, vI 16] [])) rfl (hb hby d8_4)
  refine og T2 m 7 #[vR sb, vI 16] [(.int wG1)] st2 ?_
  refine og T2 m 12 #[vR sb, vI 16] [(.int 16), (.ref sb)] (fun tgt kgo => ?_) ?_
  · refine XS.ifNo X2.here hx rfl (hb hby d8_7) rfl ((if0 _ _).trans (feq wP5).1) ?_
    show OwnG p e below T2 m 10 #[vR sb, vI 16] [] tgt
    refine XS.aloadN X2.here hx rfl (hb hby d8_10) rfl rfl ?_
    show OwnG p e below T2 m 11 #[vR sb, vI 16] [(.ref sb)] tgt
    refine XS.iloadN X2.here hx rfl (hb hby d8_11) rfl ?_
    exact kgo
  obtain ⟨T3, h3, k3, X3, e3, E3, A3, st3⟩ := newP X2 hx hZ (own_w hw 23 rfl) e2 (g := (mkF m 12 #[vR sb, vI 16] [(.int 16), (.ref sb)])) rfl (hb hby d8_12) rfl (by decide) (cap := 16) (by decide) (by decide) (by decide) (by decide)
  obtain ⟨b3, g3⟩ : ∃ z, z = h0.size := ⟨_, rfl⟩
  rw [← g3] at A3 st3
  refine og T3 m 14 #[vR sb, vI 16] [(.ref b3), (.ref sb)] st3 ?_
  have V3 : Arv Z h3 b3 k3 .byte (16 : Int32) [(.int 0), (.int 0), (.int 0), (.int 0), (.int 0), (.int 0), (.int 0), (.int 0), (.int 0), (.int 0), (.int 0), (.int 0), (.int 0), (.int 0), (.int 0), (.int 0)] (.int 0) := (Arv.new A3 (by decide)).pad (pad_rep [] (.int 0) 16)
  have ne_sb_b3 : sb ≠ b3 := Nat.ne_of_lt (Nat.lt_of_lt_of_le f0.lt (Nat.le_of_eq g3.symm))
  have g_b3 : n0 ≤ b3 := Nat.le_trans (Nat.le_trans Z0 K0.1) (Nat.le_of_eq g3.symm)
  have s_b3 : h0.size ≤ b3 := Nat.le_trans K0.1 (Nat.le_of_eq g3.symm)
  have F3_1 := f0.ext E3
  have F3_2 := f1.ext E3
  have F3_3 := f2.ext E3
  have F3_4 := f3.ext E3
  have Ol3 := X00.ext E3
  have K3 : Keep h0 h3 ([sb] : List Addr) := K0.ext E3
  obtain ⟨T4, h4, X4, e4, W4, st4⟩ := putF X3 hx hZ hown (host := "") (Or.inl (own_w hw 88 rfl)) Via.refl e3 F3_2 F3_1 (Or.inl (own_w hw 89 rfl)) (own_w hw 75 rfl) (ty := (.array .byte)) (by decide) rfl rfl (g := (mkF m 14 #[vR sb, vI 16] [(.ref b3), (.ref sb)])) rfl rfl (hb hby d8_14)
  refine og T4 m 17 #[vR sb, vI 16] [] st4 ?_
  have Fw4 := F3_2.same W4
  have F4_5 := F3_1.wr W4
  have F4_6 := F3_3.other W4 (Or.inr (slot_ne (Or.inl (own_w hw 91 rfl)) (Or.inl (own_w hw 89 rfl)) (by decide) (t := .byte) (t' := (.array .byte)) (by decide) (by decide)))
  have F4_7 := F3_4.other W4 (Or.inr (slot_ne (Or.inl (own_w hw 113 rfl)) (Or.inl (own_w hw 89 rfl)) (by decide) (t := .int) (t' := (.array .byte)) (by decide) (by decide)))
  have F4_8 := V3.other W4 (Ne.symm ne_sb_b3)
  have Ol4 := Ol3.wr W4 f4
  have K4 : Keep h0 h4 ([sb] : List Addr) := K3.wr W4 (Or.inl (List.mem_of_getElem? (i := 0) rfl))
  have N4 := Fr.snoc X4 N0 f4
  refine og T4 m 19 #[vR sb, vI 16] [(.int 0), (.ref sb)] (fun tgt kgo => ?_) ?_
  · refine XS.aloadN X4.here hx rfl (hb hby d8_17) rfl rfl ?_
    show OwnG p e below T4 m 18 #[vR sb, vI 16] [(.ref sb)] tgt
    refine XS.iconst X4.here hx rfl (hb hby d8_18) ?_
    exact kgo
  obtain ⟨T5, h5, X5, e5, W5, st5⟩ := putFN X4 hx hZ hown (own_w hw 90 rfl) Via.refl e4 F4_6 F4_5 (Or.inl (own_w hw 91 rfl)) (own_w hw 75 rfl) (ty := .byte) (v' := (.int (nar .byte (0 : Int32)))) (by decide) rfl (fits_nar_byte _) (g := (mkF m 19 #[vR sb, vI 16] [(.int 0), (.ref sb)])) rfl rfl (hb hby d8_19)
  refine og T5 m 22 #[vR sb, vI 16] [] st5 ?_
  have Fw5 := F4_6.same W5
  rw [(by decide : nar .byte (0 : Int32) = (0 : Int32))] at Fw5
  have F5_9 := F4_5.wr W5
  have F5_10 := Fw4.other W5 (Or.inr (slot_ne (Or.inl (own_w hw 89 rfl)) (Or.inl (own_w hw 91 rfl)) (by decide) (t := (.array .byte)) (t' := .byte) (by decide) (by decide)))
  have F5_11 := F4_7.other W5 (Or.inr (slot_ne (Or.inl (own_w hw 113 rfl)) (Or.inl (own_w hw 91 rfl)) (by decide) (t := .int) (t' := .byte) (by decide) (by decide)))
  have F5_12 := F4_8.other W5 (Ne.symm ne_sb_b3)
  have Ol5 := Ol4.wr W5 f4
  have K5 : Keep h0 h5 ([sb] : List Addr) := K4.wr W5 (Or.inl (List.mem_of_getElem? (i := 0) rfl))
  have N5 := Fr.snoc X5 N4 f4
  refine og T5 m 38 #[vR sb, vI 16] [] (fun tgt kgo => ?_) ?_
  · refine XS.goto X5.here hx rfl (pc0 := 22) (pc' := 38) rfl (hb hby d8_22) (by decide) (by decide) ?_
    exact kgo
  refine own_leave X5 hlk (v := none) (fun _ => rfl) (fun fs hr => X5.returnOut hx Bd.returns (hb hby d8_38) hr) (by decide) (by decide) ?_
  show Q_asbi Z sb h0 n0 _ T5.heap _
  rw [e5]
  exact ⟨b3, k3, rfl, N5, K5, s_b3, F5_9, F5_10, Fw5, F5_11, F5_12⟩
theorem ef_sbi (m : MethodId) (x0 : Addr) : entryFrame m #[(.ref x0)] 1 = mkF m 0 #[vR x0] [] := by
  first | (simp [entryFrame, mkF, argsToLocals, Value.category]; done) | rfl
def Q_sbi (Z : State) (sb : Addr) (h0 : Heap) (n0 : Nat) (v : Option Value) (h : Heap) (L : List Loc) : Prop := ∃ (vv : Addr), ∃ (k : ClassId), v = none ∧ Fr n0 L ∧ Keep h0 h ([sb] : List Addr) ∧ h0.size ≤ vv ∧ Exa Z h sb "java/lang/StringBuilder" ∧ Fld Z h sb "java/lang/AbstractStringBuilder" "value" "[B" (.ref vv) ∧ Fld Z h sb "java/lang/AbstractStringBuilder" "coder" "B" (.int 0) ∧ Fld Z h sb "java/lang/AbstractStringBuilder" "count" "I" (.int 0) ∧ Arv Z h vv k .byte (16 : Int32) [(.int 0), (.int 0), (.int 0), (.int 0), (.int 0), (.int 0), (.int 0), (.int 0), (.int 0), (.int 0), (.int 0), (.int 0), (.int 0), (.int 0), (.int 0), (.int 0)] (.int 0)
theorem pn_27209738 : plainName "java/lang/StringBuilder" = true := by first | (simp [plainName, overriddenIn]; done) | decide +kernel
theorem d9_0 : decode jdk_67_method_1_code 0 = .ok (.aload_n 0, 1) := by decide +kernel
theorem d9_1 : decode jdk_67_method_1_code 1 = .ok (.bipush 16, 2) := by decide +kernel
theorem d9_3 : decode jdk_67_method_1_code 3 = .ok (.invokespecial 1, 3) := by decide +kernel
theorem pd_57711528 : parseMethodDescriptor "(I)V" = some ⟨[.int], none⟩ := by decide +kernel
theorem d9_6 : decode jdk_67_method_1_code 6 = .ok (.return_, 1) := by decide +kernel
set_option maxRecDepth 65536 in
set_option maxHeartbeats 40000000 in
theorem rm_sbi (l : Launch) (Z : State) (a0 : Array Value) (hw : ∀ d ∈ tables_1, d.before a0 Z = true) (ws : List Jvm.Cond) (wG1 : Int32) (wG3 : Value) (cx : OwnCx Z a0 wG1 wG3) (hEL : EW Z a0 consts_1) (h0 : Heap) (n0 : Nat) (X00 : Old Z n0 h0) (sb : Addr) (f0 : Exa Z h0 sb "java/lang/StringBuilder") (f1 : Fld Z h0 sb "java/lang/AbstractStringBuilder" "value" "[B" .null) (f2 : Fld Z h0 sb "java/lang/AbstractStringBuilder" "coder" "B" (.int 0)) (f3 : Fld Z h0 sb "java/lang/AbstractStringBuilder" "count" "I" (.int 0)) (f4 : n0 ≤ sb) :
    MetFree l mN9 (head1 (Jvm.Cond.code mN9 jdk_67_method_1_code 1 none :: ws) (oR 2 1 16 25)) (fun a U => a = #[(.ref sb)] ∧ Z.Warmed39 U.vm ∧ U.heap = h0) (fun _ _ _ _ _ => True) (fun _ U o U' => ∃ v L, o = .returned v ∧ Q_sbi Z sb h0 n0 v U'.heap L ∧ FrameEnd U o U' L (oR 2 1 16 25).cells (oR 2 1 16 25).slots) := by
  refine MetFree.of_bodySF (plainFor_of_name pn_27209738) hisR ?_
  intro p e s m args below meth c s₁ Bd hml0 hP hK
  obtain ⟨rfl, hZ, hh⟩ := hP
  obtain ⟨wO2, wP5, wO4, wrG3, hstr⟩ := id cx
  have hx := Bd.exec
  have hby := Bd.bytes
  have hlk := Bd.notSynchronized
  have hml : c.maxLocals = 1 := hml0
  have hown : s.vm.findClass "java/lang/StringBuilder" = some m.cls := findClass_of_methodNamed Bd.named
  have hnm := (name_of_methodNamed Bd.named Bd.method).1
  have X0 : Stand p l e (oR 2 1 16 25) s m #[(.ref sb)] below meth c s₁ [] 0 0 := Stand.of_body Bd
  have e0 : s₁.heap = h0 := by rw [← hh, Bd.state]; rfl
  have N0 := Fr.nil n0
  have Z0 : n0 ≤ h0.size := X00.1 ▸ X00.2.1
  have K0 : Keep h0 h0 ([sb] : List Addr) := Keep.refl _ _
  show OwnGoes p e below _ s₁ (entryFrame m _ _)
  refine og s₁ m 0 #[vR sb] [] (fun tgt kgo => castTop (ef_sbi m sb) kgo) ?_
  refine og s₁ m 3 #[vR sb] [(.int 16), (.ref sb)] (fun tgt kgo => ?_) ?_
  · refine XS.aloadN X0.here hx rfl (hb hby d9_0) rfl rfl ?_
    show OwnG p e below s₁ m 1 #[vR sb] [(.ref sb)] tgt
    refine XS.bipush X0.here hx rfl (hb hby d9_1) ?_
    exact kgo
  obtain ⟨_, _, ⟨T1, L1, k1, n1⟩, -, X1, ⟨Lc1, hQ1, l1, y1, z1⟩, st1⟩ := X0.specialBack hx (y := mN8) rfl hown (mvT hZ (own_w hw 80 rfl)) (mvT hZ (own_w hw 81 rfl)) (mvT hZ (own_w hw 85 rfl)) (by decide) (backOf (W := 0) (rm_asbi l Z a0 hw [] wG1 wG3 cx hEL h0 n0 X00 sb f0 f1 f2 f3 f4) hZ (own_w hw 85 rfl) (own_w hw 84 rfl) (by decide) (by decide)) (g := (mkF m 3 #[vR sb] [(.int 16), (.ref sb)])) rfl (by rw [hml]; rfl) (Steps.refl _) (a := sb) (argsL := [(.int 16)]) (rest := []) (lenOf pd_57711528 rfl) rfl (Nat.le_of_eq rfl) (hb hby d9_3) (fun _ _ => ⟨rfl, e0, (by decide : 0 + 1 ≤ _), (by decide : 0 + 16 ≤ _)⟩)
  dsimp only [Pt.U, Pt.locs, Pt.cells, Pt.slots] at X1 l1 y1 z1 st1 hQ1
  subst l1 y1 z1
  obtain ⟨vv_1, k_1, rfl, Nq1, Kq1, zq1_0, fq1_0, fq1_1, fq1_2, fq1_3, fq1_4⟩ := hQ1
  refine OwnGoes.tr (T' := T1) (g' := (mkF m 6 #[vR sb] [])) st1 ?_
  have N1 := Fr.app N0 Nq1
  have ne_sb_vv_1 : sb ≠ vv_1 := Nat.ne_of_lt (Nat.lt_of_lt_of_le f0.lt zq1_0)
  have g_vv_1 : n0 ≤ vv_1 := Nat.le_trans (Nat.le_trans Z0 K0.1) zq1_0
  have s_vv_1 : h0.size ≤ vv_1 := Nat.le_trans K0.1 zq1_0
  have F1_1 := f0.keep Kq1
  have Ol1 := X00.keep Kq1 (allS f4 all0)
  have K1 : Keep h0 T1.heap ([sb] : List Addr) := K0.trans Kq1 (allS (Or.inl (List.mem_of_getElem? (i := 0) rfl)) all0)
  refine own_leave X1 hlk (v := none) (fun _ => rfl) (fun fs hr => X1.returnOut hx Bd.returns (hb hby d9_6) hr) (by decide) (by decide) ?_
  show Q_sbi Z sb h0 n0 _ T1.heap _
  exact ⟨vv_1, k_1, rfl, N1, K1, s_vv_1, fq1_0, fq1_1, fq1_2, fq1_3, fq1_4⟩
theorem ef_infl (m : MethodId) (x0 : Addr) (x1 : Addr) : entryFrame m #[(.ref x0), (.ref x1)] 2 = mkF m 0 #[vR x0, vR x1] [] := by
  first | (simp [entryFrame, mkF, argsToLocals, Value.category]; done) | rfl
def Q_infl (Z : State) (sb : Addr) (va : Addr) (kv : ClassId) (qa : Int32) (vsb : List Value) (a1 : Addr) (ta : Addr) (ka : ClassId) (na : Int32) (vsa : List Value) (h0 : Heap) (n0 : Nat) (v : Option Value) (h : Heap) (L : List Loc) : Prop := v = none ∧ Fr n0 L ∧ h = h0
theorem d10_0 : decode jdk_68_method_71_code 0 = .ok (.getstatic 18, 3) := by decide +kernel
theorem d10_3 : decode jdk_68_method_71_code 3 = .ok (.ifCond .eq 18, 3) := by decide +kernel
theorem d10_6 : decode jdk_68_method_71_code 6 = .ok (.aload_n 0, 1) := by decide +kernel
theorem d10_7 : decode jdk_68_method_71_code 7 = .ok (.getfield 22, 3) := by decide +kernel
theorem d10_10 : decode jdk_68_method_71_code 10 = .ok (.aload_n 1, 1) := by decide +kernel
theorem d10_11 : decode jdk_68_method_71_code 11 = .ok (.invokevirtual 40, 3) := by decide +kernel
theorem d10_14 : decode jdk_68_method_71_code 14 = .ok (.if_icmp .eq 7, 3) := by decide +kernel
theorem d10_21 : decode jdk_68_method_71_code 21 = .ok (.return_, 1) := by decide +kernel
set_option maxRecDepth 65536 in
set_option maxHeartbeats 40000000 in
theorem rm_infl (l : Launch) (Z : State) (a0 : Array Value) (hw : ∀ d ∈ tables_1, d.before a0 Z = true) (ws : List Jvm.Cond) (wG1 : Int32) (wG3 : Value) (cx : OwnCx Z a0 wG1 wG3) (hEL : EW Z a0 consts_1) (h0 : Heap) (n0 : Nat) (X00 : Old Z n0 h0) (sb : Addr) (va : Addr) (kv : ClassId) (qa : Int32) (vsb : List Value) (a1 : Addr) (ta : Addr) (ka : ClassId) (na : Int32) (vsa : List Value) (f0 : Exa Z h0 sb "java/lang/StringBuilder") (f1 : Fld Z h0 sb "java/lang/AbstractStringBuilder" "value" "[B" (.ref va)) (f2 : Fld Z h0 sb "java/lang/AbstractStringBuilder" "coder" "B" (.int 0)) (f3 : Fld Z h0 sb "java/lang/AbstractStringBuilder" "count" "I" (.int qa)) (f4 : Arv Z h0 va kv .byte (16 : Int32) vsb (.int 0)) (f5 : Exa Z h0 a1 "java/lang/String") (f6 : Fld Z h0 a1 "java/lang/String" "value" "[B" (.ref ta)) (f7 : Fld Z h0 a1 "java/lang/String" "coder" "B" (.int 0)) (f8 : Arv Z h0 ta ka .byte na vsa (.int 0)) :
    MetFree l mN10 (head1 (Jvm.Cond.code mN10 jdk_68_method_71_code 2 none :: ws) (oR 1 0 0 13)) (fun a U => a = #[(.ref sb), (.ref a1)] ∧ Z.Warmed39 U.vm ∧ U.heap = h0) (fun _ _ _ _ _ => True) (fun _ U o U' => ∃ v L, o = .returned v ∧ Q_infl Z sb va kv qa vsb a1 ta ka na vsa h0 n0 v U'.heap L ∧ FrameEnd U o U' L (oR 1 0 0 13).cells (oR 1 0 0 13).slots) := by
  refine MetFree.of_bodySF (plainFor_of_name pn_24045714) hisR ?_
  intro p e s m args below meth c s₁ Bd hml0 hP hK
  obtain ⟨rfl, hZ, hh⟩ := hP
  obtain ⟨wO2, wP5, wO4, wrG3, hstr⟩ := id cx
  have hx := Bd.exec
  have hby := Bd.bytes
  have hlk := Bd.notSynchronized
  have hml : c.maxLocals = 2 := hml0
  have hown : s.vm.findClass "java/lang/AbstractStringBuilder" = some m.cls := findClass_of_methodNamed Bd.named
  have hnm := (name_of_methodNamed Bd.named Bd.method).1
  have X0 : Stand p l e (oR 1 0 0 13) s m #[(.ref sb), (.ref a1)] below meth c s₁ [] 0 0 := Stand.of_body Bd
  have e0 : s₁.heap = h0 := by rw [← hh, Bd.state]; rfl
  have N0 := Fr.nil n0
  have Z0 : n0 ≤ h0.size := X00.1 ▸ X00.2.1
  have K0 : Keep h0 h0 ([] : List Addr) := Keep.refl _ _
  show OwnGoes p e below _ s₁ (entryFrame m _ _)
  refine og s₁ m 0 #[vR sb, vR a1] [] (fun tgt kgo => castTop (ef_infl m sb a1) kgo) ?_
  obtain ⟨T1, X1, e1, st1⟩ := getS2 X0 hx hZ hown (host := "") (Or.inl (own_w hw 87 rfl)) Via.refl e0 (wO2.ext X00.2) (g := (mkF m 0 #[vR sb, vR a1] [])) rfl (hb hby d10_0)
  refine og T1 m 3 #[vR sb, vR a1] [(.int wG1)] st1 ?_
  refine og T1 m 7 #[vR sb, vR a1] [(.ref sb)] (fun tgt kgo => ?_) ?_
  · refine XS.ifNo X1.here hx rfl (hb hby d10_3) rfl ((if0 _ _).trans (feq wP5).1) ?_
    show OwnG p e below T1 m 6 #[vR sb, vR a1] [] tgt
    refine XS.aloadN X1.here hx rfl (hb hby d10_6) rfl rfl ?_
    exact kgo
  obtain ⟨T2, X2, e2, st2⟩ := getF X1 hx hZ hown (host := "") (Or.inl (own_w hw 90 rfl)) Via.refl e1 f2 (g := (mkF m 7 #[vR sb, vR a1] [(.ref sb)])) rfl rfl (hb hby d10_7)
  refine og T2 m 10 #[vR sb, vR a1] [(.int 0)] st2 ?_
  refine og T2 m 11 #[vR sb, vR a1] [(.ref a1), (.int 0)] (fun tgt kgo => ?_) ?_
  · refine XS.aloadN X2.here hx rfl (hb hby d10_10) rfl rfl ?_
    exact kgo
  obtain ⟨cq3, kq3, q3a, q3b, q3c⟩ := isOf (s := s) hZ e2 f5
  obtain ⟨_, _, ⟨T3, L3, k3, n3⟩, -, X3, ⟨Lc3, hQ3, l3, y3, z3⟩, st3⟩ := X2.virtualBack hx (y := mN6) (z := mN6) hown (mvT hZ (own_w hw 129 rfl)) (mvT hZ (own_w hw 108 rfl)) (notFace_of_selects (args := #[]) (mvT hZ (own_w hw 110 rfl))) (mvT hZ (own_w hw 110 rfl)) (mvT hZ (own_w hw 109 rfl)) (by decide) (backOf (W := 1) (rm_coder0 l Z a0 hw [] wG1 wG3 cx hEL h0 n0 X00 a1 f5 f7) hZ (own_w hw 111 rfl) (own_w hw 6 rfl) (by decide) (by decide)) q3a q3c (g := (mkF m 11 #[vR sb, vR a1] [(.ref a1), (.int 0)])) rfl (by rw [hml]; rfl) (Steps.refl _) (argsL := []) (rest := [(.int 0)]) (lenOf pd_61459997 rfl) rfl (Nat.le_of_eq rfl) (hb hby d10_11) (fun _ _ => ⟨rfl, e2, (by decide : 0 + 0 ≤ _), (by decide : 0 + 0 ≤ _)⟩)
  dsimp only [Pt.U, Pt.locs, Pt.cells, Pt.slots] at X3 l3 y3 z3 st3 hQ3
  subst l3 y3 z3
  obtain ⟨rfl, Nq3, eq3⟩ := hQ3
  refine OwnGoes.tr (T' := T3) (g' := (mkF m 14 #[vR sb, vR a1] [(.int 0), (.int 0)])) st3 ?_
  have N3 := Fr.app N0 Nq3
  refine og T3 m 21 #[vR sb, vR a1] [] (fun tgt kgo => ?_) ?_
  · refine XS.icmpYes X3.here hx rfl (pc0 := 14) (pc' := 21) rfl (hb hby d10_14) rfl (teq (by decide : (0 : Int32) = (0 : Int32))).1 (by decide) (by decide) ?_
    exact kgo
  refine own_leave X3 hlk (v := none) (fun _ => rfl) (fun fs hr => X3.returnOut hx Bd.returns (hb hby d10_21) hr) (by decide) (by decide) ?_
  show Q_infl Z sb va kv qa vsb a1 ta ka na vsa h0 n0 _ T3.heap _
  rw [eq3]
  exact ⟨rfl, N3, rfl⟩
theorem ef_getB (m : MethodId) (x0 : Addr) (x1 : Addr) (x2 : Int32) : entryFrame m #[(.ref x0), (.ref x1), (.int x2), (.int 0)] 4 = mkF m 0 #[vR x0, vR x1, vI x2, vI 0] [] := by
  first | (simp [entryFrame, mkF, argsToLocals, Value.category]; done) | rfl
def Q_getB (Z : State) (a1 : Addr) (ta : Addr) (ka : ClassId) (na : Int32) (vsa : List Value) (va : Addr) (kv : ClassId) (qa : Int32) (vsb : List Value) (csP : List Int32) (cs1 : List Int32) (h0 : Heap) (n0 : Nat) (v : Option Value) (h : Heap) (L : List Loc) : Prop := ∃ (vs : List Value), v = none ∧ Fr n0 L ∧ Keep h0 h ([va] : List Addr) ∧ Arv Z h va kv .byte (16 : Int32) vs (.int 0) ∧ (OwnB (csP ++ cs1) (qa + na) vs)
theorem d11_0 : decode jdk_42_method_147_code 0 = .ok (.aload_n 0, 1) := by decide +kernel
theorem d11_1 : decode jdk_42_method_147_code 1 = .ok (.invokevirtual 335, 3) := by decide +kernel
theorem d11_4 : decode jdk_42_method_147_code 4 = .ok (.iload_n 3, 1) := by decide +kernel
theorem d11_5 : decode jdk_42_method_147_code 5 = .ok (.if_icmp .ne 23, 3) := by decide +kernel
theorem d11_8 : decode jdk_42_method_147_code 8 = .ok (.aload_n 0, 1) := by decide +kernel
theorem d11_9 : decode jdk_42_method_147_code 9 = .ok (.getfield 9, 3) := by decide +kernel
theorem d11_12 : decode jdk_42_method_147_code 12 = .ok (.iconst 0, 1) := by decide +kernel
theorem d11_13 : decode jdk_42_method_147_code 13 = .ok (.aload_n 1, 1) := by decide +kernel
theorem d11_14 : decode jdk_42_method_147_code 14 = .ok (.iload_n 2, 1) := by decide +kernel
theorem d11_15 : decode jdk_42_method_147_code 15 = .ok (.iload_n 3, 1) := by decide +kernel
theorem d11_16 : decode jdk_42_method_147_code 16 = .ok (.ishl, 1) := by decide +kernel
theorem d11_17 : decode jdk_42_method_147_code 17 = .ok (.aload_n 0, 1) := by decide +kernel
theorem d11_18 : decode jdk_42_method_147_code 18 = .ok (.getfield 9, 3) := by decide +kernel
theorem d11_21 : decode jdk_42_method_147_code 21 = .ok (.arraylength, 1) := by decide +kernel
theorem d11_22 : decode jdk_42_method_147_code 22 = .ok (.invokestatic 212, 3) := by decide +kernel
theorem d11_25 : decode jdk_42_method_147_code 25 = .ok (.goto 18, 3) := by decide +kernel
theorem d11_43 : decode jdk_42_method_147_code 43 = .ok (.return_, 1) := by decide +kernel
set_option maxRecDepth 65536 in
set_option maxHeartbeats 40000000 in
theorem rm_getB (l : Launch) (Z : State) (a0 : Array Value) (hw : ∀ d ∈ tables_1, d.before a0 Z = true) (ws : List Jvm.Cond) (wG1 : Int32) (wG3 : Value) (cx : OwnCx Z a0 wG1 wG3) (hEL : EW Z a0 consts_1) (h0 : Heap) (n0 : Nat) (X00 : Old Z n0 h0) (a1 : Addr) (ta : Addr) (ka : ClassId) (na : Int32) (vsa : List Value) (va : Addr) (kv : ClassId) (qa : Int32) (vsb : List Value) (csP : List Int32) (cs1 : List Int32) (f0 : Exa Z h0 a1 "java/lang/String") (f1 : Fld Z h0 a1 "java/lang/String" "value" "[B" (.ref ta)) (f2 : Fld Z h0 a1 "java/lang/String" "coder" "B" (.int 0)) (f3 : Arv Z h0 ta ka .byte na vsa (.int 0)) (f4 : Arv Z h0 va kv .byte (16 : Int32) vsb (.int 0)) (f5 : n0 ≤ va) (f6 : ta ≠ va) (hB : OwnB csP qa vsb) (hos : OwnStr cs1 (0 : Int32) na vsa) (hcap : csP.length + cs1.length ≤ 15) :
    MetFree l mN11 (head1 (Jvm.Cond.code mN11 jdk_42_method_147_code 4 none :: ws) (oR 1 0 0 18)) (fun a U => a = #[(.ref a1), (.ref va), (.int qa), (.int 0)] ∧ Z.Warmed39 U.vm ∧ U.heap = h0) (fun _ _ _ _ _ => True) (fun _ U o U' => ∃ v L, o = .returned v ∧ Q_getB Z a1 ta ka na vsa va kv qa vsb csP cs1 h0 n0 v U'.heap L ∧ FrameEnd U o U' L (oR 1 0 0 18).cells (oR 1 0 0 18).slots) := by
  refine MetFree.of_bodySF (plainFor_of_name pn_52039224) hisR ?_
  intro p e s m args below meth c s₁ Bd hml0 hP hK
  obtain ⟨rfl, hZ, hh⟩ := hP
  obtain ⟨wO2, wP5, wO4, wrG3, hstr⟩ := id cx
  have hx := Bd.exec
  have hby := Bd.bytes
  have hlk := Bd.notSynchronized
  have hml : c.maxLocals = 4 := hml0
  have hown : s.vm.findClass "java/lang/String" = some m.cls := findClass_of_methodNamed Bd.named
  have hnm := (name_of_methodNamed Bd.named Bd.method).1
  have X0 : Stand p l e (oR 1 0 0 18) s m #[(.ref a1), (.ref va), (.int qa), (.int 0)] below meth c s₁ [] 0 0 := Stand.of_body Bd
  have e0 : s₁.heap = h0 := by rw [← hh, Bd.state]; rfl
  have N0 := Fr.nil n0
  have Z0 : n0 ≤ h0.size := X00.1 ▸ X00.2.1
  have K0 : Keep h0 h0 ([va] : List Addr) := Keep.refl _ _
  show OwnGoes p e below _ s₁ (entryFrame m _ _)
  refine og s₁ m 0 #[vR a1, vR va, vI qa, vI 0] [] (fun tgt kgo => castTop (ef_getB m a1 va qa) kgo) ?_
  refine og s₁ m 1 #[vR a1, vR va, vI qa, vI 0] [(.ref a1)] (fun tgt kgo => ?_) ?_
  · refine XS.aloadN X0.here hx rfl (hb hby d11_0) rfl rfl ?_
    exact kgo
  obtain ⟨cq1, kq1, q1a, q1b, q1c⟩ := isOf (s := s) hZ e0 f0
  obtain ⟨_, _, ⟨T1, L1, k1, n1⟩, -, X1, ⟨Lc1, hQ1, l1, y1, z1⟩, st1⟩ := X0.virtualBack hx (y := mN6) (z := mN6) hown (mvT hZ (own_w hw 107 rfl)) (mvT hZ (own_w hw 108 rfl)) (notFace_of_selects (args := #[]) (mvT hZ (own_w hw 110 rfl))) (mvT hZ (own_w hw 110 rfl)) (mvT hZ (own_w hw 109 rfl)) (by decide) (backOf (W := 0) (rm_coder0 l Z a0 hw [] wG1 wG3 cx hEL h0 n0 X00 a1 f0 f2) hZ (own_w hw 111 rfl) (own_w hw 6 rfl) (by decide) (by decide)) q1a q1c (g := (mkF m 1 #[vR a1, vR va, vI qa, vI 0] [(.ref a1)])) rfl (by rw [hml]; rfl) (Steps.refl _) (argsL := []) (rest := []) (lenOf pd_61459997 rfl) rfl (Nat.le_of_eq rfl) (hb hby d11_1) (fun _ _ => ⟨rfl, e0, (by decide : 0 + 0 ≤ _), (by decide : 0 + 0 ≤ _)⟩)
  dsimp only [Pt.U, Pt.locs, Pt.cells, Pt.slots] at X1 l1 y1 z1 st1 hQ1
  subst l1 y1 z1
  obtain ⟨rfl, Nq1, eq1⟩ := hQ1
  refine OwnGoes.tr (T' := T1) (g' := (mkF m 4 #[vR a1, vR va, vI qa, vI 0] [(.int 0)])) st1 ?_
  have N1 := Fr.app N0 Nq1
  refine og T1 m 9 #[vR a1, vR va, vI qa, vI 0] [(.ref a1)] (fun tgt kgo => ?_) ?_
  · refine XS.iloadN X1.here hx rfl (hb hby d11_4) rfl ?_
    show OwnG p e below T1 m 5 #[vR a1, vR va, vI qa, vI 0] [(.int 0), (.int 0)] tgt
    refine XS.icmpNo X1.here hx rfl (hb hby d11_5) rfl (teq (by decide : (0 : Int32) = (0 : Int32))).2 ?_
    show OwnG p e below T1 m 8 #[vR a1, vR va, vI qa, vI 0] [] tgt
    refine XS.aloadN X1.here hx rfl (hb hby d11_8) rfl rfl ?_
    exact kgo
  obtain ⟨T2, X2, e2, st2⟩ := getF X1 hx hZ hown (host := "") (Or.inl (own_w hw 32 rfl)) Via.refl eq1 f1 (g := (mkF m 9 #[vR a1, vR va, vI qa, vI 0] [(.ref a1)])) rfl rfl (hb hby d11_9)
  refine og T2 m 12 #[vR a1, vR va, vI qa, vI 0] [(.ref ta)] st2 ?_
  refine og T2 m 17 #[vR a1, vR va, vI qa, vI 0] [(.int (qa <<< ((0 : Int32) &&& 31))), (.ref va), (.int 0), (.ref ta)] (fun tgt kgo => ?_) ?_
  · refine XS.iconst X2.here hx rfl (hb hby d11_12) ?_
    show OwnG p e below T2 m 13 #[vR a1, vR va, vI qa, vI 0] [(.int 0), (.ref ta)] tgt
    refine XS.aloadN X2.here hx rfl (hb hby d11_13) rfl rfl ?_
    show OwnG p e below T2 m 14 #[vR a1, vR va, vI qa, vI 0] [(.ref va), (.int 0), (.ref ta)] tgt
    refine XS.iloadN X2.here hx rfl (hb hby d11_14) rfl ?_
    show OwnG p e below T2 m 15 #[vR a1, vR va, vI qa, vI 0] [(.int qa), (.ref va), (.int 0), (.ref ta)] tgt
    refine XS.iloadN X2.here hx rfl (hb hby d11_15) rfl ?_
    show OwnG p e below T2 m 16 #[vR a1, vR va, vI qa, vI 0] [(.int 0), (.int qa), (.ref va), (.int 0), (.ref ta)] tgt
    refine XS.ishl X2.here hx rfl (hb hby d11_16) rfl ?_
    exact kgo
  refine og T2 m 17 #[vR a1, vR va, vI qa, vI 0] [(.int qa), (.ref va), (.int 0), (.ref ta)] (fun tgt kgo => castTop (by rw [(own_shl0 qa)]) kgo) ?_
  refine og T2 m 18 #[vR a1, vR va, vI qa, vI 0] [(.ref a1), (.int qa), (.ref va), (.int 0), (.ref ta)] (fun tgt kgo => ?_) ?_
  · refine XS.aloadN X2.here hx rfl (hb hby d11_17) rfl rfl ?_
    exact kgo
  obtain ⟨T3, X3, e3, st3⟩ := getF X2 hx hZ hown (host := "") (Or.inl (own_w hw 32 rfl)) Via.refl e2 f1 (g := (mkF m 18 #[vR a1, vR va, vI qa, vI 0] [(.ref a1), (.int qa), (.ref va), (.int 0), (.ref ta)])) rfl rfl (hb hby d11_18)
  refine og T3 m 21 #[vR a1, vR va, vI qa, vI 0] [(.ref ta), (.int qa), (.ref va), (.int 0), (.ref ta)] st3 ?_
  refine og T3 m 22 #[vR a1, vR va, vI qa, vI 0] [(.int na), (.int qa), (.ref va), (.int 0), (.ref ta)] (fun tgt kgo => ?_) ?_
  · obtain ⟨cl4, Ar4, q4, S4, M4, -, -⟩ := f3
    refine X3.arraylength hx (by rw [e3]; exact Ar4.1) (State.isArrayOf_alike hZ.alike Ar4.2.1) (g := (mkF m 21 #[vR a1, vR va, vI qa, vI 0] [(.ref ta), (.int qa), (.ref va), (.int 0), (.ref ta)])) rfl rfl (hb hby d11_21) _ ?_
    rw [len_of S4 M4]
    exact kgo
  obtain ⟨T5, h5, L5, X5, e5, N5, Kq5, V5, st5⟩ := cpA X3 hx hZ hown (own_w hw 135 rfl) (own_w hw 138 rfl) (own_w hw 136 rfl) (own_w hw 137 rfl) e3 f3 f4 (us := vsa) (Or.inl ⟨rfl, rfl⟩) (by decide) (own_gb hB hos hcap).1 (own_gb hB hos hcap).2.1 (own_gb hB hos hcap).2.2.1 (own_gb hB hos hcap).2.2.2.1 (own_gb hB hos hcap).2.2.2.2.1 (own_gb hB hos hcap).2.2.2.2.2.1 N1 f5 (g := (mkF m 22 #[vR a1, vR va, vI qa, vI 0] [(.int na), (.int qa), (.ref va), (.int 0), (.ref ta)])) rfl (by rw [hml]; rfl) (rest := []) rfl (hb hby d11_22) (by decide) (W := 0) (Nat.le_of_eq rfl) (by decide)
  refine og T5 m 25 #[vR a1, vR va, vI qa, vI 0] [] st5 ?_
  have F5_1 := f0.keep Kq5
  have F5_2 := f1.keep Kq5 (ninS (Exa.neArv f0 f4 (own_w hw 5 rfl)) nin0)
  have F5_3 := f2.keep Kq5 (ninS (Exa.neArv f0 f4 (own_w hw 5 rfl)) nin0)
  have F5_4 := f3.keep Kq5 (ninS f6 nin0)
  have Ol5 := X00.keep Kq5 (allS f5 all0)
  have K5 : Keep h0 h5 ([va] : List Addr) := K0.trans Kq5 (allS (Or.inl (List.mem_of_getElem? (i := 0) rfl)) all0)
  have V5' : Arv Z h5 va kv .byte (16 : Int32) (vsb.take qa.toNatClampNeg ++ vsa ++ vsb.drop (qa.toNatClampNeg + na.toNatClampNeg)) (.int 0) := V5
  refine og T5 m 43 #[vR a1, vR va, vI qa, vI 0] [] (fun tgt kgo => ?_) ?_
  · refine XS.goto X5.here hx rfl (pc0 := 25) (pc' := 43) rfl (hb hby d11_25) (by decide) (by decide) ?_
    exact kgo
  refine own_leave X5 hlk (v := none) (fun _ => rfl) (fun fs hr => X5.returnOut hx Bd.returns (hb hby d11_43) hr) (by decide) (by decide) ?_
  show Q_getB Z a1 ta ka na vsa va kv qa vsb csP cs1 h0 n0 _ T5.heap _
  rw [e5]
  exact ⟨(vsb.take qa.toNatClampNeg ++ vsa ++ vsb.drop (qa.toNatClampNeg + na.toNatClampNeg)), rfl, N5, K5, V5', (own_gb hB hos hcap).2.2.2.2.2.2⟩
theorem ef_putS (m : MethodId) (x0 : Addr) (x1 : Int32) (x2 : Addr) : entryFrame m #[(.ref x0), (.int x1), (.ref x2)] 3 = mkF m 0 #[vR x0, vI x1, vR x2] [] := by
  first | (simp [entryFrame, mkF, argsToLocals, Value.category]; done) | rfl
def Q_putS (Z : State) (sb : Addr) (va : Addr) (kv : ClassId) (qa : Int32) (vsb : List Value) (a1 : Addr) (ta : Addr) (ka : ClassId) (na : Int32) (vsa : List Value) (csP : List Int32) (cs1 : List Int32) (h0 : Heap) (n0 : Nat) (v : Option Value) (h : Heap) (L : List Loc) : Prop := ∃ (vs : List Value), v = none ∧ Fr n0 L ∧ Keep h0 h ([va] : List Addr) ∧ Arv Z h va kv .byte (16 : Int32) vs (.int 0) ∧ (OwnB (csP ++ cs1) (qa + na) vs)
theorem d12_0 : decode jdk_68_method_73_code 0 = .ok (.aload_n 0, 1) := by decide +kernel
theorem d12_1 : decode jdk_68_method_73_code 1 = .ok (.aload_n 2, 1) := by decide +kernel
theorem d12_2 : decode jdk_68_method_73_code 2 = .ok (.invokevirtual 397, 3) := by decide +kernel
theorem pd_48551140 : parseMethodDescriptor "(Ljava/lang/String;)V" = some ⟨[(.object "java/lang/String")], none⟩ := by decide +kernel
theorem d12_5 : decode jdk_68_method_73_code 5 = .ok (.aload_n 2, 1) := by decide +kernel
theorem d12_6 : decode jdk_68_method_73_code 6 = .ok (.aload_n 0, 1) := by decide +kernel
theorem d12_7 : decode jdk_68_method_73_code 7 = .ok (.getfield 15, 3) := by decide +kernel
theorem d12_10 : decode jdk_68_method_73_code 10 = .ok (.iload_n 1, 1) := by decide +kernel
theorem d12_11 : decode jdk_68_method_73_code 11 = .ok (.aload_n 0, 1) := by decide +kernel
theorem d12_12 : decode jdk_68_method_73_code 12 = .ok (.getfield 22, 3) := by decide +kernel
theorem d12_15 : decode jdk_68_method_73_code 15 = .ok (.invokevirtual 399, 3) := by decide +kernel
theorem pd_80268203 : parseMethodDescriptor "([BIB)V" = some ⟨[(.array .byte), .int, .byte], none⟩ := by decide +kernel
theorem d12_18 : decode jdk_68_method_73_code 18 = .ok (.return_, 1) := by decide +kernel
set_option maxRecDepth 65536 in
set_option maxHeartbeats 40000000 in
theorem rm_putS (l : Launch) (Z : State) (a0 : Array Value) (hw : ∀ d ∈ tables_1, d.before a0 Z = true) (ws : List Jvm.Cond) (wG1 : Int32) (wG3 : Value) (cx : OwnCx Z a0 wG1 wG3) (hEL : EW Z a0 consts_1) (h0 : Heap) (n0 : Nat) (X00 : Old Z n0 h0) (sb : Addr) (va : Addr) (kv : ClassId) (qa : Int32) (vsb : List Value) (a1 : Addr) (ta : Addr) (ka : ClassId) (na : Int32) (vsa : List Value) (csP : List Int32) (cs1 : List Int32) (f0 : Exa Z h0 sb "java/lang/StringBuilder") (f1 : Fld Z h0 sb "java/lang/AbstractStringBuilder" "value" "[B" (.ref va)) (f2 : Fld Z h0 sb "java/lang/AbstractStringBuilder" "coder" "B" (.int 0)) (f3 : Fld Z h0 sb "java/lang/AbstractStringBuilder" "count" "I" (.int qa)) (f4 : Arv Z h0 va kv .byte (16 : Int32) vsb (.int 0)) (f5 : Exa Z h0 a1 "java/lang/String") (f6 : Fld Z h0 a1 "java/lang/String" "value" "[B" (.ref ta)) (f7 : Fld Z h0 a1 "java/lang/String" "coder" "B" (.int 0)) (f8 : Arv Z h0 ta ka .byte na vsa (.int 0)) (f9 : n0 ≤ va) (f10 : ta ≠ va) (hB : OwnB csP qa vsb) (hos : OwnStr cs1 (0 : Int32) na vsa) (hcap : csP.length + cs1.length ≤ 15) :
    MetFree l mN12 (head1 (Jvm.Cond.code mN12 jdk_68_method_73_code 3 none :: ws) (oR 2 0 0 33)) (fun a U => a = #[(.ref sb), (.int qa), (.ref a1)] ∧ Z.Warmed39 U.vm ∧ U.heap = h0) (fun _ _ _ _ _ => True) (fun _ U o U' => ∃ v L, o = .returned v ∧ Q_putS Z sb va kv qa vsb a1 ta ka na vsa csP cs1 h0 n0 v U'.heap L ∧ FrameEnd U o U' L (oR 2 0 0 33).cells (oR 2 0 0 33).slots) := by
  refine MetFree.of_bodySF (plainFor_of_name pn_24045714) hisR ?_
  intro p e s m args below meth c s₁ Bd hml0 hP hK
  obtain ⟨rfl, hZ, hh⟩ := hP
  obtain ⟨wO2, wP5, wO4, wrG3, hstr⟩ := id cx
  have hx := Bd.exec
  have hby := Bd.bytes
  have hlk := Bd.notSynchronized
  have hml : c.maxLocals = 3 := hml0
  have hown : s.vm.findClass "java/lang/AbstractStringBuilder" = some m.cls := findClass_of_methodNamed Bd.named
  have hnm := (name_of_methodNamed Bd.named Bd.method).1
  have X0 : Stand p l e (oR 2 0 0 33) s m #[(.ref sb), (.int qa), (.ref a1)] below meth c s₁ [] 0 0 := Stand.of_body Bd
  have e0 : s₁.heap = h0 := by rw [← hh, Bd.state]; rfl
  have N0 := Fr.nil n0
  have Z0 : n0 ≤ h0.size := X00.1 ▸ X00.2.1
  have K0 : Keep h0 h0 ([va] : List Addr) := Keep.refl _ _
  show OwnGoes p e below _ s₁ (entryFrame m _ _)
  refine og s₁ m 0 #[vR sb, vI qa, vR a1] [] (fun tgt kgo => castTop (ef_putS m sb qa a1) kgo) ?_
  refine og s₁ m 2 #[vR sb, vI qa, vR a1] [(.ref a1), (.ref sb)] (fun tgt kgo => ?_) ?_
  · refine XS.aloadN X0.here hx rfl (hb hby d12_0) rfl rfl ?_
    show OwnG p e below s₁ m 1 #[vR sb, vI qa, vR a1] [(.ref sb)] tgt
    refine XS.aloadN X0.here hx rfl (hb hby d12_1) rfl rfl ?_
    exact kgo
  obtain ⟨cq1, kq1, q1a, q1b, q1c⟩ := isOf (s := s) hZ e0 f0
  obtain ⟨_, _, ⟨T1, L1, k1, n1⟩, -, X1, ⟨Lc1, hQ1, l1, y1, z1⟩, st1⟩ := X0.virtualBack hx (y := mN10) (z := mN10) hown (mvT hZ (own_w hw 124 rfl)) (mvT hZ (own_decl (own_w hw 125 rfl) (own_w hw 128 rfl))) (notFace_of_selects (args := #[]) (mvT hZ (own_w hw 127 rfl))) (mvT hZ (own_w hw 127 rfl)) (mvT hZ (own_w hw 125 rfl)) (by decide) (backOf (W := 0) (rm_infl l Z a0 hw [] wG1 wG3 cx hEL h0 n0 X00 sb va kv qa vsb a1 ta ka na vsa f0 f1 f2 f3 f4 f5 f6 f7 f8) hZ (own_w hw 128 rfl) (own_w hw 84 rfl) (by decide) (by decide)) q1a q1c (g := (mkF m 2 #[vR sb, vI qa, vR a1] [(.ref a1), (.ref sb)])) rfl (by rw [hml]; rfl) (Steps.refl _) (argsL := [(.ref a1)]) (rest := []) (lenOf pd_48551140 rfl) rfl (Nat.le_of_eq rfl) (hb hby d12_2) (fun _ _ => ⟨rfl, e0, (by decide : 0 + 0 ≤ _), (by decide : 0 + 0 ≤ _)⟩)
  dsimp only [Pt.U, Pt.locs, Pt.cells, Pt.slots] at X1 l1 y1 z1 st1 hQ1
  subst l1 y1 z1
  obtain ⟨rfl, Nq1, eq1⟩ := hQ1
  refine OwnGoes.tr (T' := T1) (g' := (mkF m 5 #[vR sb, vI qa, vR a1] [])) st1 ?_
  have N1 := Fr.app N0 Nq1
  refine og T1 m 7 #[vR sb, vI qa, vR a1] [(.ref sb), (.ref a1)] (fun tgt kgo => ?_) ?_
  · refine XS.aloadN X1.here hx rfl (hb hby d12_5) rfl rfl ?_
    show OwnG p e below T1 m 6 #[vR sb, vI qa, vR a1] [(.ref a1)] tgt
    refine XS.aloadN X1.here hx rfl (hb hby d12_6) rfl rfl ?_
    exact kgo
  obtain ⟨T2, X2, e2, st2⟩ := getF X1 hx hZ hown (host := "") (Or.inl (own_w hw 88 rfl)) Via.refl eq1 f1 (g := (mkF m 7 #[vR sb, vI qa, vR a1] [(.ref sb), (.ref a1)])) rfl rfl (hb hby d12_7)
  refine og T2 m 10 #[vR sb, vI qa, vR a1] [(.ref va), (.ref a1)] st2 ?_
  refine og T2 m 12 #[vR sb, vI qa, vR a1] [(.ref sb), (.int qa), (.ref va), (.ref a1)] (fun tgt kgo => ?_) ?_
  · refine XS.iloadN X2.here hx rfl (hb hby d12_10) rfl ?_
    show OwnG p e below T2 m 11 #[vR sb, vI qa, vR a1] [(.int qa), (.ref va), (.ref a1)] tgt
    refine XS.aloadN X2.here hx rfl (hb hby d12_11) rfl rfl ?_
    exact kgo
  obtain ⟨T3, X3, e3, st3⟩ := getF X2 hx hZ hown (host := "") (Or.inl (own_w hw 90 rfl)) Via.refl e2 f2 (g := (mkF m 12 #[vR sb, vI qa, vR a1] [(.ref sb), (.int qa), (.ref va), (.ref a1)])) rfl rfl (hb hby d12_12)
  refine og T3 m 15 #[vR sb, vI qa, vR a1] [(.int 0), (.int qa), (.ref va), (.ref a1)] st3 ?_
  obtain ⟨cq4, kq4, q4a, q4b, q4c⟩ := isOf (s := s) hZ e3 f5
  obtain ⟨_, _, ⟨T4, L4, k4, n4⟩, -, X4, ⟨Lc4, hQ4, l4, y4, z4⟩, st4⟩ := X3.virtualBack hx (y := mN11) (z := mN11) hown (mvT hZ (own_w hw 130 rfl)) (mvT hZ (own_w hw 131 rfl)) (notFace_of_selects (args := #[]) (mvT hZ (own_w hw 133 rfl))) (mvT hZ (own_w hw 133 rfl)) (mvT hZ (own_w hw 132 rfl)) (by decide) (backOf (W := 0) (rm_getB l Z a0 hw [] wG1 wG3 cx hEL h0 n0 X00 a1 ta ka na vsa va kv qa vsb csP cs1 f5 f6 f7 f8 f4 f9 f10 hB hos hcap) hZ (own_w hw 134 rfl) (own_w hw 6 rfl) (by decide) (by decide)) q4a q4c (g := (mkF m 15 #[vR sb, vI qa, vR a1] [(.int 0), (.int qa), (.ref va), (.ref a1)])) rfl (by rw [hml]; rfl) (Steps.refl _) (argsL := [(.ref va), (.int qa), (.int 0)]) (rest := []) (lenOf pd_80268203 rfl) rfl (Nat.le_of_eq rfl) (hb hby d12_15) (fun _ _ => ⟨rfl, e3, (by decide : 0 + 0 ≤ _), (by decide : 0 + 0 ≤ _)⟩)
  dsimp only [Pt.U, Pt.locs, Pt.cells, Pt.slots] at X4 l4 y4 z4 st4 hQ4
  subst l4 y4 z4
  obtain ⟨vs_4, rfl, Nq4, Kq4, fq4_0, pq4_0⟩ := hQ4
  refine OwnGoes.tr (T' := T4) (g' := (mkF m 18 #[vR sb, vI qa, vR a1] [])) st4 ?_
  have N4 := Fr.app N1 Nq4
  have F4_1 := f0.keep Kq4
  have F4_2 := f1.keep Kq4 (ninS (Exa.neArv f0 f4 (own_w hw 75 rfl)) nin0)
  have F4_3 := f2.keep Kq4 (ninS (Exa.neArv f0 f4 (own_w hw 75 rfl)) nin0)
  have F4_4 := f3.keep Kq4 (ninS (Exa.neArv f0 f4 (own_w hw 75 rfl)) nin0)
  have F4_5 := f5.keep Kq4
  have F4_6 := f6.keep Kq4 (ninS (Exa.neArv f5 f4 (own_w hw 5 rfl)) nin0)
  have F4_7 := f7.keep Kq4 (ninS (Exa.neArv f5 f4 (own_w hw 5 rfl)) nin0)
  have F4_8 := f8.keep Kq4 (ninS f10 nin0)
  have Ol4 := X00.keep Kq4 (allS f9 all0)
  have K4 : Keep h0 T4.heap ([va] : List Addr) := K0.trans Kq4 (allS (Or.inl (List.mem_of_getElem? (i := 0) rfl)) all0)
  refine own_leave X4 hlk (v := none) (fun _ => rfl) (fun fs hr => X4.returnOut hx Bd.returns (hb hby d12_18) hr) (by decide) (by decide) ?_
  show Q_putS Z sb va kv qa vsb a1 ta ka na vsa csP cs1 h0 n0 _ T4.heap _
  exact ⟨vs_4, rfl, N4, K4, fq4_0, pq4_0⟩
theorem ef_ensC (m : MethodId) (x0 : Addr) (x1 : Int32) : entryFrame m #[(.ref x0), (.int x1)] 3 = mkF m 0 #[vR x0, vI x1, vU] [] := by
  first | (simp [entryFrame, mkF, argsToLocals, Value.category]; done) | rfl
def Q_ensC (Z : State) (sb : Addr) (va : Addr) (kv : ClassId) (qa : Int32) (vsb : List Value) (m1 : Int32) (h0 : Heap) (n0 : Nat) (v : Option Value) (h : Heap) (L : List Loc) : Prop := v = none ∧ Fr n0 L ∧ h = h0
theorem d13_0 : decode jdk_68_method_9_code 0 = .ok (.aload_n 0, 1) := by decide +kernel
theorem d13_1 : decode jdk_68_method_9_code 1 = .ok (.getfield 15, 3) := by decide +kernel
theorem d13_4 : decode jdk_68_method_9_code 4 = .ok (.arraylength, 1) := by decide +kernel
theorem d13_5 : decode jdk_68_method_9_code 5 = .ok (.aload_n 0, 1) := by decide +kernel
theorem d13_6 : decode jdk_68_method_9_code 6 = .ok (.getfield 22, 3) := by decide +kernel
theorem d13_9 : decode jdk_68_method_9_code 9 = .ok (.ishr, 1) := by decide +kernel
theorem d13_10 : decode jdk_68_method_9_code 10 = .ok (.istore_n 2, 1) := by decide +kernel
theorem d13_11 : decode jdk_68_method_9_code 11 = .ok (.iload_n 1, 1) := by decide +kernel
theorem d13_12 : decode jdk_68_method_9_code 12 = .ok (.iload_n 2, 1) := by decide +kernel
theorem d13_13 : decode jdk_68_method_9_code 13 = .ok (.isub, 1) := by decide +kernel
theorem d13_14 : decode jdk_68_method_9_code 14 = .ok (.ifCond .le 24, 3) := by decide +kernel
theorem d13_38 : decode jdk_68_method_9_code 38 = .ok (.return_, 1) := by decide +kernel
set_option maxRecDepth 65536 in
set_option maxHeartbeats 40000000 in
theorem rm_ensC (l : Launch) (Z : State) (a0 : Array Value) (hw : ∀ d ∈ tables_1, d.before a0 Z = true) (ws : List Jvm.Cond) (wG1 : Int32) (wG3 : Value) (cx : OwnCx Z a0 wG1 wG3) (hEL : EW Z a0 consts_1) (h0 : Heap) (n0 : Nat) (X00 : Old Z n0 h0) (sb : Addr) (va : Addr) (kv : ClassId) (qa : Int32) (vsb : List Value) (m1 : Int32) (f0 : Exa Z h0 sb "java/lang/StringBuilder") (f1 : Fld Z h0 sb "java/lang/AbstractStringBuilder" "value" "[B" (.ref va)) (f2 : Fld Z h0 sb "java/lang/AbstractStringBuilder" "coder" "B" (.int 0)) (f3 : Fld Z h0 sb "java/lang/AbstractStringBuilder" "count" "I" (.int qa)) (f4 : Arv Z h0 va kv .byte (16 : Int32) vsb (.int 0)) (hm : ¬ ((0 : Int32) < (m1 - (16 : Int32)))) :
    MetFree l mN13 (head1 (Jvm.Cond.code mN13 jdk_68_method_9_code 3 none :: ws) (oR 0 0 0 0)) (fun a U => a = #[(.ref sb), (.int m1)] ∧ Z.Warmed39 U.vm ∧ U.heap = h0) (fun _ _ _ _ _ => True) (fun _ U o U' => ∃ v L, o = .returned v ∧ Q_ensC Z sb va kv qa vsb m1 h0 n0 v U'.heap L ∧ FrameEnd U o U' L (oR 0 0 0 0).cells (oR 0 0 0 0).slots) := by
  refine MetFree.of_bodySF (plainFor_of_name pn_24045714) hisR ?_
  intro p e s m args below meth c s₁ Bd hml0 hP hK
  obtain ⟨rfl, hZ, hh⟩ := hP
  obtain ⟨wO2, wP5, wO4, wrG3, hstr⟩ := id cx
  have hx := Bd.exec
  have hby := Bd.bytes
  have hlk := Bd.notSynchronized
  have hml : c.maxLocals = 3 := hml0
  have hown : s.vm.findClass "java/lang/AbstractStringBuilder" = some m.cls := findClass_of_methodNamed Bd.named
  have hnm := (name_of_methodNamed Bd.named Bd.method).1
  have X0 : Stand p l e (oR 0 0 0 0) s m #[(.ref sb), (.int m1)] below meth c s₁ [] 0 0 := Stand.of_body Bd
  have e0 : s₁.heap = h0 := by rw [← hh, Bd.state]; rfl
  have N0 := Fr.nil n0
  have Z0 : n0 ≤ h0.size := X00.1 ▸ X00.2.1
  have K0 : Keep h0 h0 ([] : List Addr) := Keep.refl _ _
  show OwnGoes p e below _ s₁ (entryFrame m _ _)
  refine og s₁ m 0 #[vR sb, vI m1, vU] [] (fun tgt kgo => castTop (ef_ensC m sb m1) kgo) ?_
  refine og s₁ m 1 #[vR sb, vI m1, vU] [(.ref sb)] (fun tgt kgo => ?_) ?_
  · refine XS.aloadN X0.here hx rfl (hb hby d13_0) rfl rfl ?_
    exact kgo
  obtain ⟨T1, X1, e1, st1⟩ := getF X0 hx hZ hown (host := "") (Or.inl (own_w hw 88 rfl)) Via.refl e0 f1 (g := (mkF m 1 #[vR sb, vI m1, vU] [(.ref sb)])) rfl rfl (hb hby d13_1)
  refine og T1 m 4 #[vR sb, vI m1, vU] [(.ref va)] st1 ?_
  refine og T1 m 6 #[vR sb, vI m1, vU] [(.ref sb), (.int 16)] (fun tgt kgo => ?_) ?_
  · obtain ⟨cl2, Ar2, q2, S2, M2, -, -⟩ := f4
    refine X1.arraylength hx (by rw [e1]; exact Ar2.1) (State.isArrayOf_alike hZ.alike Ar2.2.1) (g := (mkF m 4 #[vR sb, vI m1, vU] [(.ref va)])) rfl rfl (hb hby d13_4) _ ?_
    rw [len_of S2 M2]
    show OwnG p e below T1 m 5 #[vR sb, vI m1, vU] [(.int 16)] tgt
    refine XS.aloadN X1.here hx rfl (hb hby d13_5) rfl rfl ?_
    exact kgo
  obtain ⟨T3, X3, e3, st3⟩ := getF X1 hx hZ hown (host := "") (Or.inl (own_w hw 90 rfl)) Via.refl e1 f2 (g := (mkF m 6 #[vR sb, vI m1, vU] [(.ref sb), (.int 16)])) rfl rfl (hb hby d13_6)
  refine og T3 m 9 #[vR sb, vI m1, vU] [(.int 0), (.int 16)] st3 ?_
  refine og T3 m 38 #[vR sb, vI m1, vI 16] [] (fun tgt kgo => ?_) ?_
  · refine XS.ishr X3.here hx rfl (hb hby d13_9) rfl ?_
    show OwnG p e below T3 m 10 #[vR sb, vI m1, vU] [(.int 16)] tgt
    refine XS.istoreN X3.here hx rfl (hb hby d13_10) rfl (l' := #[vR sb, vI m1, vI 16]) rfl ?_
    show OwnG p e below T3 m 11 #[vR sb, vI m1, vI 16] [] tgt
    refine XS.iloadN X3.here hx rfl (hb hby d13_11) rfl ?_
    show OwnG p e below T3 m 12 #[vR sb, vI m1, vI 16] [(.int m1)] tgt
    refine XS.iloadN X3.here hx rfl (hb hby d13_12) rfl ?_
    show OwnG p e below T3 m 13 #[vR sb, vI m1, vI 16] [(.int 16), (.int m1)] tgt
    refine XS.isub X3.here hx rfl (hb hby d13_13) rfl ?_
    show OwnG p e below T3 m 14 #[vR sb, vI m1, vI 16] [(.int (m1 - (16 : Int32)))] tgt
    refine XS.ifYes X3.here hx rfl (pc0 := 14) (pc' := 38) rfl (hb hby d13_14) rfl ((if0 _ _).trans (flt hm).2.2.2) (by decide) (by decide) ?_
    exact kgo
  refine own_leave X3 hlk (v := none) (fun _ => rfl) (fun fs hr => X3.returnOut hx Bd.returns (hb hby d13_38) hr) (by decide) (by decide) ?_
  show Q_ensC Z sb va kv qa vsb m1 h0 n0 _ T3.heap _
  rw [e3]
  exact ⟨rfl, N0, rfl⟩
theorem ef_aapp (m : MethodId) (x0 : Addr) (x1 : Addr) : entryFrame m #[(.ref x0), (.ref x1)] 3 = mkF m 0 #[vR x0, vR x1, vU] [] := by
  first | (simp [entryFrame, mkF, argsToLocals, Value.category]; done) | rfl
def Q_aapp (Z : State) (sb : Addr) (va : Addr) (kv : ClassId) (qa : Int32) (vsb : List Value) (a1 : Addr) (ta : Addr) (ka : ClassId) (na : Int32) (vsa : List Value) (csP : List Int32) (cs1 : List Int32) (h0 : Heap) (n0 : Nat) (v : Option Value) (h : Heap) (L : List Loc) : Prop := ∃ (vs : List Value), v = some (.ref sb) ∧ Fr n0 L ∧ Keep h0 h ([sb, va] : List Addr) ∧ Exa Z h sb "java/lang/StringBuilder" ∧ Fld Z h sb "java/lang/AbstractStringBuilder" "value" "[B" (.ref va) ∧ Fld Z h sb "java/lang/AbstractStringBuilder" "coder" "B" (.int 0) ∧ Fld Z h sb "java/lang/AbstractStringBuilder" "count" "I" (.int (qa + na)) ∧ Arv Z h va kv .byte (16 : Int32) vs (.int 0) ∧ (OwnB (csP ++ cs1) (qa + na) vs)
theorem d14_0 : decode jdk_68_method_22_code 0 = .ok (.aload_n 1, 1) := by decide +kernel
theorem d14_1 : decode jdk_68_method_22_code 1 = .ok (.ifnonnull 8, 3) := by decide +kernel
theorem d14_9 : decode jdk_68_method_22_code 9 = .ok (.aload_n 1, 1) := by decide +kernel
theorem d14_10 : decode jdk_68_method_22_code 10 = .ok (.invokevirtual 32, 3) := by decide +kernel
theorem pd_86913941 : parseMethodDescriptor "()I" = some ⟨[], some .int⟩ := by decide +kernel
theorem d14_13 : decode jdk_68_method_22_code 13 = .ok (.istore_n 2, 1) := by decide +kernel
theorem d14_14 : decode jdk_68_method_22_code 14 = .ok (.aload_n 0, 1) := by decide +kernel
theorem d14_15 : decode jdk_68_method_22_code 15 = .ok (.aload_n 0, 1) := by decide +kernel
theorem d14_16 : decode jdk_68_method_22_code 16 = .ok (.getfield 79, 3) := by decide +kernel
theorem d14_19 : decode jdk_68_method_22_code 19 = .ok (.iload_n 2, 1) := by decide +kernel
theorem d14_20 : decode jdk_68_method_22_code 20 = .ok (.iadd, 1) := by decide +kernel
theorem d14_21 : decode jdk_68_method_22_code 21 = .ok (.invokevirtual 100, 3) := by decide +kernel
theorem d14_24 : decode jdk_68_method_22_code 24 = .ok (.aload_n 0, 1) := by decide +kernel
theorem d14_25 : decode jdk_68_method_22_code 25 = .ok (.aload_n 0, 1) := by decide +kernel
theorem d14_26 : decode jdk_68_method_22_code 26 = .ok (.getfield 79, 3) := by decide +kernel
theorem d14_29 : decode jdk_68_method_22_code 29 = .ok (.aload_n 1, 1) := by decide +kernel
theorem d14_30 : decode jdk_68_method_22_code 30 = .ok (.invokevirtual 208, 3) := by decide +kernel
theorem pd_78914811 : parseMethodDescriptor "(ILjava/lang/String;)V" = some ⟨[.int, (.object "java/lang/String")], none⟩ := by decide +kernel
theorem d14_33 : decode jdk_68_method_22_code 33 = .ok (.aload_n 0, 1) := by decide +kernel
theorem d14_34 : decode jdk_68_method_22_code 34 = .ok (.dup, 1) := by decide +kernel
theorem d14_35 : decode jdk_68_method_22_code 35 = .ok (.getfield 79, 3) := by decide +kernel
theorem d14_38 : decode jdk_68_method_22_code 38 = .ok (.iload_n 2, 1) := by decide +kernel
theorem d14_39 : decode jdk_68_method_22_code 39 = .ok (.iadd, 1) := by decide +kernel
theorem d14_40 : decode jdk_68_method_22_code 40 = .ok (.putfield 79, 3) := by decide +kernel
theorem d14_43 : decode jdk_68_method_22_code 43 = .ok (.aload_n 0, 1) := by decide +kernel
theorem d14_44 : decode jdk_68_method_22_code 44 = .ok (.areturn, 1) := by decide +kernel
set_option maxRecDepth 65536 in
set_option maxHeartbeats 40000000 in
theorem rm_aapp (l : Launch) (Z : State) (a0 : Array Value) (hw : ∀ d ∈ tables_1, d.before a0 Z = true) (ws : List Jvm.Cond) (wG1 : Int32) (wG3 : Value) (cx : OwnCx Z a0 wG1 wG3) (hEL : EW Z a0 consts_1) (h0 : Heap) (n0 : Nat) (X00 : Old Z n0 h0) (sb : Addr) (va : Addr) (kv : ClassId) (qa : Int32) (vsb : List Value) (a1 : Addr) (ta : Addr) (ka : ClassId) (na : Int32) (vsa : List Value) (csP : List Int32) (cs1 : List Int32) (f0 : Exa Z h0 sb "java/lang/StringBuilder") (f1 : Fld Z h0 sb "java/lang/AbstractStringBuilder" "value" "[B" (.ref va)) (f2 : Fld Z h0 sb "java/lang/AbstractStringBuilder" "coder" "B" (.int 0)) (f3 : Fld Z h0 sb "java/lang/AbstractStringBuilder" "count" "I" (.int qa)) (f4 : Arv Z h0 va kv .byte (16 : Int32) vsb (.int 0)) (f5 : Exa Z h0 a1 "java/lang/String") (f6 : Fld Z h0 a1 "java/lang/String" "value" "[B" (.ref ta)) (f7 : Fld Z h0 a1 "java/lang/String" "coder" "B" (.int 0)) (f8 : Arv Z h0 ta ka .byte na vsa (.int 0)) (f9 : n0 ≤ sb) (f10 : n0 ≤ va) (f11 : ta ≠ va) (hB : OwnB csP qa vsb) (hos : OwnStr cs1 (0 : Int32) na vsa) (hcap : csP.length + cs1.length ≤ 15) :
    MetFree l mN14 (head1 (Jvm.Cond.code mN14 jdk_68_method_22_code 3 (some (.object "java/lang/AbstractStringBuilder")) :: ws) (oR 3 0 0 47)) (fun a U => a = #[(.ref sb), (.ref a1)] ∧ Z.Warmed39 U.vm ∧ U.heap = h0) (fun _ _ _ _ _ => True) (fun _ U o U' => ∃ v L, o = .returned v ∧ Q_aapp Z sb va kv qa vsb a1 ta ka na vsa csP cs1 h0 n0 v U'.heap L ∧ FrameEnd U o U' L (oR 3 0 0 47).cells (oR 3 0 0 47).slots) := by
  refine MetFree.of_bodySF (plainFor_of_name pn_24045714) hisR ?_
  intro p e s m args below meth c s₁ Bd hml0 hP hK
  obtain ⟨rfl, hZ, hh⟩ := hP
  obtain ⟨wO2, wP5, wO4, wrG3, hstr⟩ := id cx
  have hx := Bd.exec
  have hby := Bd.bytes
  have hlk := Bd.notSynchronized
  have hml : c.maxLocals = 3 := hml0
  have hown : s.vm.findClass "java/lang/AbstractStringBuilder" = some m.cls := findClass_of_methodNamed Bd.named
  have hnm := (name_of_methodNamed Bd.named Bd.method).1
  have X0 : Stand p l e (oR 3 0 0 47) s m #[(.ref sb), (.ref a1)] below meth c s₁ [] 0 0 := Stand.of_body Bd
  have e0 : s₁.heap = h0 := by rw [← hh, Bd.state]; rfl
  have N0 := Fr.nil n0
  have Z0 : n0 ≤ h0.size := X00.1 ▸ X00.2.1
  have K0 : Keep h0 h0 ([sb, va] : List Addr) := Keep.refl _ _
  show OwnGoes p e below _ s₁ (entryFrame m _ _)
  refine og s₁ m 0 #[vR sb, vR a1, vU] [] (fun tgt kgo => castTop (ef_aapp m sb a1) kgo) ?_
  refine og s₁ m 10 #[vR sb, vR a1, vU] [(.ref a1)] (fun tgt kgo => ?_) ?_
  · refine XS.aloadN X0.here hx rfl (hb hby d14_0) rfl rfl ?_
    show OwnG p e below s₁ m 1 #[vR sb, vR a1, vU] [(.ref a1)] tgt
    refine XS.ifnonnullYes X0.here hx rfl (pc0 := 1) (pc' := 9) rfl (hb hby d14_1) rfl (by decide) (by decide) ?_
    show OwnG p e below s₁ m 9 #[vR sb, vR a1, vU] [] tgt
    refine XS.aloadN X0.here hx rfl (hb hby d14_9) rfl rfl ?_
    exact kgo
  obtain ⟨cq1, kq1, q1a, q1b, q1c⟩ := isOf (s := s) hZ e0 f5
  obtain ⟨_, _, ⟨T1, L1, k1, n1⟩, -, X1, ⟨Lc1, hQ1, l1, y1, z1⟩, st1⟩ := X0.virtualBack hx (y := mN7) (z := mN7) hown (mvT hZ (own_w hw 102 rfl)) (mvT hZ (own_w hw 103 rfl)) (notFace_of_selects (args := #[]) (mvT hZ (own_w hw 105 rfl))) (mvT hZ (own_w hw 105 rfl)) (mvT hZ (own_w hw 104 rfl)) (by decide) (backOf (W := 0) (rm_len l Z a0 hw [] wG1 wG3 cx hEL h0 n0 X00 a1 ta ka na vsa f5 f6 f7 f8) hZ (own_w hw 106 rfl) (own_w hw 6 rfl) (by decide) (by decide)) q1a q1c (g := (mkF m 10 #[vR sb, vR a1, vU] [(.ref a1)])) rfl (by rw [hml]; rfl) (Steps.refl _) (argsL := []) (rest := []) (lenOf pd_86913941 rfl) rfl (Nat.le_of_eq rfl) (hb hby d14_10) (fun _ _ => ⟨rfl, e0, (by decide : 0 + 0 ≤ _), (by decide : 0 + 0 ≤ _)⟩)
  dsimp only [Pt.U, Pt.locs, Pt.cells, Pt.slots] at X1 l1 y1 z1 st1 hQ1
  subst l1 y1 z1
  obtain ⟨rfl, Nq1, eq1⟩ := hQ1
  refine OwnGoes.tr (T' := T1) (g' := (mkF m 13 #[vR sb, vR a1, vU] [(.int na)])) st1 ?_
  have N1 := Fr.app N0 Nq1
  refine og T1 m 16 #[vR sb, vR a1, vI na] [(.ref sb), (.ref sb)] (fun tgt kgo => ?_) ?_
  · refine XS.istoreN X1.here hx rfl (hb hby d14_13) rfl (l' := #[vR sb, vR a1, vI na]) rfl ?_
    show OwnG p e below T1 m 14 #[vR sb, vR a1, vI na] [] tgt
    refine XS.aloadN X1.here hx rfl (hb hby d14_14) rfl rfl ?_
    show OwnG p e below T1 m 15 #[vR sb, vR a1, vI na] [(.ref sb)] tgt
    refine XS.aloadN X1.here hx rfl (hb hby d14_15) rfl rfl ?_
    exact kgo
  obtain ⟨T2, X2, e2, st2⟩ := getF X1 hx hZ hown (host := "") (Or.inl (own_w hw 112 rfl)) Via.refl eq1 f3 (g := (mkF m 16 #[vR sb, vR a1, vI na] [(.ref sb), (.ref sb)])) rfl rfl (hb hby d14_16)
  refine og T2 m 19 #[vR sb, vR a1, vI na] [(.int qa), (.ref sb)] st2 ?_
  refine og T2 m 21 #[vR sb, vR a1, vI na] [(.int (qa + na)), (.ref sb)] (fun tgt kgo => ?_) ?_
  · refine XS.iloadN X2.here hx rfl (hb hby d14_19) rfl ?_
    show OwnG p e below T2 m 20 #[vR sb, vR a1, vI na] [(.int na), (.int qa), (.ref sb)] tgt
    refine XS.iadd X2.here hx rfl (hb hby d14_20) rfl ?_
    exact kgo
  obtain ⟨cq3, kq3, q3a, q3b, q3c⟩ := isOf (s := s) hZ e2 f0
  obtain ⟨_, _, ⟨T3, L3, k3, n3⟩, -, X3, ⟨Lc3, hQ3, l3, y3, z3⟩, st3⟩ := X2.virtualBack hx (y := mN13) (z := mN13) hown (mvT hZ (own_w hw 114 rfl)) (mvT hZ (own_decl (own_w hw 115 rfl) (own_w hw 118 rfl))) (notFace_of_selects (args := #[]) (mvT hZ (own_w hw 117 rfl))) (mvT hZ (own_w hw 117 rfl)) (mvT hZ (own_w hw 115 rfl)) (by decide) (backOf (W := 0) (rm_ensC l Z a0 hw [] wG1 wG3 cx hEL h0 n0 X00 sb va kv qa vsb (qa + na) f0 f1 f2 f3 f4 (own_q (own_gb hB hos hcap).2.2.2.2.2.2).2.2.2.2) hZ (own_w hw 118 rfl) (own_w hw 84 rfl) (by decide) (by decide)) q3a q3c (g := (mkF m 21 #[vR sb, vR a1, vI na] [(.int (qa + na)), (.ref sb)])) rfl (by rw [hml]; rfl) (Steps.refl _) (argsL := [(.int (qa + na))]) (rest := []) (lenOf pd_57711528 rfl) rfl (Nat.le_of_eq rfl) (hb hby d14_21) (fun _ _ => ⟨rfl, e2, (by decide : 0 + 0 ≤ _), (by decide : 0 + 0 ≤ _)⟩)
  dsimp only [Pt.U, Pt.locs, Pt.cells, Pt.slots] at X3 l3 y3 z3 st3 hQ3
  subst l3 y3 z3
  obtain ⟨rfl, Nq3, eq3⟩ := hQ3
  refine OwnGoes.tr (T' := T3) (g' := (mkF m 24 #[vR sb, vR a1, vI na] [])) st3 ?_
  have N3 := Fr.app N1 Nq3
  refine og T3 m 26 #[vR sb, vR a1, vI na] [(.ref sb), (.ref sb)] (fun tgt kgo => ?_) ?_
  · refine XS.aloadN X3.here hx rfl (hb hby d14_24) rfl rfl ?_
    show OwnG p e below T3 m 25 #[vR sb, vR a1, vI na] [(.ref sb)] tgt
    refine XS.aloadN X3.here hx rfl (hb hby d14_25) rfl rfl ?_
    exact kgo
  obtain ⟨T4, X4, e4, st4⟩ := getF X3 hx hZ hown (host := "") (Or.inl (own_w hw 112 rfl)) Via.refl eq3 f3 (g := (mkF m 26 #[vR sb, vR a1, vI na] [(.ref sb), (.ref sb)])) rfl rfl (hb hby d14_26)
  refine og T4 m 29 #[vR sb, vR a1, vI na] [(.int qa), (.ref sb)] st4 ?_
  refine og T4 m 30 #[vR sb, vR a1, vI na] [(.ref a1), (.int qa), (.ref sb)] (fun tgt kgo => ?_) ?_
  · refine XS.aloadN X4.here hx rfl (hb hby d14_29) rfl rfl ?_
    exact kgo
  obtain ⟨cq5, kq5, q5a, q5b, q5c⟩ := isOf (s := s) hZ e4 f0
  obtain ⟨_, _, ⟨T5, L5, k5, n5⟩, -, X5, ⟨Lc5, hQ5, l5, y5, z5⟩, st5⟩ := X4.virtualBack hx (y := mN12) (z := mN12) hown (mvT hZ (own_w hw 119 rfl)) (mvT hZ (own_decl (own_w hw 120 rfl) (own_w hw 123 rfl))) (notFace_of_selects (args := #[]) (mvT hZ (own_w hw 122 rfl))) (mvT hZ (own_w hw 122 rfl)) (mvT hZ (own_w hw 120 rfl)) (by decide) (backOf (W := 0) (rm_putS l Z a0 hw [] wG1 wG3 cx hEL h0 n0 X00 sb va kv qa vsb a1 ta ka na vsa csP cs1 f0 f1 f2 f3 f4 f5 f6 f7 f8 f10 f11 hB hos hcap) hZ (own_w hw 123 rfl) (own_w hw 84 rfl) (by decide) (by decide)) q5a q5c (g := (mkF m 30 #[vR sb, vR a1, vI na] [(.ref a1), (.int qa), (.ref sb)])) rfl (by rw [hml]; rfl) (Steps.refl _) (argsL := [(.int qa), (.ref a1)]) (rest := []) (lenOf pd_78914811 rfl) rfl (Nat.le_of_eq rfl) (hb hby d14_30) (fun _ _ => ⟨rfl, e4, (by decide : 0 + 0 ≤ _), (by decide : 0 + 0 ≤ _)⟩)
  dsimp only [Pt.U, Pt.locs, Pt.cells, Pt.slots] at X5 l5 y5 z5 st5 hQ5
  subst l5 y5 z5
  obtain ⟨vs_5, rfl, Nq5, Kq5, fq5_0, pq5_0⟩ := hQ5
  refine OwnGoes.tr (T' := T5) (g' := (mkF m 33 #[vR sb, vR a1, vI na] [])) st5 ?_
  have N5 := Fr.app N3 Nq5
  have F5_1 := f0.keep Kq5
  have F5_2 := f1.keep Kq5 (ninS (Exa.neArv f0 f4 (own_w hw 75 rfl)) nin0)
  have F5_3 := f2.keep Kq5 (ninS (Exa.neArv f0 f4 (own_w hw 75 rfl)) nin0)
  have F5_4 := f3.keep Kq5 (ninS (Exa.neArv f0 f4 (own_w hw 75 rfl)) nin0)
  have F5_5 := f5.keep Kq5
  have F5_6 := f6.keep Kq5 (ninS (Exa.neArv f5 f4 (own_w hw 5 rfl)) nin0)
  have F5_7 := f7.keep Kq5 (ninS (Exa.neArv f5 f4 (own_w hw 5 rfl)) nin0)
  have F5_8 := f8.keep Kq5 (ninS f11 nin0)
  have Ol5 := X00.keep Kq5 (allS f10 all0)
  have K5 : Keep h0 T5.heap ([sb, va] : List Addr) := K0.trans Kq5 (allS (Or.inl (List.mem_of_getElem? (i := 1) rfl)) all0)
  refine og T5 m 35 #[vR sb, vR a1, vI na] [(.ref sb), (.ref sb)] (fun tgt kgo => ?_) ?_
  · refine XS.aloadN X5.here hx rfl (hb hby d14_33) rfl rfl ?_
    show OwnG p e below T5 m 34 #[vR sb, vR a1, vI na] [(.ref sb)] tgt
    refine XS.dup X5.here hx rfl (hb hby d14_34) rfl rfl ?_
    exact kgo
  obtain ⟨T6, X6, e6, st6⟩ := getF X5 hx hZ hown (host := "") (Or.inl (own_w hw 112 rfl)) Via.refl rfl F5_4 (g := (mkF m 35 #[vR sb, vR a1, vI na] [(.ref sb), (.ref sb)])) rfl rfl (hb hby d14_35)
  refine og T6 m 38 #[vR sb, vR a1, vI na] [(.int qa), (.ref sb)] st6 ?_
  refine og T6 m 40 #[vR sb, vR a1, vI na] [(.int (qa + na)), (.ref sb)] (fun tgt kgo => ?_) ?_
  · refine XS.iloadN X6.here hx rfl (hb hby d14_38) rfl ?_
    show OwnG p e below T6 m 39 #[vR sb, vR a1, vI na] [(.int na), (.int qa), (.ref sb)] tgt
    refine XS.iadd X6.here hx rfl (hb hby d14_39) rfl ?_
    exact kgo
  obtain ⟨T7, h7, X7, e7, W7, st7⟩ := putF X6 hx hZ hown (host := "") (Or.inl (own_w hw 112 rfl)) Via.refl e6 F5_4 F5_1 (Or.inl (own_w hw 113 rfl)) (own_w hw 75 rfl) (ty := .int) (by decide) rfl rfl (g := (mkF m 40 #[vR sb, vR a1, vI na] [(.int (qa + na)), (.ref sb)])) rfl rfl (hb hby d14_40)
  refine og T7 m 43 #[vR sb, vR a1, vI na] [] st7 ?_
  have Fw7 := F5_4.same W7
  have F7_9 := F5_1.wr W7
  have F7_10 := F5_2.other W7 (Or.inr (slot_ne (Or.inl (own_w hw 89 rfl)) (Or.inl (own_w hw 113 rfl)) (by decide) (t := (.array .byte)) (t' := .int) (by decide) (by decide)))
  have F7_11 := F5_3.other W7 (Or.inr (slot_ne (Or.inl (own_w hw 91 rfl)) (Or.inl (own_w hw 113 rfl)) (by decide) (t := .byte) (t' := .int) (by decide) (by decide)))
  have F7_12 := F5_5.wr W7
  have F7_13 := F5_6.other W7 (Or.inl (Exa.ne F5_5 F5_1 (by decide)))
  have F7_14 := F5_7.other W7 (Or.inl (Exa.ne F5_5 F5_1 (by decide)))
  have F7_15 := F5_8.other W7 (Ne.symm (Exa.neArv F5_1 F5_8 (own_w hw 75 rfl)))
  have F7_16 := fq5_0.other W7 (Ne.symm (Exa.neArv F5_1 fq5_0 (own_w hw 75 rfl)))
  have Ol7 := Ol5.wr W7 f9
  have K7 : Keep h0 h7 ([sb, va] : List Addr) := K5.wr W7 (Or.inl (List.mem_of_getElem? (i := 0) rfl))
  have N7 := Fr.snoc X7 N5 f9
  refine og T7 m 44 #[vR sb, vR a1, vI na] [(.ref sb)] (fun tgt kgo => ?_) ?_
  · refine XS.aloadN X7.here hx rfl (hb hby d14_43) rfl rfl ?_
    exact kgo
  have hret : ∀ fs, (∀ (f : JFrame) (acts : List Action), f.method = m → f.locked = none → f.entered = [] → (doReturn e (T7.setTop f) acts (some (.ref sb))).1 = T7.setFrames fs) → Steps p.tables e below (T7.setTop (mkF m 44 #[vR sb, vR a1, vI na] [(.ref sb)])) (T7.setFrames fs) := by
    intro fs hr
    jvm_step X7.here [X7.here.top, hx, (hb hby d14_44), X7.method', Bd.returns, Value.isRef, FieldType.isReference]
    first | (intro acts; rw [hr _ acts rfl rfl rfl]) | rw [hr _ _ rfl rfl rfl]
    exact Steps.refl _
  refine own_leave X7 hlk (v := some (.ref sb)) (fun h => by rw [Bd.returns] at h; cases h) hret (by decide) (by decide) ?_
  show Q_aapp Z sb va kv qa vsb a1 ta ka na vsa csP cs1 h0 n0 _ T7.heap _
  rw [e7]
  exact ⟨vs_5, rfl, N7, K7, F7_9, F7_10, F7_11, Fw7, F7_16, pq5_0⟩
theorem ef_sapp (m : MethodId) (x0 : Addr) (x1 : Addr) : entryFrame m #[(.ref x0), (.ref x1)] 2 = mkF m 0 #[vR x0, vR x1] [] := by
  first | (simp [entryFrame, mkF, argsToLocals, Value.category]; done) | rfl
def Q_sapp (Z : State) (sb : Addr) (va : Addr) (kv : ClassId) (qa : Int32) (vsb : List Value) (a1 : Addr) (ta : Addr) (ka : ClassId) (na : Int32) (vsa : List Value) (csP : List Int32) (cs1 : List Int32) (h0 : Heap) (n0 : Nat) (v : Option Value) (h : Heap) (L : List Loc) : Prop := ∃ (vs : List Value), v = some (.ref sb) ∧ Fr n0 L ∧ Keep h0 h ([sb, va] : List Addr) ∧ Exa Z h sb "java/lang/StringBuilder" ∧ Fld Z h sb "java/lang/AbstractStringBuilder" "value" "[B" (.ref va) ∧ Fld Z h sb "java/lang/AbstractStringBuilder" "coder" "B" (.int 0) ∧ Fld Z h sb "java/lang/AbstractStringBuilder" "count" "I" (.int (qa + na)) ∧ Arv Z h va kv .byte (16 : Int32) vs (.int 0) ∧ (OwnB (csP ++ cs1) (qa + na) vs)
theorem d15_0 : decode jdk_67_method_7_code 0 = .ok (.aload_n 0, 1) := by decide +kernel
theorem d15_1 : decode jdk_67_method_7_code 1 = .ok (.aload_n 1, 1) := by decide +kernel
theorem d15_2 : decode jdk_67_method_7_code 2 = .ok (.invokespecial 29, 3) := by decide +kernel
theorem pd_91491886 : parseMethodDescriptor "(Ljava/lang/String;)Ljava/lang/AbstractStringBuilder;" = some ⟨[(.object "java/lang/String")], some (.object "java/lang/AbstractStringBuilder")⟩ := by decide +kernel
theorem d15_5 : decode jdk_67_method_7_code 5 = .ok (.pop, 1) := by decide +kernel
theorem d15_6 : decode jdk_67_method_7_code 6 = .ok (.aload_n 0, 1) := by decide +kernel
theorem d15_7 : decode jdk_67_method_7_code 7 = .ok (.areturn, 1) := by decide +kernel
set_option maxRecDepth 65536 in
set_option maxHeartbeats 40000000 in
theorem rm_sapp (l : Launch) (Z : State) (a0 : Array Value) (hw : ∀ d ∈ tables_1, d.before a0 Z = true) (ws : List Jvm.Cond) (wG1 : Int32) (wG3 : Value) (cx : OwnCx Z a0 wG1 wG3) (hEL : EW Z a0 consts_1) (h0 : Heap) (n0 : Nat) (X00 : Old Z n0 h0) (sb : Addr) (va : Addr) (kv : ClassId) (qa : Int32) (vsb : List Value) (a1 : Addr) (ta : Addr) (ka : ClassId) (na : Int32) (vsa : List Value) (csP : List Int32) (cs1 : List Int32) (f0 : Exa Z h0 sb "java/lang/StringBuilder") (f1 : Fld Z h0 sb "java/lang/AbstractStringBuilder" "value" "[B" (.ref va)) (f2 : Fld Z h0 sb "java/lang/AbstractStringBuilder" "coder" "B" (.int 0)) (f3 : Fld Z h0 sb "java/lang/AbstractStringBuilder" "count" "I" (.int qa)) (f4 : Arv Z h0 va kv .byte (16 : Int32) vsb (.int 0)) (f5 : Exa Z h0 a1 "java/lang/String") (f6 : Fld Z h0 a1 "java/lang/String" "value" "[B" (.ref ta)) (f7 : Fld Z h0 a1 "java/lang/String" "coder" "B" (.int 0)) (f8 : Arv Z h0 ta ka .byte na vsa (.int 0)) (f9 : n0 ≤ sb) (f10 : n0 ≤ va) (f11 : ta ≠ va) (hB : OwnB csP qa vsb) (hos : OwnStr cs1 (0 : Int32) na vsa) (hcap : csP.length + cs1.length ≤ 15) :
    MetFree l mN15 (head1 (Jvm.Cond.code mN15 jdk_67_method_7_code 2 (some (.object "java/lang/StringBuilder")) :: ws) (oR 4 0 0 61)) (fun a U => a = #[(.ref sb), (.ref a1)] ∧ Z.Warmed39 U.vm ∧ U.heap = h0) (fun _ _ _ _ _ => True) (fun _ U o U' => ∃ v L, o = .returned v ∧ Q_sapp Z sb va kv qa vsb a1 ta ka na vsa csP cs1 h0 n0 v U'.heap L ∧ FrameEnd U o U' L (oR 4 0 0 61).cells (oR 4 0 0 61).slots) := by
  refine MetFree.of_bodySF (plainFor_of_name pn_27209738) hisR ?_
  intro p e s m args below meth c s₁ Bd hml0 hP hK
  obtain ⟨rfl, hZ, hh⟩ := hP
  obtain ⟨wO2, wP5, wO4, wrG3, hstr⟩ := id cx
  have hx := Bd.exec
  have hby := Bd.bytes
  have hlk := Bd.notSynchronized
  have hml : c.maxLocals = 2 := hml0
  have hown : s.vm.findClass "java/lang/StringBuilder" = some m.cls := findClass_of_methodNamed Bd.named
  have hnm := (name_of_methodNamed Bd.named Bd.method).1
  have X0 : Stand p l e (oR 4 0 0 61) s m #[(.ref sb), (.ref a1)] below meth c s₁ [] 0 0 := Stand.of_body Bd
  have e0 : s₁.heap = h0 := by rw [← hh, Bd.state]; rfl
  have N0 := Fr.nil n0
  have Z0 : n0 ≤ h0.size := X00.1 ▸ X00.2.1
  have K0 : Keep h0 h0 ([sb, va] : List Addr) := Keep.refl _ _
  show OwnGoes p e below _ s₁ (entryFrame m _ _)
  refine og s₁ m 0 #[vR sb, vR a1] [] (fun tgt kgo => castTop (ef_sapp m sb a1) kgo) ?_
  refine og s₁ m 2 #[vR sb, vR a1] [(.ref a1), (.ref sb)] (fun tgt kgo => ?_) ?_
  · refine XS.aloadN X0.here hx rfl (hb hby d15_0) rfl rfl ?_
    show OwnG p e below s₁ m 1 #[vR sb, vR a1] [(.ref sb)] tgt
    refine XS.aloadN X0.here hx rfl (hb hby d15_1) rfl rfl ?_
    exact kgo
  obtain ⟨_, _, ⟨T1, L1, k1, n1⟩, -, X1, ⟨Lc1, hQ1, l1, y1, z1⟩, st1⟩ := superBack X0 hx hZ (y := mN14) hown (own_w hw 97 rfl) (own_same (y := mN14) (own_w hw 100 rfl) (own_w hw 117 rfl) rfl ⟨by decide, by decide⟩) (own_w hw 98 rfl) (own_w hw 99 rfl) (by decide) (backOf (W := 0) (rm_aapp l Z a0 hw [] wG1 wG3 cx hEL h0 n0 X00 sb va kv qa vsb a1 ta ka na vsa csP cs1 f0 f1 f2 f3 f4 f5 f6 f7 f8 f9 f10 f11 hB hos hcap) hZ (own_w hw 101 rfl) (own_w hw 84 rfl) (by decide) (by decide)) e0 (Ins.self f0) (g := (mkF m 2 #[vR sb, vR a1] [(.ref a1), (.ref sb)])) rfl (by rw [hml]; rfl) (own_w hw 101 rfl) (argsL := [(.ref a1)]) (rest := []) (lenOf pd_91491886 rfl) rfl (Nat.le_of_eq rfl) (hb hby d15_2) (fun _ _ => ⟨rfl, e0, (by decide : 0 + 0 ≤ _), (by decide : 0 + 0 ≤ _)⟩)
  dsimp only [Pt.U, Pt.locs, Pt.cells, Pt.slots] at X1 l1 y1 z1 st1 hQ1
  subst l1 y1 z1
  obtain ⟨vs_1, rfl, Nq1, Kq1, fq1_0, fq1_1, fq1_2, fq1_3, fq1_4, pq1_0⟩ := hQ1
  refine OwnGoes.tr (T' := T1) (g' := (mkF m 5 #[vR sb, vR a1] [(.ref sb)])) st1 ?_
  have N1 := Fr.app N0 Nq1
  have F1_1 := f0.keep Kq1
  have F1_2 := f5.keep Kq1
  have F1_3 := f6.keep Kq1 (ninS (Exa.ne f5 f0 (by decide)) (ninS (Exa.neArv f5 f4 (own_w hw 5 rfl)) nin0))
  have F1_4 := f7.keep Kq1 (ninS (Exa.ne f5 f0 (by decide)) (ninS (Exa.neArv f5 f4 (own_w hw 5 rfl)) nin0))
  have F1_5 := f8.keep Kq1 (ninS (Ne.symm (Exa.neArv f0 f8 (own_w hw 75 rfl))) (ninS f11 nin0))
  have Ol1 := X00.keep Kq1 (allS f9 (allS f10 all0))
  have K1 : Keep h0 T1.heap ([sb, va] : List Addr) := K0.trans Kq1 (allS (Or.inl (List.mem_of_getElem? (i := 0) rfl)) (allS (Or.inl (List.mem_of_getElem? (i := 1) rfl)) all0))
  refine og T1 m 7 #[vR sb, vR a1] [(.ref sb)] (fun tgt kgo => ?_) ?_
  · refine XS.pop X1.here hx rfl (hb hby d15_5) rfl rfl ?_
    show OwnG p e below T1 m 6 #[vR sb, vR a1] [] tgt
    refine XS.aloadN X1.here hx rfl (hb hby d15_6) rfl rfl ?_
    exact kgo
  have hret : ∀ fs, (∀ (f : JFrame) (acts : List Action), f.method = m → f.locked = none → f.entered = [] → (doReturn e (T1.setTop f) acts (some (.ref sb))).1 = T1.setFrames fs) → Steps p.tables e below (T1.setTop (mkF m 7 #[vR sb, vR a1] [(.ref sb)])) (T1.setFrames fs) := by
    intro fs hr
    jvm_step X1.here [X1.here.top, hx, (hb hby d15_7), X1.method', Bd.returns, Value.isRef, FieldType.isReference]
    first | (intro acts; rw [hr _ acts rfl rfl rfl]) | rw [hr _ _ rfl rfl rfl]
    exact Steps.refl _
  refine own_leave X1 hlk (v := some (.ref sb)) (fun h => by rw [Bd.returns] at h; cases h) hret (by decide) (by decide) ?_
  show Q_sapp Z sb va kv qa vsb a1 ta ka na vsa csP cs1 h0 n0 _ T1.heap _
  exact ⟨vs_1, rfl, N1, K1, fq1_0, fq1_1, fq1_2, fq1_3, fq1_4, pq1_0⟩
theorem ef_getV (m : MethodId) (x0 : Addr) : entryFrame m #[(.ref x0)] 1 = mkF m 0 #[vR x0] [] := by
  first | (simp [entryFrame, mkF, argsToLocals, Value.category]; done) | rfl
def Q_getV (Z : State) (sb : Addr) (va : Addr) (kv : ClassId) (qa : Int32) (vsb : List Value) (h0 : Heap) (n0 : Nat) (v : Option Value) (h : Heap) (L : List Loc) : Prop := v = some (.ref va) ∧ Fr n0 L ∧ h = h0
theorem d16_0 : decode jdk_68_method_64_code 0 = .ok (.aload_n 0, 1) := by decide +kernel
theorem d16_1 : decode jdk_68_method_64_code 1 = .ok (.getfield 15, 3) := by decide +kernel
theorem d16_4 : decode jdk_68_method_64_code 4 = .ok (.areturn, 1) := by decide +kernel
set_option maxRecDepth 65536 in
set_option maxHeartbeats 40000000 in
theorem rm_getV (l : Launch) (Z : State) (a0 : Array Value) (hw : ∀ d ∈ tables_1, d.before a0 Z = true) (ws : List Jvm.Cond) (wG1 : Int32) (wG3 : Value) (cx : OwnCx Z a0 wG1 wG3) (hEL : EW Z a0 consts_1) (h0 : Heap) (n0 : Nat) (X00 : Old Z n0 h0) (sb : Addr) (va : Addr) (kv : ClassId) (qa : Int32) (vsb : List Value) (f0 : Exa Z h0 sb "java/lang/StringBuilder") (f1 : Fld Z h0 sb "java/lang/AbstractStringBuilder" "value" "[B" (.ref va)) (f2 : Fld Z h0 sb "java/lang/AbstractStringBuilder" "coder" "B" (.int 0)) (f3 : Fld Z h0 sb "java/lang/AbstractStringBuilder" "count" "I" (.int qa)) (f4 : Arv Z h0 va kv .byte (16 : Int32) vsb (.int 0)) :
    MetFree l mN16 (head1 (Jvm.Cond.code mN16 jdk_68_method_64_code 1 (some (.array .byte)) :: ws) (oR 0 0 0 0)) (fun a U => a = #[(.ref sb)] ∧ Z.Warmed39 U.vm ∧ U.heap = h0) (fun _ _ _ _ _ => True) (fun _ U o U' => ∃ v L, o = .returned v ∧ Q_getV Z sb va kv qa vsb h0 n0 v U'.heap L ∧ FrameEnd U o U' L (oR 0 0 0 0).cells (oR 0 0 0 0).slots) := by
  refine MetFree.of_bodySF (plainFor_of_name pn_24045714) hisR ?_
  intro p e s m args below meth c s₁ Bd hml0 hP hK
  obtain ⟨rfl, hZ, hh⟩ := hP
  obtain ⟨wO2, wP5, wO4, wrG3, hstr⟩ := id cx
  have hx := Bd.exec
  have hby := Bd.bytes
  have hlk := Bd.notSynchronized
  have hml : c.maxLocals = 1 := hml0
  have hown : s.vm.findClass "java/lang/AbstractStringBuilder" = some m.cls := findClass_of_methodNamed Bd.named
  have hnm := (name_of_methodNamed Bd.named Bd.method).1
  have X0 : Stand p l e (oR 0 0 0 0) s m #[(.ref sb)] below meth c s₁ [] 0 0 := Stand.of_body Bd
  have e0 : s₁.heap = h0 := by rw [← hh, Bd.state]; rfl
  have N0 := Fr.nil n0
  have Z0 : n0 ≤ h0.size := X00.1 ▸ X00.2.1
  have K0 : Keep h0 h0 ([] : List Addr) := Keep.refl _ _
  show OwnGoes p e below _ s₁ (entryFrame m _ _)
  refine og s₁ m 0 #[vR sb] [] (fun tgt kgo => castTop (ef_getV m sb) kgo) ?_
  refine og s₁ m 1 #[vR sb] [(.ref sb)] (fun tgt kgo => ?_) ?_
  · refine XS.aloadN X0.here hx rfl (hb hby d16_0) rfl rfl ?_
    exact kgo
  obtain ⟨T1, X1, e1, st1⟩ := getF X0 hx hZ hown (host := "") (Or.inl (own_w hw 88 rfl)) Via.refl e0 f1 (g := (mkF m 1 #[vR sb] [(.ref sb)])) rfl rfl (hb hby d16_1)
  refine og T1 m 4 #[vR sb] [(.ref va)] st1 ?_
  have hret : ∀ fs, (∀ (f : JFrame) (acts : List Action), f.method = m → f.locked = none → f.entered = [] → (doReturn e (T1.setTop f) acts (some (.ref va))).1 = T1.setFrames fs) → Steps p.tables e below (T1.setTop (mkF m 4 #[vR sb] [(.ref va)])) (T1.setFrames fs) := by
    intro fs hr
    jvm_step X1.here [X1.here.top, hx, (hb hby d16_4), X1.method', Bd.returns, Value.isRef, FieldType.isReference]
    first | (intro acts; rw [hr _ acts rfl rfl rfl]) | rw [hr _ _ rfl rfl rfl]
    exact Steps.refl _
  refine own_leave X1 hlk (v := some (.ref va)) (fun h => by rw [Bd.returns] at h; cases h) hret (by decide) (by decide) ?_
  show Q_getV Z sb va kv qa vsb h0 n0 _ T1.heap _
  rw [e1]
  exact ⟨rfl, N0, rfl⟩
theorem ef_aln (m : MethodId) (x0 : Addr) : entryFrame m #[(.ref x0)] 1 = mkF m 0 #[vR x0] [] := by
  first | (simp [entryFrame, mkF, argsToLocals, Value.category]; done) | rfl
def Q_aln (Z : State) (sb : Addr) (va : Addr) (kv : ClassId) (qa : Int32) (vsb : List Value) (h0 : Heap) (n0 : Nat) (v : Option Value) (h : Heap) (L : List Loc) : Prop := v = some (.int qa) ∧ Fr n0 L ∧ h = h0
theorem d17_0 : decode jdk_68_method_6_code 0 = .ok (.aload_n 0, 1) := by decide +kernel
theorem d17_1 : decode jdk_68_method_6_code 1 = .ok (.getfield 79, 3) := by decide +kernel
theorem d17_4 : decode jdk_68_method_6_code 4 = .ok (.ireturn, 1) := by decide +kernel
set_option maxRecDepth 65536 in
set_option maxHeartbeats 40000000 in
theorem rm_aln (l : Launch) (Z : State) (a0 : Array Value) (hw : ∀ d ∈ tables_1, d.before a0 Z = true) (ws : List Jvm.Cond) (wG1 : Int32) (wG3 : Value) (cx : OwnCx Z a0 wG1 wG3) (hEL : EW Z a0 consts_1) (h0 : Heap) (n0 : Nat) (X00 : Old Z n0 h0) (sb : Addr) (va : Addr) (kv : ClassId) (qa : Int32) (vsb : List Value) (f0 : Exa Z h0 sb "java/lang/StringBuilder") (f1 : Fld Z h0 sb "java/lang/AbstractStringBuilder" "value" "[B" (.ref va)) (f2 : Fld Z h0 sb "java/lang/AbstractStringBuilder" "coder" "B" (.int 0)) (f3 : Fld Z h0 sb "java/lang/AbstractStringBuilder" "count" "I" (.int qa)) (f4 : Arv Z h0 va kv .byte (16 : Int32) vsb (.int 0)) :
    MetFree l mN17 (head1 (Jvm.Cond.code mN17 jdk_68_method_6_code 1 (some .int) :: ws) (oR 0 0 0 0)) (fun a U => a = #[(.ref sb)] ∧ Z.Warmed39 U.vm ∧ U.heap = h0) (fun _ _ _ _ _ => True) (fun _ U o U' => ∃ v L, o = .returned v ∧ Q_aln Z sb va kv qa vsb h0 n0 v U'.heap L ∧ FrameEnd U o U' L (oR 0 0 0 0).cells (oR 0 0 0 0).slots) := by
  refine MetFree.of_bodySF (plainFor_of_name pn_24045714) hisR ?_
  intro p e s m args below meth c s₁ Bd hml0 hP hK
  obtain ⟨rfl, hZ, hh⟩ := hP
  obtain ⟨wO2, wP5, wO4, wrG3, hstr⟩ := id cx
  have hx := Bd.exec
  have hby := Bd.bytes
  have hlk := Bd.notSynchronized
  have hml : c.maxLocals = 1 := hml0
  have hown : s.vm.findClass "java/lang/AbstractStringBuilder" = some m.cls := findClass_of_methodNamed Bd.named
  have hnm := (name_of_methodNamed Bd.named Bd.method).1
  have X0 : Stand p l e (oR 0 0 0 0) s m #[(.ref sb)] below meth c s₁ [] 0 0 := Stand.of_body Bd
  have e0 : s₁.heap = h0 := by rw [← hh, Bd.state]; rfl
  have N0 := Fr.nil n0
  have Z0 : n0 ≤ h0.size := X00.1 ▸ X00.2.1
  have K0 : Keep h0 h0 ([] : List Addr) := Keep.refl _ _
  show OwnGoes p e below _ s₁ (entryFrame m _ _)
  refine og s₁ m 0 #[vR sb] [] (fun tgt kgo => castTop (ef_aln m sb) kgo) ?_
  refine og s₁ m 1 #[vR sb] [(.ref sb)] (fun tgt kgo => ?_) ?_
  · refine XS.aloadN X0.here hx rfl (hb hby d17_0) rfl rfl ?_
    exact kgo
  obtain ⟨T1, X1, e1, st1⟩ := getF X0 hx hZ hown (host := "") (Or.inl (own_w hw 112 rfl)) Via.refl e0 f3 (g := (mkF m 1 #[vR sb] [(.ref sb)])) rfl rfl (hb hby d17_1)
  refine og T1 m 4 #[vR sb] [(.int qa)] st1 ?_
  refine own_leave X1 hlk (v := some (.int qa)) (fun h => by rw [Bd.returns] at h; cases h) (fun fs hr => retI X1 hx Bd.returns (hb hby d17_4) hr) (by decide) (by decide) ?_
  show Q_aln Z sb va kv qa vsb h0 n0 _ T1.heap _
  rw [e1]
  exact ⟨rfl, N0, rfl⟩
theorem ef_sln (m : MethodId) (x0 : Addr) : entryFrame m #[(.ref x0)] 1 = mkF m 0 #[vR x0] [] := by
  first | (simp [entryFrame, mkF, argsToLocals, Value.category]; done) | rfl
def Q_sln (Z : State) (sb : Addr) (va : Addr) (kv : ClassId) (qa : Int32) (vsb : List Value) (h0 : Heap) (n0 : Nat) (v : Option Value) (h : Heap) (L : List Loc) : Prop := v = some (.int qa) ∧ Fr n0 L ∧ h = h0
theorem d18_0 : decode jdk_67_method_93_code 0 = .ok (.aload_n 0, 1) := by decide +kernel
theorem d18_1 : decode jdk_67_method_93_code 1 = .ok (.invokespecial 343, 3) := by decide +kernel
theorem d18_4 : decode jdk_67_method_93_code 4 = .ok (.ireturn, 1) := by decide +kernel
set_option maxRecDepth 65536 in
set_option maxHeartbeats 40000000 in
theorem rm_sln (l : Launch) (Z : State) (a0 : Array Value) (hw : ∀ d ∈ tables_1, d.before a0 Z = true) (ws : List Jvm.Cond) (wG1 : Int32) (wG3 : Value) (cx : OwnCx Z a0 wG1 wG3) (hEL : EW Z a0 consts_1) (h0 : Heap) (n0 : Nat) (X00 : Old Z n0 h0) (sb : Addr) (va : Addr) (kv : ClassId) (qa : Int32) (vsb : List Value) (f0 : Exa Z h0 sb "java/lang/StringBuilder") (f1 : Fld Z h0 sb "java/lang/AbstractStringBuilder" "value" "[B" (.ref va)) (f2 : Fld Z h0 sb "java/lang/AbstractStringBuilder" "coder" "B" (.int 0)) (f3 : Fld Z h0 sb "java/lang/AbstractStringBuilder" "count" "I" (.int qa)) (f4 : Arv Z h0 va kv .byte (16 : Int32) vsb (.int 0)) :
    MetFree l mN18 (head1 (Jvm.Cond.code mN18 jdk_67_method_93_code 1 (some .int) :: ws) (oR 1 0 0 12)) (fun a U => a = #[(.ref sb)] ∧ Z.Warmed39 U.vm ∧ U.heap = h0) (fun _ _ _ _ _ => True) (fun _ U o U' => ∃ v L, o = .returned v ∧ Q_sln Z sb va kv qa vsb h0 n0 v U'.heap L ∧ FrameEnd U o U' L (oR 1 0 0 12).cells (oR 1 0 0 12).slots) := by
  refine MetFree.of_bodySF (plainFor_of_name pn_27209738) hisR ?_
  intro p e s m args below meth c s₁ Bd hml0 hP hK
  obtain ⟨rfl, hZ, hh⟩ := hP
  obtain ⟨wO2, wP5, wO4, wrG3, hstr⟩ := id cx
  have hx := Bd.exec
  have hby := Bd.bytes
  have hlk := Bd.notSynchronized
  have hml : c.maxLocals = 1 := hml0
  have hown : s.vm.findClass "java/lang/StringBuilder" = some m.cls := findClass_of_methodNamed Bd.named
  have hnm := (name_of_methodNamed Bd.named Bd.method).1
  have X0 : Stand p l e (oR 1 0 0 12) s m #[(.ref sb)] below meth c s₁ [] 0 0 := Stand.of_body Bd
  have e0 : s₁.heap = h0 := by rw [← hh, Bd.state]; rfl
  have N0 := Fr.nil n0
  have Z0 : n0 ≤ h0.size := X00.1 ▸ X00.2.1
  have K0 : Keep h0 h0 ([] : List Addr) := Keep.refl _ _
  show OwnGoes p e below _ s₁ (entryFrame m _ _)
  refine og s₁ m 0 #[vR sb] [] (fun tgt kgo => castTop (ef_sln m sb) kgo) ?_
  refine og s₁ m 1 #[vR sb] [(.ref sb)] (fun tgt kgo => ?_) ?_
  · refine XS.aloadN X0.here hx rfl (hb hby d18_0) rfl rfl ?_
    exact kgo
  obtain ⟨_, _, ⟨T1, L1, k1, n1⟩, -, X1, ⟨Lc1, hQ1, l1, y1, z1⟩, st1⟩ := superBack X0 hx hZ (y := mN17) hown (own_w hw 164 rfl) (own_same (y := mN17) (own_w hw 159 rfl) (own_w hw 117 rfl) rfl ⟨by decide, by decide⟩) (own_w hw 160 rfl) (own_w hw 99 rfl) (by decide) (backOf (W := 0) (rm_aln l Z a0 hw [] wG1 wG3 cx hEL h0 n0 X00 sb va kv qa vsb f0 f1 f2 f3 f4) hZ (own_w hw 165 rfl) (own_w hw 84 rfl) (by decide) (by decide)) e0 (Ins.self f0) (g := (mkF m 1 #[vR sb] [(.ref sb)])) rfl (by rw [hml]; rfl) (own_w hw 165 rfl) (argsL := []) (rest := []) (lenOf pd_86913941 rfl) rfl (Nat.le_of_eq rfl) (hb hby d18_1) (fun _ _ => ⟨rfl, e0, (by decide : 0 + 0 ≤ _), (by decide : 0 + 0 ≤ _)⟩)
  dsimp only [Pt.U, Pt.locs, Pt.cells, Pt.slots] at X1 l1 y1 z1 st1 hQ1
  subst l1 y1 z1
  obtain ⟨rfl, Nq1, eq1⟩ := hQ1
  refine OwnGoes.tr (T' := T1) (g' := (mkF m 4 #[vR sb] [(.int qa)])) st1 ?_
  have N1 := Fr.app N0 Nq1
  refine own_leave X1 hlk (v := some (.int qa)) (fun h => by rw [Bd.returns] at h; cases h) (fun fs hr => retI X1 hx Bd.returns (hb hby d18_4) hr) (by decide) (by decide) ?_
  show Q_sln Z sb va kv qa vsb h0 n0 _ T1.heap _
  rw [eq1]
  exact ⟨rfl, N1, rfl⟩
theorem ef_ail1 (m : MethodId) (x0 : Addr) : entryFrame m #[(.ref x0)] 1 = mkF m 0 #[vR x0] [] := by
  first | (simp [entryFrame, mkF, argsToLocals, Value.category]; done) | rfl
def Q_ail1 (Z : State) (sb : Addr) (va : Addr) (kv : ClassId) (qa : Int32) (vsb : List Value) (h0 : Heap) (n0 : Nat) (v : Option Value) (h : Heap) (L : List Loc) : Prop := v = some (.int 1) ∧ Fr n0 L ∧ h = h0
theorem d19_0 : decode jdk_68_method_68_code 0 = .ok (.getstatic 18, 3) := by decide +kernel
theorem d19_3 : decode jdk_68_method_68_code 3 = .ok (.ifCond .eq 14, 3) := by decide +kernel
theorem d19_6 : decode jdk_68_method_68_code 6 = .ok (.aload_n 0, 1) := by decide +kernel
theorem d19_7 : decode jdk_68_method_68_code 7 = .ok (.getfield 22, 3) := by decide +kernel
theorem d19_10 : decode jdk_68_method_68_code 10 = .ok (.ifCond .ne 7, 3) := by decide +kernel
theorem d19_13 : decode jdk_68_method_68_code 13 = .ok (.iconst 1, 1) := by decide +kernel
theorem d19_14 : decode jdk_68_method_68_code 14 = .ok (.goto 4, 3) := by decide +kernel
theorem d19_18 : decode jdk_68_method_68_code 18 = .ok (.ireturn, 1) := by decide +kernel
set_option maxRecDepth 65536 in
set_option maxHeartbeats 40000000 in
theorem rm_ail1 (l : Launch) (Z : State) (a0 : Array Value) (hw : ∀ d ∈ tables_1, d.before a0 Z = true) (ws : List Jvm.Cond) (wG1 : Int32) (wG3 : Value) (cx : OwnCx Z a0 wG1 wG3) (hEL : EW Z a0 consts_1) (h0 : Heap) (n0 : Nat) (X00 : Old Z n0 h0) (sb : Addr) (va : Addr) (kv : ClassId) (qa : Int32) (vsb : List Value) (f0 : Exa Z h0 sb "java/lang/StringBuilder") (f1 : Fld Z h0 sb "java/lang/AbstractStringBuilder" "value" "[B" (.ref va)) (f2 : Fld Z h0 sb "java/lang/AbstractStringBuilder" "coder" "B" (.int 0)) (f3 : Fld Z h0 sb "java/lang/AbstractStringBuilder" "count" "I" (.int qa)) (f4 : Arv Z h0 va kv .byte (16 : Int32) vsb (.int 0)) :
    MetFree l mN19 (head1 (Jvm.Cond.code mN19 jdk_68_method_68_code 1 (some .boolean) :: ws) (oR 0 0 0 0)) (fun a U => a = #[(.ref sb)] ∧ Z.Warmed39 U.vm ∧ U.heap = h0) (fun _ _ _ _ _ => True) (fun _ U o U' => ∃ v L, o = .returned v ∧ Q_ail1 Z sb va kv qa vsb h0 n0 v U'.heap L ∧ FrameEnd U o U' L (oR 0 0 0 0).cells (oR 0 0 0 0).slots) := by
  refine MetFree.of_bodySF (plainFor_of_name pn_24045714) hisR ?_
  intro p e s m args below meth c s₁ Bd hml0 hP hK
  obtain ⟨rfl, hZ, hh⟩ := hP
  obtain ⟨wO2, wP5, wO4, wrG3, hstr⟩ := id cx
  have hx := Bd.exec
  have hby := Bd.bytes
  have hlk := Bd.notSynchronized
  have hml : c.maxLocals = 1 := hml0
  have hown : s.vm.findClass "java/lang/AbstractStringBuilder" = some m.cls := findClass_of_methodNamed Bd.named
  have hnm := (name_of_methodNamed Bd.named Bd.method).1
  have X0 : Stand p l e (oR 0 0 0 0) s m #[(.ref sb)] below meth c s₁ [] 0 0 := Stand.of_body Bd
  have e0 : s₁.heap = h0 := by rw [← hh, Bd.state]; rfl
  have N0 := Fr.nil n0
  have Z0 : n0 ≤ h0.size := X00.1 ▸ X00.2.1
  have K0 : Keep h0 h0 ([] : List Addr) := Keep.refl _ _
  show OwnGoes p e below _ s₁ (entryFrame m _ _)
  refine og s₁ m 0 #[vR sb] [] (fun tgt kgo => castTop (ef_ail1 m sb) kgo) ?_
  obtain ⟨T1, X1, e1, st1⟩ := getS2 X0 hx hZ hown (host := "") (Or.inl (own_w hw 87 rfl)) Via.refl e0 (wO2.ext X00.2) (g := (mkF m 0 #[vR sb] [])) rfl (hb hby d19_0)
  refine og T1 m 3 #[vR sb] [(.int wG1)] st1 ?_
  refine og T1 m 7 #[vR sb] [(.ref sb)] (fun tgt kgo => ?_) ?_
  · refine XS.ifNo X1.here hx rfl (hb hby d19_3) rfl ((if0 _ _).trans (feq wP5).1) ?_
    show OwnG p e below T1 m 6 #[vR sb] [] tgt
    refine XS.aloadN X1.here hx rfl (hb hby d19_6) rfl rfl ?_
    exact kgo
  obtain ⟨T2, X2, e2, st2⟩ := getF X1 hx hZ hown (host := "") (Or.inl (own_w hw 90 rfl)) Via.refl e1 f2 (g := (mkF m 7 #[vR sb] [(.ref sb)])) rfl rfl (hb hby d19_7)
  refine og T2 m 10 #[vR sb] [(.int 0)] st2 ?_
  refine og T2 m 18 #[vR sb] [(.int 1)] (fun tgt kgo => ?_) ?_
  · refine XS.ifNo X2.here hx rfl (hb hby d19_10) rfl ((if0 _ _).trans (teq (by decide : (0 : Int32) = (0 : Int32))).2) ?_
    show OwnG p e below T2 m 13 #[vR sb] [] tgt
    refine XS.iconst X2.here hx rfl (hb hby d19_13) ?_
    show OwnG p e below T2 m 14 #[vR sb] [(.int 1)] tgt
    refine XS.goto X2.here hx rfl (pc0 := 14) (pc' := 18) rfl (hb hby d19_14) (by decide) (by decide) ?_
    exact kgo
  refine own_leave X2 hlk (v := some (.int 1)) (fun h => by rw [Bd.returns] at h; cases h) (fun fs hr => retN X2 hx (t := .boolean) Bd.returns (by simp) (hb hby d19_18) (by rw [(by decide : nar .boolean (1 : Int32) = (1 : Int32))]; exact hr)) (by decide) (by decide) ?_
  show Q_ail1 Z sb va kv qa vsb h0 n0 _ T2.heap _
  rw [e2]
  exact ⟨rfl, N0, rfl⟩
theorem ef_ckl (m : MethodId) (x1 : Int32) : entryFrame m #[(.int 0), (.int x1)] 2 = mkF m 0 #[vI 0, vI x1] [] := by
  first | (simp [entryFrame, mkF, argsToLocals, Value.category]; done) | rfl
def Q_ckl (Z : State) (qa : Int32) (h0 : Heap) (n0 : Nat) (v : Option Value) (h : Heap) (L : List Loc) : Prop := v = none ∧ Fr n0 L ∧ h = h0
theorem pn_78818854 : plainName "java/util/Arrays" = true := by first | (simp [plainName, overriddenIn]; done) | decide +kernel
theorem d20_0 : decode jdk_65_method_131_code 0 = .ok (.iload_n 1, 1) := by decide +kernel
theorem d20_1 : decode jdk_65_method_131_code 1 = .ok (.iload_n 0, 1) := by decide +kernel
theorem d20_2 : decode jdk_65_method_131_code 2 = .ok (.if_icmp .ge 35, 3) := by decide +kernel
theorem d20_37 : decode jdk_65_method_131_code 37 = .ok (.return_, 1) := by decide +kernel
set_option maxRecDepth 65536 in
set_option maxHeartbeats 40000000 in
theorem rm_ckl (l : Launch) (Z : State) (a0 : Array Value) (hw : ∀ d ∈ tables_1, d.before a0 Z = true) (ws : List Jvm.Cond) (wG1 : Int32) (wG3 : Value) (cx : OwnCx Z a0 wG1 wG3) (hEL : EW Z a0 consts_1) (h0 : Heap) (n0 : Nat) (X00 : Old Z n0 h0) (qa : Int32) (hq : ¬ (qa < (0 : Int32))) :
    MetFree l mN20 (head1 (Jvm.Cond.code mN20 jdk_65_method_131_code 2 none :: ws) (oR 0 0 0 0)) (fun a U => a = #[(.int 0), (.int qa)] ∧ Z.Warmed39 U.vm ∧ U.heap = h0) (fun _ _ _ _ _ => True) (fun _ U o U' => ∃ v L, o = .returned v ∧ Q_ckl Z qa h0 n0 v U'.heap L ∧ FrameEnd U o U' L (oR 0 0 0 0).cells (oR 0 0 0 0).slots) := by
  refine MetFree.of_bodySF (plainFor_of_name pn_78818854) hisR ?_
  intro p e s m args below meth c s₁ Bd hml0 hP hK
  obtain ⟨rfl, hZ, hh⟩ := hP
  obtain ⟨wO2, wP5, wO4, wrG3, hstr⟩ := id cx
  have hx := Bd.exec
  have hby := Bd.bytes
  have hlk := Bd.notSynchronized
  have hml : c.maxLocals = 2 := hml0
  have hown : s.vm.findClass "java/util/Arrays" = some m.cls := findClass_of_methodNamed Bd.named
  have hnm := (name_of_methodNamed Bd.named Bd.method).1
  have X0 : Stand p l e (oR 0 0 0 0) s m #[(.int 0), (.int qa)] below meth c s₁ [] 0 0 := Stand.of_body Bd
  have e0 : s₁.heap = h0 := by rw [← hh, Bd.state]; rfl
  have N0 := Fr.nil n0
  have Z0 : n0 ≤ h0.size := X00.1 ▸ X00.2.1
  have K0 : Keep h0 h0 ([] : List Addr) := Keep.refl _ _
  show OwnGoes p e below _ s₁ (entryFrame m _ _)
  refine og s₁ m 0 #[vI 0, vI qa] [] (fun tgt kgo => castTop (ef_ckl m qa) kgo) ?_
  refine og s₁ m 37 #[vI 0, vI qa] [] (fun tgt kgo => ?_) ?_
  · refine XS.iloadN X0.here hx rfl (hb hby d20_0) rfl ?_
    show OwnG p e below s₁ m 1 #[vI 0, vI qa] [(.int qa)] tgt
    refine XS.iloadN X0.here hx rfl (hb hby d20_1) rfl ?_
    show OwnG p e below s₁ m 2 #[vI 0, vI qa] [(.int 0), (.int qa)] tgt
    refine XS.icmpYes X0.here hx rfl (pc0 := 2) (pc' := 37) rfl (hb hby d20_2) rfl (flt hq).2.1 (by decide) (by decide) ?_
    exact kgo
  refine own_leave X0 hlk (v := none) (fun _ => rfl) (fun fs hr => X0.returnOut hx Bd.returns (hb hby d20_37) hr) (by decide) (by decide) ?_
  show Q_ckl Z qa h0 n0 _ s₁.heap _
  rw [e0]
  exact ⟨rfl, N0, rfl⟩
theorem ef_min (m : MethodId) (x1 : Int32) : entryFrame m #[(.int 16), (.int x1)] 2 = mkF m 0 #[vI 16, vI x1] [] := by
  first | (simp [entryFrame, mkF, argsToLocals, Value.category]; done) | rfl
def Q_min (Z : State) (qa : Int32) (h0 : Heap) (n0 : Nat) (v : Option Value) (h : Heap) (L : List Loc) : Prop := v = some (.int qa) ∧ Fr n0 L ∧ h = h0
theorem d21_0 : decode jdk_29_method_69_code 0 = .ok (.iload_n 0, 1) := by decide +kernel
theorem d21_1 : decode jdk_29_method_69_code 1 = .ok (.iload_n 1, 1) := by decide +kernel
theorem d21_2 : decode jdk_29_method_69_code 2 = .ok (.if_icmp .gt 7, 3) := by decide +kernel
theorem d21_9 : decode jdk_29_method_69_code 9 = .ok (.iload_n 1, 1) := by decide +kernel
theorem d21_10 : decode jdk_29_method_69_code 10 = .ok (.ireturn, 1) := by decide +kernel
set_option maxRecDepth 65536 in
set_option maxHeartbeats 40000000 in
theorem rm_min (l : Launch) (Z : State) (a0 : Array Value) (hw : ∀ d ∈ tables_1, d.before a0 Z = true) (ws : List Jvm.Cond) (wG1 : Int32) (wG3 : Value) (cx : OwnCx Z a0 wG1 wG3) (hEL : EW Z a0 consts_1) (h0 : Heap) (n0 : Nat) (X00 : Old Z n0 h0) (qa : Int32) (hq : qa < (16 : Int32)) :
    MetFree l mN21 (head1 (Jvm.Cond.code mN21 jdk_29_method_69_code 2 (some .int) :: ws) (oR 0 0 0 0)) (fun a U => a = #[(.int 16), (.int qa)] ∧ Z.Warmed39 U.vm ∧ U.heap = h0) (fun _ _ _ _ _ => True) (fun _ U o U' => ∃ v L, o = .returned v ∧ Q_min Z qa h0 n0 v U'.heap L ∧ FrameEnd U o U' L (oR 0 0 0 0).cells (oR 0 0 0 0).slots) := by
  refine MetFree.of_bodySF (Jvm.Free.JP.mathPlain rfl (by decide +kernel)) hisR ?_
  intro p e s m args below meth c s₁ Bd hml0 hP hK
  obtain ⟨rfl, hZ, hh⟩ := hP
  obtain ⟨wO2, wP5, wO4, wrG3, hstr⟩ := id cx
  have hx := Bd.exec
  have hby := Bd.bytes
  have hlk := Bd.notSynchronized
  have hml : c.maxLocals = 2 := hml0
  have hown : s.vm.findClass "java/lang/Math" = some m.cls := findClass_of_methodNamed Bd.named
  have hnm := (name_of_methodNamed Bd.named Bd.method).1
  have X0 : Stand p l e (oR 0 0 0 0) s m #[(.int 16), (.int qa)] below meth c s₁ [] 0 0 := Stand.of_body Bd
  have e0 : s₁.heap = h0 := by rw [← hh, Bd.state]; rfl
  have N0 := Fr.nil n0
  have Z0 : n0 ≤ h0.size := X00.1 ▸ X00.2.1
  have K0 : Keep h0 h0 ([] : List Addr) := Keep.refl _ _
  show OwnGoes p e below _ s₁ (entryFrame m _ _)
  refine og s₁ m 0 #[vI 16, vI qa] [] (fun tgt kgo => castTop (ef_min m qa) kgo) ?_
  refine og s₁ m 10 #[vI 16, vI qa] [(.int qa)] (fun tgt kgo => ?_) ?_
  · refine XS.iloadN X0.here hx rfl (hb hby d21_0) rfl ?_
    show OwnG p e below s₁ m 1 #[vI 16, vI qa] [(.int 16)] tgt
    refine XS.iloadN X0.here hx rfl (hb hby d21_1) rfl ?_
    show OwnG p e below s₁ m 2 #[vI 16, vI qa] [(.int qa), (.int 16)] tgt
    refine XS.icmpYes X0.here hx rfl (pc0 := 2) (pc' := 9) rfl (hb hby d21_2) rfl (tlt hq).2.2.1 (by decide) (by decide) ?_
    show OwnG p e below s₁ m 9 #[vI 16, vI qa] [] tgt
    refine XS.iloadN X0.here hx rfl (hb hby d21_9) rfl ?_
    exact kgo
  refine own_leave X0 hlk (v := some (.int qa)) (fun h => by rw [Bd.returns] at h; cases h) (fun fs hr => retI X0 hx Bd.returns (hb hby d21_10) hr) (by decide) (by decide) ?_
  show Q_min Z qa h0 n0 _ s₁.heap _
  rw [e0]
  exact ⟨rfl, N0, rfl⟩
theorem ef_crb (m : MethodId) (x0 : Addr) (x2 : Int32) : entryFrame m #[(.ref x0), (.int 0), (.int x2)] 5 = mkF m 0 #[vR x0, vI 0, vI x2, vU, vU] [] := by
  first | (simp [entryFrame, mkF, argsToLocals, Value.category]; done) | rfl
def Q_crb (Z : State) (va : Addr) (kv : ClassId) (qa : Int32) (vsb : List Value) (csP : List Int32) (h0 : Heap) (n0 : Nat) (v : Option Value) (h : Heap) (L : List Loc) : Prop := ∃ (t : Addr), ∃ (k : ClassId), v = some (.ref t) ∧ Fr n0 L ∧ Keep h0 h ([] : List Addr) ∧ h0.size ≤ t ∧ Arv Z h t k .byte qa (vsb.take csP.length) (.int 0)
theorem d22_0 : decode jdk_65_method_133_code 0 = .ok (.iload_n 1, 1) := by decide +kernel
theorem d22_1 : decode jdk_65_method_133_code 1 = .ok (.iload_n 2, 1) := by decide +kernel
theorem d22_2 : decode jdk_65_method_133_code 2 = .ok (.invokestatic 343, 3) := by decide +kernel
theorem pd_53897226 : parseMethodDescriptor "(II)V" = some ⟨[.int, .int], none⟩ := by decide +kernel
theorem d22_5 : decode jdk_65_method_133_code 5 = .ok (.iload_n 2, 1) := by decide +kernel
theorem d22_6 : decode jdk_65_method_133_code 6 = .ok (.iload_n 1, 1) := by decide +kernel
theorem d22_7 : decode jdk_65_method_133_code 7 = .ok (.isub, 1) := by decide +kernel
theorem d22_8 : decode jdk_65_method_133_code 8 = .ok (.istore_n 3, 1) := by decide +kernel
theorem d22_9 : decode jdk_65_method_133_code 9 = .ok (.iload_n 3, 1) := by decide +kernel
theorem d22_10 : decode jdk_65_method_133_code 10 = .ok (.newarray .byte, 2) := by decide +kernel
theorem d22_12 : decode jdk_65_method_133_code 12 = .ok (.astore 4, 2) := by decide +kernel
theorem d22_14 : decode jdk_65_method_133_code 14 = .ok (.aload_n 0, 1) := by decide +kernel
theorem d22_15 : decode jdk_65_method_133_code 15 = .ok (.iload_n 1, 1) := by decide +kernel
theorem d22_16 : decode jdk_65_method_133_code 16 = .ok (.aload 4, 2) := by decide +kernel
theorem d22_18 : decode jdk_65_method_133_code 18 = .ok (.iconst 0, 1) := by decide +kernel
theorem d22_19 : decode jdk_65_method_133_code 19 = .ok (.aload_n 0, 1) := by decide +kernel
theorem d22_20 : decode jdk_65_method_133_code 20 = .ok (.arraylength, 1) := by decide +kernel
theorem d22_21 : decode jdk_65_method_133_code 21 = .ok (.iload_n 1, 1) := by decide +kernel
theorem d22_22 : decode jdk_65_method_133_code 22 = .ok (.isub, 1) := by decide +kernel
theorem d22_23 : decode jdk_65_method_133_code 23 = .ok (.iload_n 3, 1) := by decide +kernel
theorem d22_24 : decode jdk_65_method_133_code 24 = .ok (.invokestatic 304, 3) := by decide +kernel
theorem pd_50523903 : parseMethodDescriptor "(II)I" = some ⟨[.int, .int], some .int⟩ := by decide +kernel
theorem d22_27 : decode jdk_65_method_133_code 27 = .ok (.invokestatic 150, 3) := by decide +kernel
theorem d22_30 : decode jdk_65_method_133_code 30 = .ok (.aload 4, 2) := by decide +kernel
theorem d22_32 : decode jdk_65_method_133_code 32 = .ok (.areturn, 1) := by decide +kernel
set_option maxRecDepth 65536 in
set_option maxHeartbeats 40000000 in
theorem rm_crb (l : Launch) (Z : State) (a0 : Array Value) (hw : ∀ d ∈ tables_1, d.before a0 Z = true) (ws : List Jvm.Cond) (wG1 : Int32) (wG3 : Value) (cx : OwnCx Z a0 wG1 wG3) (hEL : EW Z a0 consts_1) (h0 : Heap) (n0 : Nat) (X00 : Old Z n0 h0) (va : Addr) (kv : ClassId) (qa : Int32) (vsb : List Value) (csP : List Int32) (f0 : Arv Z h0 va kv .byte (16 : Int32) vsb (.int 0)) (hB : OwnB csP qa vsb) :
    MetFree l mN22 (head1 (Jvm.Cond.code mN22 jdk_65_method_133_code 5 (some (.array .byte)) :: ws) (oR 1 1 16 18)) (fun a U => a = #[(.ref va), (.int 0), (.int qa)] ∧ Z.Warmed39 U.vm ∧ U.heap = h0) (fun _ _ _ _ _ => True) (fun _ U o U' => ∃ v L, o = .returned v ∧ Q_crb Z va kv qa vsb csP h0 n0 v U'.heap L ∧ FrameEnd U o U' L (oR 1 1 16 18).cells (oR 1 1 16 18).slots) := by
  refine MetFree.of_bodySF (plainFor_of_name pn_78818854) hisR ?_
  intro p e s m args below meth c s₁ Bd hml0 hP hK
  obtain ⟨rfl, hZ, hh⟩ := hP
  obtain ⟨wO2, wP5, wO4, wrG3, hstr⟩ := id cx
  have hx := Bd.exec
  have hby := Bd.bytes
  have hlk := Bd.notSynchronized
  have hml : c.maxLocals = 5 := hml0
  have hown : s.vm.findClass "java/util/Arrays" = some m.cls := findClass_of_methodNamed Bd.named
  have hnm := (name_of_methodNamed Bd.named Bd.method).1
  have X0 : Stand p l e (oR 1 1 16 18) s m #[(.ref va), (.int 0), (.int qa)] below meth c s₁ [] 0 0 := Stand.of_body Bd
  have e0 : s₁.heap = h0 := by rw [← hh, Bd.state]; rfl
  have N0 := Fr.nil n0
  have Z0 : n0 ≤ h0.size := X00.1 ▸ X00.2.1
  have K0 : Keep h0 h0 ([] : List Addr) := Keep.refl _ _
  show OwnGoes p e below _ s₁ (entryFrame m _ _)
  refine og s₁ m 0 #[vR va, vI 0, vI qa, vU, vU] [] (fun tgt kgo => castTop (ef_crb m va qa) kgo) ?_
  refine og s₁ m 2 #[vR va, vI 0, vI qa, vU, vU] [(.int qa), (.int 0)] (fun tgt kgo => ?_) ?_
  · refine XS.iloadN X0.here hx rfl (hb hby d22_0) rfl ?_
    show OwnG p e below s₁ m 1 #[vR va, vI 0, vI qa, vU, vU] [(.int 0)] tgt
    refine XS.iloadN X0.here hx rfl (hb hby d22_1) rfl ?_
    exact kgo
  obtain ⟨_, _, ⟨T1, L1, k1, n1⟩, -, X1, ⟨Lc1, hQ1, l1, y1, z1⟩, st1⟩ := Jvm.LawKit.callS X0 hx (y := mN20) hown (mvT hZ (own_w hw 178 rfl)) (mvT hZ (own_w hw 179 rfl)) (mvT hZ (own_w hw 173 rfl)) (mvT hZ (own_w hw 180 rfl)) (by decide) (backOf (W := 0) (rm_ckl l Z a0 hw [] wG1 wG3 cx hEL h0 n0 X00 qa (own_q hB).1) hZ (own_w hw 180 rfl) (own_w hw 173 rfl) (by decide) (by decide)) (g := (mkF m 2 #[vR va, vI 0, vI qa, vU, vU] [(.int qa), (.int 0)])) rfl (by rw [hml]; rfl) (argsL := [(.int 0), (.int qa)]) (rest := []) (lenOf pd_53897226 rfl) rfl (Nat.le_of_eq rfl) (hb hby d22_2) (fun _ _ => ⟨rfl, e0, (by decide : 0 + 0 ≤ _), (by decide : 0 + 0 ≤ _)⟩)
  dsimp only [Pt.U, Pt.locs, Pt.cells, Pt.slots] at X1 l1 y1 z1 st1 hQ1
  subst l1 y1 z1
  obtain ⟨rfl, Nq1, eq1⟩ := hQ1
  refine og T1 m 5 #[vR va, vI 0, vI qa, vU, vU] [] st1 ?_
  have N1 := Fr.app N0 Nq1
  refine og T1 m 8 #[vR va, vI 0, vI qa, vU, vU] [(.int (qa - (0 : Int32)))] (fun tgt kgo => ?_) ?_
  · refine XS.iloadN X1.here hx rfl (hb hby d22_5) rfl ?_
    show OwnG p e below T1 m 6 #[vR va, vI 0, vI qa, vU, vU] [(.int qa)] tgt
    refine XS.iloadN X1.here hx rfl (hb hby d22_6) rfl ?_
    show OwnG p e below T1 m 7 #[vR va, vI 0, vI qa, vU, vU] [(.int 0), (.int qa)] tgt
    refine XS.isub X1.here hx rfl (hb hby d22_7) rfl ?_
    exact kgo
  refine og T1 m 8 #[vR va, vI 0, vI qa, vU, vU] [(.int qa)] (fun tgt kgo => castTop (by rw [(own_sub0 qa)]) kgo) ?_
  refine og T1 m 10 #[vR va, vI 0, vI qa, vI qa, vU] [(.int qa)] (fun tgt kgo => ?_) ?_
  · refine XS.istoreN X1.here hx rfl (hb hby d22_8) rfl (l' := #[vR va, vI 0, vI qa, vI qa, vU]) rfl ?_
    show OwnG p e below T1 m 9 #[vR va, vI 0, vI qa, vI qa, vU] [] tgt
    refine XS.iloadN X1.here hx rfl (hb hby d22_9) rfl ?_
    exact kgo
  obtain ⟨T2, h2, k2, X2, e2, E2, A2, st2⟩ := newP X1 hx hZ (own_w hw 23 rfl) eq1 (g := (mkF m 10 #[vR va, vI 0, vI qa, vI qa, vU] [(.int qa)])) rfl (hb hby d22_10) rfl (own_q hB).1 (cap := 16) (own_q hB).2.2.2.1 (by decide) (by decide) (by decide)
  obtain ⟨b2, g2⟩ : ∃ z, z = h0.size := ⟨_, rfl⟩
  rw [← g2] at A2 st2
  refine og T2 m 12 #[vR va, vI 0, vI qa, vI qa, vU] [(.ref b2)] st2 ?_
  have V2 : Arv Z h2 b2 k2 .byte qa [] (.int 0) := Arv.new A2 (own_q hB).1
  have ne_va_b2 : va ≠ b2 := Nat.ne_of_lt (Nat.lt_of_lt_of_le f0.lt (Nat.le_of_eq g2.symm))
  have g_b2 : n0 ≤ b2 := Nat.le_trans (Nat.le_trans Z0 K0.1) (Nat.le_of_eq g2.symm)
  have s_b2 : h0.size ≤ b2 := Nat.le_trans K0.1 (Nat.le_of_eq g2.symm)
  have F2_1 := f0.ext E2
  have Ol2 := X00.ext E2
  have K2 : Keep h0 h2 ([] : List Addr) := K0.ext E2
  have Vr3 : Arv Z h2 b2 k2 .byte qa ([] ++ List.replicate csP.length (Value.int (0 : Int32))) (.int 0) := V2.pad (pad_rep [] (Value.int (0 : Int32)) csP.length)
  refine og T2 m 24 #[vR va, vI 0, vI qa, vI qa, vR b2] [(.int qa), (.int 16), (.int 0), (.ref b2), (.int 0), (.ref va)] (fun tgt kgo => ?_) ?_
  · refine XS.astore X2.here hx rfl (hb hby d22_12) rfl rfl (l' := #[vR va, vI 0, vI qa, vI qa, vR b2]) rfl ?_
    show OwnG p e below T2 m 14 #[vR va, vI 0, vI qa, vI qa, vR b2] [] tgt
    refine XS.aloadN X2.here hx rfl (hb hby d22_14) rfl rfl ?_
    show OwnG p e below T2 m 15 #[vR va, vI 0, vI qa, vI qa, vR b2] [(.ref va)] tgt
    refine XS.iloadN X2.here hx rfl (hb hby d22_15) rfl ?_
    show OwnG p e below T2 m 16 #[vR va, vI 0, vI qa, vI qa, vR b2] [(.int 0), (.ref va)] tgt
    refine XS.aload X2.here hx rfl (hb hby d22_16) rfl rfl ?_
    show OwnG p e below T2 m 18 #[vR va, vI 0, vI qa, vI qa, vR b2] [(.ref b2), (.int 0), (.ref va)] tgt
    refine XS.iconst X2.here hx rfl (hb hby d22_18) ?_
    show OwnG p e below T2 m 19 #[vR va, vI 0, vI qa, vI qa, vR b2] [(.int 0), (.ref b2), (.int 0), (.ref va)] tgt
    refine XS.aloadN X2.here hx rfl (hb hby d22_19) rfl rfl ?_
    show OwnG p e below T2 m 20 #[vR va, vI 0, vI qa, vI qa, vR b2] [(.ref va), (.int 0), (.ref b2), (.int 0), (.ref va)] tgt
    obtain ⟨cl4, Ar4, q4, S4, M4, -, -⟩ := F2_1
    refine X2.arraylength hx (by rw [e2]; exact Ar4.1) (State.isArrayOf_alike hZ.alike Ar4.2.1) (g := (mkF m 20 #[vR va, vI 0, vI qa, vI qa, vR b2] [(.ref va), (.int 0), (.ref b2), (.int 0), (.ref va)])) rfl rfl (hb hby d22_20) _ ?_
    rw [len_of S4 M4]
    show OwnG p e below T2 m 21 #[vR va, vI 0, vI qa, vI qa, vR b2] [(.int 16), (.int 0), (.ref b2), (.int 0), (.ref va)] tgt
    refine XS.iloadN X2.here hx rfl (hb hby d22_21) rfl ?_
    show OwnG p e below T2 m 22 #[vR va, vI 0, vI qa, vI qa, vR b2] [(.int 0), (.int 16), (.int 0), (.ref b2), (.int 0), (.ref va)] tgt
    refine XS.isub X2.here hx rfl (hb hby d22_22) rfl ?_
    show OwnG p e below T2 m 23 #[vR va, vI 0, vI qa, vI qa, vR b2] [(.int 16), (.int 0), (.ref b2), (.int 0), (.ref va)] tgt
    refine XS.iloadN X2.here hx rfl (hb hby d22_23) rfl ?_
    exact kgo
  obtain ⟨_, _, ⟨T5, L5, k5, n5⟩, -, X5, ⟨Lc5, hQ5, l5, y5, z5⟩, st5⟩ := Jvm.LawKit.callS X2 hx (y := mN21) hown (mvT hZ (own_w hw 181 rfl)) (mvT hZ (own_w hw 182 rfl)) (mvT hZ (own_w hw 183 rfl)) (mvT hZ (own_w hw 184 rfl)) (by decide) (backOf (W := 4) (rm_min l Z a0 hw [] wG1 wG3 cx hEL h2 n0 Ol2 qa (own_q hB).2.1) hZ (own_w hw 184 rfl) (own_w hw 183 rfl) (by decide) (by decide)) (g := (mkF m 24 #[vR va, vI 0, vI qa, vI qa, vR b2] [(.int qa), (.int 16), (.int 0), (.ref b2), (.int 0), (.ref va)])) rfl (by rw [hml]; rfl) (argsL := [(.int 16), (.int qa)]) (rest := [(.int 0), (.ref b2), (.int 0), (.ref va)]) (lenOf pd_50523903 rfl) rfl (Nat.le_of_eq rfl) (hb hby d22_24) (fun _ _ => ⟨rfl, e2, (by decide : 1 + 0 ≤ _), (by decide : 16 + 0 ≤ _)⟩)
  dsimp only [Pt.U, Pt.locs, Pt.cells, Pt.slots] at X5 l5 y5 z5 st5 hQ5
  subst l5 y5 z5
  obtain ⟨rfl, Nq5, eq5⟩ := hQ5
  refine og T5 m 27 #[vR va, vI 0, vI qa, vI qa, vR b2] [(.int qa), (.int 0), (.ref b2), (.int 0), (.ref va)] st5 ?_
  have N5 := Fr.app N1 Nq5
  obtain ⟨T6, h6, L6, X6, e6, N6, Kq6, V6, st6⟩ := cpA X5 hx hZ hown (own_w hw 185 rfl) (own_w hw 138 rfl) (own_w hw 136 rfl) (own_w hw 137 rfl) eq5 F2_1 Vr3 (us := (vsb.take csP.length)) (Or.inl ⟨rfl, rfl⟩) (by decide) (by decide) (own_q hB).1 (own_cr hB).1 (own_cr hB).2.1 (own_cr hB).2.2.1 (own_cr hB).2.2.2.1 N5 g_b2 (g := (mkF m 27 #[vR va, vI 0, vI qa, vI qa, vR b2] [(.int qa), (.int 0), (.ref b2), (.int 0), (.ref va)])) rfl (by rw [hml]; rfl) (rest := []) rfl (hb hby d22_27) (by decide) (W := 0) (Nat.le_of_eq rfl) (by decide)
  refine og T6 m 30 #[vR va, vI 0, vI qa, vI qa, vR b2] [] st6 ?_
  have F6_2 := F2_1.keep Kq6 (ninS ne_va_b2 nin0)
  have Ol6 := Ol2.keep Kq6 (allS g_b2 all0)
  have K6 : Keep h0 h6 ([] : List Addr) := K2.trans Kq6 (allS (Or.inr s_b2) all0)
  rw [(own_cr hB).2.2.2.2] at V6
  have V6' : Arv Z h6 b2 k2 .byte qa (vsb.take csP.length) (.int 0) := V6
  refine og T6 m 32 #[vR va, vI 0, vI qa, vI qa, vR b2] [(.ref b2)] (fun tgt kgo => ?_) ?_
  · refine XS.aload X6.here hx rfl (hb hby d22_30) rfl rfl ?_
    exact kgo
  have hret : ∀ fs, (∀ (f : JFrame) (acts : List Action), f.method = m → f.locked = none → f.entered = [] → (doReturn e (T6.setTop f) acts (some (.ref b2))).1 = T6.setFrames fs) → Steps p.tables e below (T6.setTop (mkF m 32 #[vR va, vI 0, vI qa, vI qa, vR b2] [(.ref b2)])) (T6.setFrames fs) := by
    intro fs hr
    jvm_step X6.here [X6.here.top, hx, (hb hby d22_32), X6.method', Bd.returns, Value.isRef, FieldType.isReference]
    first | (intro acts; rw [hr _ acts rfl rfl rfl]) | rw [hr _ _ rfl rfl rfl]
    exact Steps.refl _
  refine own_leave X6 hlk (v := some (.ref b2)) (fun h => by rw [Bd.returns] at h; cases h) hret (by decide) (by decide) ?_
  show Q_crb Z va kv qa vsb csP h0 n0 _ T6.heap _
  rw [e6]
  exact ⟨b2, k2, rfl, N6, K6, s_b2, V6'⟩
theorem ef_cr (m : MethodId) (x0 : Addr) (x2 : Int32) : entryFrame m #[(.ref x0), (.int 0), (.int x2)] 3 = mkF m 0 #[vR x0, vI 0, vI x2] [] := by
  first | (simp [entryFrame, mkF, argsToLocals, Value.category]; done) | rfl
def Q_cr (Z : State) (va : Addr) (kv : ClassId) (qa : Int32) (vsb : List Value) (csP : List Int32) (h0 : Heap) (n0 : Nat) (v : Option Value) (h : Heap) (L : List Loc) : Prop := ∃ (t : Addr), ∃ (k : ClassId), v = some (.ref t) ∧ Fr n0 L ∧ Keep h0 h ([] : List Addr) ∧ h0.size ≤ t ∧ Arv Z h t k .byte qa (vsb.take csP.length) (.int 0)
theorem d23_0 : decode jdk_65_method_132_code 0 = .ok (.iload_n 1, 1) := by decide +kernel
theorem d23_1 : decode jdk_65_method_132_code 1 = .ok (.ifCond .ne 9, 3) := by decide +kernel
theorem d23_4 : decode jdk_65_method_132_code 4 = .ok (.iload_n 2, 1) := by decide +kernel
theorem d23_5 : decode jdk_65_method_132_code 5 = .ok (.aload_n 0, 1) := by decide +kernel
theorem d23_6 : decode jdk_65_method_132_code 6 = .ok (.arraylength, 1) := by decide +kernel
theorem d23_7 : decode jdk_65_method_132_code 7 = .ok (.if_icmp .eq 10, 3) := by decide +kernel
theorem d23_10 : decode jdk_65_method_132_code 10 = .ok (.aload_n 0, 1) := by decide +kernel
theorem d23_11 : decode jdk_65_method_132_code 11 = .ok (.iload_n 1, 1) := by decide +kernel
theorem d23_12 : decode jdk_65_method_132_code 12 = .ok (.iload_n 2, 1) := by decide +kernel
theorem d23_13 : decode jdk_65_method_132_code 13 = .ok (.invokestatic 339, 3) := by decide +kernel
theorem pd_62477155 : parseMethodDescriptor "([BII)[B" = some ⟨[(.array .byte), .int, .int], some (.array .byte)⟩ := by decide +kernel
theorem d23_16 : decode jdk_65_method_132_code 16 = .ok (.areturn, 1) := by decide +kernel
set_option maxRecDepth 65536 in
set_option maxHeartbeats 40000000 in
theorem rm_cr (l : Launch) (Z : State) (a0 : Array Value) (hw : ∀ d ∈ tables_1, d.before a0 Z = true) (ws : List Jvm.Cond) (wG1 : Int32) (wG3 : Value) (cx : OwnCx Z a0 wG1 wG3) (hEL : EW Z a0 consts_1) (h0 : Heap) (n0 : Nat) (X00 : Old Z n0 h0) (va : Addr) (kv : ClassId) (qa : Int32) (vsb : List Value) (csP : List Int32) (f0 : Arv Z h0 va kv .byte (16 : Int32) vsb (.int 0)) (hB : OwnB csP qa vsb) :
    MetFree l mN23 (head1 (Jvm.Cond.code mN23 jdk_65_method_132_code 3 (some (.array .byte)) :: ws) (oR 2 1 16 34)) (fun a U => a = #[(.ref va), (.int 0), (.int qa)] ∧ Z.Warmed39 U.vm ∧ U.heap = h0) (fun _ _ _ _ _ => True) (fun _ U o U' => ∃ v L, o = .returned v ∧ Q_cr Z va kv qa vsb csP h0 n0 v U'.heap L ∧ FrameEnd U o U' L (oR 2 1 16 34).cells (oR 2 1 16 34).slots) := by
  refine MetFree.of_bodySF (plainFor_of_name pn_78818854) hisR ?_
  intro p e s m args below meth c s₁ Bd hml0 hP hK
  obtain ⟨rfl, hZ, hh⟩ := hP
  obtain ⟨wO2, wP5, wO4, wrG3, hstr⟩ := id cx
  have hx := Bd.exec
  have hby := Bd.bytes
  have hlk := Bd.notSynchronized
  have hml : c.maxLocals = 3 := hml0
  have hown : s.vm.findClass "java/util/Arrays" = some m.cls := findClass_of_methodNamed Bd.named
  have hnm := (name_of_methodNamed Bd.named Bd.method).1
  have X0 : Stand p l e (oR 2 1 16 34) s m #[(.ref va), (.int 0), (.int qa)] below meth c s₁ [] 0 0 := Stand.of_body Bd
  have e0 : s₁.heap = h0 := by rw [← hh, Bd.state]; rfl
  have N0 := Fr.nil n0
  have Z0 : n0 ≤ h0.size := X00.1 ▸ X00.2.1
  have K0 : Keep h0 h0 ([] : List Addr) := Keep.refl _ _
  show OwnGoes p e below _ s₁ (entryFrame m _ _)
  refine og s₁ m 0 #[vR va, vI 0, vI qa] [] (fun tgt kgo => castTop (ef_cr m va qa) kgo) ?_
  refine og s₁ m 13 #[vR va, vI 0, vI qa] [(.int qa), (.int 0), (.ref va)] (fun tgt kgo => ?_) ?_
  · refine XS.iloadN X0.here hx rfl (hb hby d23_0) rfl ?_
    show OwnG p e below s₁ m 1 #[vR va, vI 0, vI qa] [(.int 0)] tgt
    refine XS.ifNo X0.here hx rfl (hb hby d23_1) rfl ((if0 _ _).trans (teq (by decide : (0 : Int32) = (0 : Int32))).2) ?_
    show OwnG p e below s₁ m 4 #[vR va, vI 0, vI qa] [] tgt
    refine XS.iloadN X0.here hx rfl (hb hby d23_4) rfl ?_
    show OwnG p e below s₁ m 5 #[vR va, vI 0, vI qa] [(.int qa)] tgt
    refine XS.aloadN X0.here hx rfl (hb hby d23_5) rfl rfl ?_
    show OwnG p e below s₁ m 6 #[vR va, vI 0, vI qa] [(.ref va), (.int qa)] tgt
    obtain ⟨cl1, Ar1, q1, S1, M1, -, -⟩ := f0
    refine X0.arraylength hx (by rw [e0]; exact Ar1.1) (State.isArrayOf_alike hZ.alike Ar1.2.1) (g := (mkF m 6 #[vR va, vI 0, vI qa] [(.ref va), (.int qa)])) rfl rfl (hb hby d23_6) _ ?_
    rw [len_of S1 M1]
    show OwnG p e below s₁ m 7 #[vR va, vI 0, vI qa] [(.int 16), (.int qa)] tgt
    refine XS.icmpNo X0.here hx rfl (hb hby d23_7) rfl (feq (own_q hB).2.2.1).1 ?_
    show OwnG p e below s₁ m 10 #[vR va, vI 0, vI qa] [] tgt
    refine XS.aloadN X0.here hx rfl (hb hby d23_10) rfl rfl ?_
    show OwnG p e below s₁ m 11 #[vR va, vI 0, vI qa] [(.ref va)] tgt
    refine XS.iloadN X0.here hx rfl (hb hby d23_11) rfl ?_
    show OwnG p e below s₁ m 12 #[vR va, vI 0, vI qa] [(.int 0), (.ref va)] tgt
    refine XS.iloadN X0.here hx rfl (hb hby d23_12) rfl ?_
    exact kgo
  obtain ⟨_, _, ⟨T2, L2, k2, n2⟩, -, X2, ⟨Lc2, hQ2, l2, y2, z2⟩, st2⟩ := Jvm.LawKit.callS X0 hx (y := mN22) hown (mvT hZ (own_w hw 175 rfl)) (mvT hZ (own_w hw 176 rfl)) (mvT hZ (own_w hw 173 rfl)) (mvT hZ (own_w hw 177 rfl)) (by decide) (backOf (W := 0) (rm_crb l Z a0 hw [] wG1 wG3 cx hEL h0 n0 X00 va kv qa vsb csP f0 hB) hZ (own_w hw 177 rfl) (own_w hw 173 rfl) (by decide) (by decide)) (g := (mkF m 13 #[vR va, vI 0, vI qa] [(.int qa), (.int 0), (.ref va)])) rfl (by rw [hml]; rfl) (argsL := [(.ref va), (.int 0), (.int qa)]) (rest := []) (lenOf pd_62477155 rfl) rfl (Nat.le_of_eq rfl) (hb hby d23_13) (fun _ _ => ⟨rfl, e0, (by decide : 0 + 1 ≤ _), (by decide : 0 + 16 ≤ _)⟩)
  dsimp only [Pt.U, Pt.locs, Pt.cells, Pt.slots] at X2 l2 y2 z2 st2 hQ2
  subst l2 y2 z2
  obtain ⟨t_2, k_2, rfl, Nq2, Kq2, zq2_0, fq2_0⟩ := hQ2
  refine og T2 m 16 #[vR va, vI 0, vI qa] [(.ref t_2)] st2 ?_
  have N2 := Fr.app N0 Nq2
  have ne_va_t_2 : va ≠ t_2 := Nat.ne_of_lt (Nat.lt_of_lt_of_le f0.lt zq2_0)
  have g_t_2 : n0 ≤ t_2 := Nat.le_trans (Nat.le_trans Z0 K0.1) zq2_0
  have s_t_2 : h0.size ≤ t_2 := Nat.le_trans K0.1 zq2_0
  have F2_1 := f0.keep Kq2 nin0
  have Ol2 := X00.keep Kq2 all0
  have K2 : Keep h0 T2.heap ([] : List Addr) := K0.trans Kq2 all0
  have hret : ∀ fs, (∀ (f : JFrame) (acts : List Action), f.method = m → f.locked = none → f.entered = [] → (doReturn e (T2.setTop f) acts (some (.ref t_2))).1 = T2.setFrames fs) → Steps p.tables e below (T2.setTop (mkF m 16 #[vR va, vI 0, vI qa] [(.ref t_2)])) (T2.setFrames fs) := by
    intro fs hr
    jvm_step X2.here [X2.here.top, hx, (hb hby d23_16), X2.method', Bd.returns, Value.isRef, FieldType.isReference]
    first | (intro acts; rw [hr _ acts rfl rfl rfl]) | rw [hr _ _ rfl rfl rfl]
    exact Steps.refl _
  refine own_leave X2 hlk (v := some (.ref t_2)) (fun h => by rw [Bd.returns] at h; cases h) hret (by decide) (by decide) ?_
  show Q_cr Z va kv qa vsb csP h0 n0 _ T2.heap _
  exact ⟨t_2, k_2, rfl, N2, K2, s_t_2, fq2_0⟩
theorem ef_siA (m : MethodId) (x0 : Addr) (x1 : Addr) : entryFrame m #[(.ref x0), (.ref x1), .null] 5 = mkF m 0 #[vR x0, vR x1, .val .null, vU, vU] [] := by
  first | (simp [entryFrame, mkF, argsToLocals, Value.category]; done) | rfl
def Q_siA (Z : State) (a1 : Addr) (sb : Addr) (va : Addr) (kv : ClassId) (qa : Int32) (vsb : List Value) (csP : List Int32) (h0 : Heap) (n0 : Nat) (v : Option Value) (h : Heap) (L : List Loc) : Prop := ∃ (t : Addr), ∃ (k : ClassId), v = none ∧ Fr n0 L ∧ Keep h0 h ([a1] : List Addr) ∧ h0.size ≤ t ∧ Exa Z h a1 "java/lang/String" ∧ Fld Z h a1 "java/lang/String" "value" "[B" (.ref t) ∧ Fld Z h a1 "java/lang/String" "coder" "B" (.int 0) ∧ Arv Z h t k .byte qa (vsb.take csP.length) (.int 0)
theorem d24_0 : decode jdk_42_method_150_code 0 = .ok (.aload_n 0, 1) := by decide +kernel
theorem d24_1 : decode jdk_42_method_150_code 1 = .ok (.invokespecial 1, 3) := by decide +kernel
theorem d24_4 : decode jdk_42_method_150_code 4 = .ok (.aload_n 1, 1) := by decide +kernel
theorem d24_5 : decode jdk_42_method_150_code 5 = .ok (.invokevirtual 552, 3) := by decide +kernel
theorem pd_99157121 : parseMethodDescriptor "()[B" = some ⟨[], some (.array .byte)⟩ := by decide +kernel
theorem d24_8 : decode jdk_42_method_150_code 8 = .ok (.astore_n 3, 1) := by decide +kernel
theorem d24_9 : decode jdk_42_method_150_code 9 = .ok (.aload_n 1, 1) := by decide +kernel
theorem d24_10 : decode jdk_42_method_150_code 10 = .ok (.invokevirtual 549, 3) := by decide +kernel
theorem d24_13 : decode jdk_42_method_150_code 13 = .ok (.istore 4, 2) := by decide +kernel
theorem d24_15 : decode jdk_42_method_150_code 15 = .ok (.aload_n 1, 1) := by decide +kernel
theorem d24_16 : decode jdk_42_method_150_code 16 = .ok (.invokevirtual 1047, 3) := by decide +kernel
theorem pd_15861835 : parseMethodDescriptor "()Z" = some ⟨[], some .boolean⟩ := by decide +kernel
theorem d24_19 : decode jdk_42_method_150_code 19 = .ok (.ifCond .eq 22, 3) := by decide +kernel
theorem d24_22 : decode jdk_42_method_150_code 22 = .ok (.aload_n 0, 1) := by decide +kernel
theorem d24_23 : decode jdk_42_method_150_code 23 = .ok (.iconst 0, 1) := by decide +kernel
theorem d24_24 : decode jdk_42_method_150_code 24 = .ok (.putfield 15, 3) := by decide +kernel
theorem d24_27 : decode jdk_42_method_150_code 27 = .ok (.aload_n 0, 1) := by decide +kernel
theorem d24_28 : decode jdk_42_method_150_code 28 = .ok (.aload_n 3, 1) := by decide +kernel
theorem d24_29 : decode jdk_42_method_150_code 29 = .ok (.iconst 0, 1) := by decide +kernel
theorem d24_30 : decode jdk_42_method_150_code 30 = .ok (.iload 4, 2) := by decide +kernel
theorem d24_32 : decode jdk_42_method_150_code 32 = .ok (.invokestatic 54, 3) := by decide +kernel
theorem d24_35 : decode jdk_42_method_150_code 35 = .ok (.putfield 9, 3) := by decide +kernel
theorem d24_38 : decode jdk_42_method_150_code 38 = .ok (.goto 59, 3) := by decide +kernel
theorem d24_97 : decode jdk_42_method_150_code 97 = .ok (.return_, 1) := by decide +kernel
set_option maxRecDepth 65536 in
set_option maxHeartbeats 40000000 in
theorem rm_siA (l : Launch) (Z : State) (a0 : Array Value) (hw : ∀ d ∈ tables_1, d.before a0 Z = true) (ws : List Jvm.Cond) (wG1 : Int32) (wG3 : Value) (cx : OwnCx Z a0 wG1 wG3) (hEL : EW Z a0 consts_1) (h0 : Heap) (n0 : Nat) (X00 : Old Z n0 h0) (a1 : Addr) (sb : Addr) (va : Addr) (kv : ClassId) (qa : Int32) (vsb : List Value) (csP : List Int32) (f0 : Exa Z h0 a1 "java/lang/String") (f1 : Fld Z h0 a1 "java/lang/String" "value" "[B" .null) (f2 : Fld Z h0 a1 "java/lang/String" "coder" "B" (.int 0)) (f3 : n0 ≤ a1) (f4 : Exa Z h0 sb "java/lang/StringBuilder") (f5 : Fld Z h0 sb "java/lang/AbstractStringBuilder" "value" "[B" (.ref va)) (f6 : Fld Z h0 sb "java/lang/AbstractStringBuilder" "coder" "B" (.int 0)) (f7 : Fld Z h0 sb "java/lang/AbstractStringBuilder" "count" "I" (.int qa)) (f8 : Arv Z h0 va kv .byte (16 : Int32) vsb (.int 0)) (hB : OwnB csP qa vsb) :
    MetFree l mN24 (head1 (Jvm.Cond.code mN24 jdk_42_method_150_code 5 none :: ws) (oR 3 1 16 49)) (fun a U => a = #[(.ref a1), (.ref sb), .null] ∧ Z.Warmed39 U.vm ∧ U.heap = h0) (fun _ _ _ _ _ => True) (fun _ U o U' => ∃ v L, o = .returned v ∧ Q_siA Z a1 sb va kv qa vsb csP h0 n0 v U'.heap L ∧ FrameEnd U o U' L (oR 3 1 16 49).cells (oR 3 1 16 49).slots) := by
  refine MetFree.of_bodySF (plainFor_of_name pn_52039224) hisR ?_
  intro p e s m args below meth c s₁ Bd hml0 hP hK
  obtain ⟨rfl, hZ, hh⟩ := hP
  obtain ⟨wO2, wP5, wO4, wrG3, hstr⟩ := id cx
  have hx := Bd.exec
  have hby := Bd.bytes
  have hlk := Bd.notSynchronized
  have hml : c.maxLocals = 5 := hml0
  have hown : s.vm.findClass "java/lang/String" = some m.cls := findClass_of_methodNamed Bd.named
  have hnm := (name_of_methodNamed Bd.named Bd.method).1
  have X0 : Stand p l e (oR 3 1 16 49) s m #[(.ref a1), (.ref sb), .null] below meth c s₁ [] 0 0 := Stand.of_body Bd
  have e0 : s₁.heap = h0 := by rw [← hh, Bd.state]; rfl
  have N0 := Fr.nil n0
  have Z0 : n0 ≤ h0.size := X00.1 ▸ X00.2.1
  have K0 : Keep h0 h0 ([a1] : List Addr) := Keep.refl _ _
  show OwnGoes p e below _ s₁ (entryFrame m _ _)
  refine og s₁ m 0 #[vR a1, vR sb, .val .null, vU, vU] [] (fun tgt kgo => castTop (ef_siA m a1 sb) kgo) ?_
  refine og s₁ m 1 #[vR a1, vR sb, .val .null, vU, vU] [(.ref a1)] (fun tgt kgo => ?_) ?_
  · refine XS.aloadN X0.here hx rfl (hb hby d24_0) rfl rfl ?_
    exact kgo
  obtain ⟨T1, X1, e1, st1⟩ := initO X0 hx hZ hown (own_w hw 15 rfl) (own_w hw 16 rfl) (own_w hw 17 rfl) e0 (g := (mkF m 1 #[vR a1, vR sb, .val .null, vU, vU] [(.ref a1)])) rfl (by rw [hml]; rfl) rfl (hb hby d24_1) (by decide) (W := 0) (Nat.le_of_eq rfl) (by decide)
  refine og T1 m 4 #[vR a1, vR sb, .val .null, vU, vU] [] st1 ?_
  refine og T1 m 5 #[vR a1, vR sb, .val .null, vU, vU] [(.ref sb)] (fun tgt kgo => ?_) ?_
  · refine XS.aloadN X1.here hx rfl (hb hby d24_4) rfl rfl ?_
    exact kgo
  obtain ⟨cq2, kq2, q2a, q2b, q2c⟩ := isOf (s := s) hZ e1 f4
  obtain ⟨_, _, ⟨T2, L2, k2, n2⟩, -, X2, ⟨Lc2, hQ2, l2, y2, z2⟩, st2⟩ := X1.virtualBack hx (y := mN16) (z := mN16) hown (mvT hZ (own_w hw 153 rfl)) (mvT hZ (own_w hw 154 rfl)) (notFace_of_selects (args := #[]) (mvT hZ (own_w hw 156 rfl))) (mvT hZ (own_w hw 156 rfl)) (mvT hZ (own_w hw 155 rfl)) (by decide) (backOf (W := 0) (rm_getV l Z a0 hw [] wG1 wG3 cx hEL h0 n0 X00 sb va kv qa vsb f4 f5 f6 f7 f8) hZ (own_w hw 157 rfl) (own_w hw 84 rfl) (by decide) (by decide)) q2a q2c (g := (mkF m 5 #[vR a1, vR sb, .val .null, vU, vU] [(.ref sb)])) rfl (by rw [hml]; rfl) (Steps.refl _) (argsL := []) (rest := []) (lenOf pd_99157121 rfl) rfl (Nat.le_of_eq rfl) (hb hby d24_5) (fun _ _ => ⟨rfl, e1, (by decide : 0 + 0 ≤ _), (by decide : 0 + 0 ≤ _)⟩)
  dsimp only [Pt.U, Pt.locs, Pt.cells, Pt.slots] at X2 l2 y2 z2 st2 hQ2
  subst l2 y2 z2
  obtain ⟨rfl, Nq2, eq2⟩ := hQ2
  refine OwnGoes.tr (T' := T2) (g' := (mkF m 8 #[vR a1, vR sb, .val .null, vU, vU] [(.ref va)])) st2 ?_
  have N2 := Fr.app N0 Nq2
  refine og T2 m 10 #[vR a1, vR sb, .val .null, vR va, vU] [(.ref sb)] (fun tgt kgo => ?_) ?_
  · refine XS.astoreN X2.here hx rfl (hb hby d24_8) rfl rfl (l' := #[vR a1, vR sb, .val .null, vR va, vU]) rfl ?_
    show OwnG p e below T2 m 9 #[vR a1, vR sb, .val .null, vR va, vU] [] tgt
    refine XS.aloadN X2.here hx rfl (hb hby d24_9) rfl rfl ?_
    exact kgo
  obtain ⟨cq3, kq3, q3a, q3b, q3c⟩ := isOf (s := s) hZ eq2 f4
  obtain ⟨_, _, ⟨T3, L3, k3, n3⟩, -, X3, ⟨Lc3, hQ3, l3, y3, z3⟩, st3⟩ := X2.virtualBack hx (y := mN17) (z := mN18) hown (mvT hZ (own_w hw 158 rfl)) (mvT hZ (own_w hw 159 rfl)) (own_notface (args := #[]) (mvT hZ (own_w hw 117 rfl)) rfl) (mvT hZ (own_w hw 161 rfl)) (mvT hZ (own_w hw 162 rfl)) (by decide) (backOf (W := 0) (rm_sln l Z a0 hw [] wG1 wG3 cx hEL h0 n0 X00 sb va kv qa vsb f4 f5 f6 f7 f8) hZ (own_w hw 163 rfl) (own_w hw 76 rfl) (by decide) (by decide)) q3a q3c (g := (mkF m 10 #[vR a1, vR sb, .val .null, vR va, vU] [(.ref sb)])) rfl (by rw [hml]; rfl) (Steps.refl _) (argsL := []) (rest := []) (lenOf pd_86913941 rfl) rfl (Nat.le_of_eq rfl) (hb hby d24_10) (fun _ _ => ⟨rfl, eq2, (by decide : 0 + 0 ≤ _), (by decide : 0 + 0 ≤ _)⟩)
  dsimp only [Pt.U, Pt.locs, Pt.cells, Pt.slots] at X3 l3 y3 z3 st3 hQ3
  subst l3 y3 z3
  obtain ⟨rfl, Nq3, eq3⟩ := hQ3
  refine OwnGoes.tr (T' := T3) (g' := (mkF m 13 #[vR a1, vR sb, .val .null, vR va, vU] [(.int qa)])) st3 ?_
  have N3 := Fr.app N2 Nq3
  refine og T3 m 16 #[vR a1, vR sb, .val .null, vR va, vI qa] [(.ref sb)] (fun tgt kgo => ?_) ?_
  · refine XS.istore X3.here hx rfl (hb hby d24_13) rfl (l' := #[vR a1, vR sb, .val .null, vR va, vI qa]) rfl ?_
    show OwnG p e below T3 m 15 #[vR a1, vR sb, .val .null, vR va, vI qa] [] tgt
    refine XS.aloadN X3.here hx rfl (hb hby d24_15) rfl rfl ?_
    exact kgo
  obtain ⟨cq4, kq4, q4a, q4b, q4c⟩ := isOf (s := s) hZ eq3 f4
  obtain ⟨_, _, ⟨T4, L4, k4, n4⟩, -, X4, ⟨Lc4, hQ4, l4, y4, z4⟩, st4⟩ := X3.virtualBack hx (y := mN19) (z := mN19) hown (mvT hZ (own_w hw 166 rfl)) (mvT hZ (own_w hw 167 rfl)) (notFace_of_selects (args := #[]) (mvT hZ (own_w hw 169 rfl))) (mvT hZ (own_w hw 169 rfl)) (mvT hZ (own_w hw 168 rfl)) (by decide) (backOf (W := 0) (rm_ail1 l Z a0 hw [] wG1 wG3 cx hEL h0 n0 X00 sb va kv qa vsb f4 f5 f6 f7 f8) hZ (own_w hw 170 rfl) (own_w hw 84 rfl) (by decide) (by decide)) q4a q4c (g := (mkF m 16 #[vR a1, vR sb, .val .null, vR va, vI qa] [(.ref sb)])) rfl (by rw [hml]; rfl) (Steps.refl _) (argsL := []) (rest := []) (lenOf pd_15861835 rfl) rfl (Nat.le_of_eq rfl) (hb hby d24_16) (fun _ _ => ⟨rfl, eq3, (by decide : 0 + 0 ≤ _), (by decide : 0 + 0 ≤ _)⟩)
  dsimp only [Pt.U, Pt.locs, Pt.cells, Pt.slots] at X4 l4 y4 z4 st4 hQ4
  subst l4 y4 z4
  obtain ⟨rfl, Nq4, eq4⟩ := hQ4
  refine OwnGoes.tr (T' := T4) (g' := (mkF m 19 #[vR a1, vR sb, .val .null, vR va, vI qa] [(.int 1)])) st4 ?_
  have N4 := Fr.app N3 Nq4
  refine og T4 m 24 #[vR a1, vR sb, .val .null, vR va, vI qa] [(.int 0), (.ref a1)] (fun tgt kgo => ?_) ?_
  · refine XS.ifNo X4.here hx rfl (hb hby d24_19) rfl ((if0 _ _).trans (feq (by decide : ¬ ((1 : Int32) = (0 : Int32)))).1) ?_
    show OwnG p e below T4 m 22 #[vR a1, vR sb, .val .null, vR va, vI qa] [] tgt
    refine XS.aloadN X4.here hx rfl (hb hby d24_22) rfl rfl ?_
    show OwnG p e below T4 m 23 #[vR a1, vR sb, .val .null, vR va, vI qa] [(.ref a1)] tgt
    refine XS.iconst X4.here hx rfl (hb hby d24_23) ?_
    exact kgo
  obtain ⟨T5, h5, X5, e5, W5, st5⟩ := putFN X4 hx hZ hown (own_w hw 30 rfl) Via.refl eq4 f2 f0 (Or.inr ⟨(own_w hw 31 rfl), rfl, hnm⟩) (own_w hw 5 rfl) (ty := .byte) (v' := (.int (nar .byte (0 : Int32)))) (by decide) rfl (fits_nar_byte _) (g := (mkF m 24 #[vR a1, vR sb, .val .null, vR va, vI qa] [(.int 0), (.ref a1)])) rfl rfl (hb hby d24_24)
  refine og T5 m 27 #[vR a1, vR sb, .val .null, vR va, vI qa] [] st5 ?_
  have Fw5 := f2.same W5
  rw [(by decide : nar .byte (0 : Int32) = (0 : Int32))] at Fw5
  have F5_1 := f0.wr W5
  have F5_2 := f1.other W5 (Or.inr (slot_ne (Or.inr (own_w hw 33 rfl)) (Or.inr (own_w hw 31 rfl)) (by decide) (t := (.array .byte)) (t' := .byte) (by decide) (by decide)))
  have F5_3 := f4.wr W5
  have F5_4 := f5.other W5 (Or.inl (Exa.ne f4 f0 (by decide)))
  have F5_5 := f6.other W5 (Or.inl (Exa.ne f4 f0 (by decide)))
  have F5_6 := f7.other W5 (Or.inl (Exa.ne f4 f0 (by decide)))
  have F5_7 := f8.other W5 (Ne.symm (Exa.neArv f0 f8 (own_w hw 5 rfl)))
  have Ol5 := X00.wr W5 f3
  have K5 : Keep h0 h5 ([a1] : List Addr) := K0.wr W5 (Or.inl (List.mem_of_getElem? (i := 0) rfl))
  have N5 := Fr.snoc X5 N4 f3
  refine og T5 m 32 #[vR a1, vR sb, .val .null, vR va, vI qa] [(.int qa), (.int 0), (.ref va), (.ref a1)] (fun tgt kgo => ?_) ?_
  · refine XS.aloadN X5.here hx rfl (hb hby d24_27) rfl rfl ?_
    show OwnG p e below T5 m 28 #[vR a1, vR sb, .val .null, vR va, vI qa] [(.ref a1)] tgt
    refine XS.aloadN X5.here hx rfl (hb hby d24_28) rfl rfl ?_
    show OwnG p e below T5 m 29 #[vR a1, vR sb, .val .null, vR va, vI qa] [(.ref va), (.ref a1)] tgt
    refine XS.iconst X5.here hx rfl (hb hby d24_29) ?_
    show OwnG p e below T5 m 30 #[vR a1, vR sb, .val .null, vR va, vI qa] [(.int 0), (.ref va), (.ref a1)] tgt
    refine XS.iload X5.here hx rfl (hb hby d24_30) rfl ?_
    exact kgo
  obtain ⟨_, _, ⟨T6, L6, k6, n6⟩, -, X6, ⟨Lc6, hQ6, l6, y6, z6⟩, st6⟩ := Jvm.LawKit.callS X5 hx (y := mN23) hown (mvT hZ (own_w hw 171 rfl)) (mvT hZ (own_w hw 172 rfl)) (mvT hZ (own_w hw 173 rfl)) (mvT hZ (own_w hw 174 rfl)) (by decide) (backOf (W := 1) (rm_cr l Z a0 hw [] wG1 wG3 cx hEL h5 n0 Ol5 va kv qa vsb csP F5_7 hB) hZ (own_w hw 174 rfl) (own_w hw 173 rfl) (by decide) (by decide)) (g := (mkF m 32 #[vR a1, vR sb, .val .null, vR va, vI qa] [(.int qa), (.int 0), (.ref va), (.ref a1)])) rfl (by rw [hml]; rfl) (argsL := [(.ref va), (.int 0), (.int qa)]) (rest := [(.ref a1)]) (lenOf pd_62477155 rfl) rfl (Nat.le_of_eq rfl) (hb hby d24_32) (fun _ _ => ⟨rfl, e5, (by decide : 0 + 1 ≤ _), (by decide : 0 + 16 ≤ _)⟩)
  dsimp only [Pt.U, Pt.locs, Pt.cells, Pt.slots] at X6 l6 y6 z6 st6 hQ6
  subst l6 y6 z6
  obtain ⟨t_6, k_6, rfl, Nq6, Kq6, zq6_0, fq6_0⟩ := hQ6
  refine og T6 m 35 #[vR a1, vR sb, .val .null, vR va, vI qa] [(.ref t_6), (.ref a1)] st6 ?_
  have N6 := Fr.app N5 Nq6
  have ne_a1_t_6 : a1 ≠ t_6 := Nat.ne_of_lt (Nat.lt_of_lt_of_le F5_1.lt zq6_0)
  have ne_sb_t_6 : sb ≠ t_6 := Nat.ne_of_lt (Nat.lt_of_lt_of_le F5_3.lt zq6_0)
  have ne_va_t_6 : va ≠ t_6 := Nat.ne_of_lt (Nat.lt_of_lt_of_le F5_7.lt zq6_0)
  have g_t_6 : n0 ≤ t_6 := Nat.le_trans (Nat.le_trans Z0 K5.1) zq6_0
  have s_t_6 : h0.size ≤ t_6 := Nat.le_trans K5.1 zq6_0
  have F6_8 := F5_1.keep Kq6
  have F6_9 := F5_2.keep Kq6 nin0
  have F6_10 := Fw5.keep Kq6 nin0
  have F6_11 := F5_3.keep Kq6
  have F6_12 := F5_4.keep Kq6 nin0
  have F6_13 := F5_5.keep Kq6 nin0
  have F6_14 := F5_6.keep Kq6 nin0
  have F6_15 := F5_7.keep Kq6 nin0
  have Ol6 := Ol5.keep Kq6 all0
  have K6 : Keep h0 T6.heap ([a1] : List Addr) := K5.trans Kq6 all0
  obtain ⟨T7, h7, X7, e7, W7, st7⟩ := putF X6 hx hZ hown (host := "") (Or.inl (own_w hw 32 rfl)) Via.refl rfl F6_9 F6_8 (Or.inr ⟨(own_w hw 33 rfl), rfl, hnm⟩) (own_w hw 5 rfl) (ty := (.array .byte)) (by decide) rfl rfl (g := (mkF m 35 #[vR a1, vR sb, .val .null, vR va, vI qa] [(.ref t_6), (.ref a1)])) rfl rfl (hb hby d24_35)
  refine og T7 m 38 #[vR a1, vR sb, .val .null, vR va, vI qa] [] st7 ?_
  have Fw7 := F6_9.same W7
  have F7_16 := F6_8.wr W7
  have F7_17 := F6_10.other W7 (Or.inr (slot_ne (Or.inr (own_w hw 31 rfl)) (Or.inr (own_w hw 33 rfl)) (by decide) (t := .byte) (t' := (.array .byte)) (by decide) (by decide)))
  have F7_18 := F6_11.wr W7
  have F7_19 := F6_12.other W7 (Or.inl (Exa.ne F6_11 F6_8 (by decide)))
  have F7_20 := F6_13.other W7 (Or.inl (Exa.ne F6_11 F6_8 (by decide)))
  have F7_21 := F6_14.other W7 (Or.inl (Exa.ne F6_11 F6_8 (by decide)))
  have F7_22 := F6_15.other W7 (Ne.symm (Exa.neArv F6_8 F6_15 (own_w hw 5 rfl)))
  have F7_23 := fq6_0.other W7 (Ne.symm ne_a1_t_6)
  have Ol7 := Ol6.wr W7 f3
  have K7 : Keep h0 h7 ([a1] : List Addr) := K6.wr W7 (Or.inl (List.mem_of_getElem? (i := 0) rfl))
  have N7 := Fr.snoc X7 N6 f3
  refine og T7 m 97 #[vR a1, vR sb, .val .null, vR va, vI qa] [] (fun tgt kgo => ?_) ?_
  · refine XS.goto X7.here hx rfl (pc0 := 38) (pc' := 97) rfl (hb hby d24_38) (by decide) (by decide) ?_
    exact kgo
  refine own_leave X7 hlk (v := none) (fun _ => rfl) (fun fs hr => X7.returnOut hx Bd.returns (hb hby d24_97) hr) (by decide) (by decide) ?_
  show Q_siA Z a1 sb va kv qa vsb csP h0 n0 _ T7.heap _
  rw [e7]
  exact ⟨t_6, k_6, rfl, N7, K7, s_t_6, F7_16, Fw7, F7_17, F7_23⟩
theorem ef_siB (m : MethodId) (x0 : Addr) (x1 : Addr) : entryFrame m #[(.ref x0), (.ref x1)] 2 = mkF m 0 #[vR x0, vR x1] [] := by
  first | (simp [entryFrame, mkF, argsToLocals, Value.category]; done) | rfl
def Q_siB (Z : State) (a1 : Addr) (sb : Addr) (va : Addr) (kv : ClassId) (qa : Int32) (vsb : List Value) (csP : List Int32) (h0 : Heap) (n0 : Nat) (v : Option Value) (h : Heap) (L : List Loc) : Prop := ∃ (t : Addr), ∃ (k : ClassId), v = none ∧ Fr n0 L ∧ Keep h0 h ([a1] : List Addr) ∧ h0.size ≤ t ∧ Exa Z h a1 "java/lang/String" ∧ Fld Z h a1 "java/lang/String" "value" "[B" (.ref t) ∧ Fld Z h a1 "java/lang/String" "coder" "B" (.int 0) ∧ Arv Z h t k .byte qa (vsb.take csP.length) (.int 0)
theorem d25_0 : decode jdk_42_method_53_code 0 = .ok (.aload_n 0, 1) := by decide +kernel
theorem d25_1 : decode jdk_42_method_53_code 1 = .ok (.aload_n 1, 1) := by decide +kernel
theorem d25_2 : decode jdk_42_method_53_code 2 = .ok (.aconst_null, 1) := by decide +kernel
theorem d25_3 : decode jdk_42_method_53_code 3 = .ok (.invokespecial 489, 3) := by decide +kernel
theorem pd_42496373 : parseMethodDescriptor "(Ljava/lang/AbstractStringBuilder;Ljava/lang/Void;)V" = some ⟨[(.object "java/lang/AbstractStringBuilder"), (.object "java/lang/Void")], none⟩ := by decide +kernel
theorem d25_6 : decode jdk_42_method_53_code 6 = .ok (.return_, 1) := by decide +kernel
set_option maxRecDepth 65536 in
set_option maxHeartbeats 40000000 in
theorem rm_siB (l : Launch) (Z : State) (a0 : Array Value) (hw : ∀ d ∈ tables_1, d.before a0 Z = true) (ws : List Jvm.Cond) (wG1 : Int32) (wG3 : Value) (cx : OwnCx Z a0 wG1 wG3) (hEL : EW Z a0 consts_1) (h0 : Heap) (n0 : Nat) (X00 : Old Z n0 h0) (a1 : Addr) (sb : Addr) (va : Addr) (kv : ClassId) (qa : Int32) (vsb : List Value) (csP : List Int32) (f0 : Exa Z h0 a1 "java/lang/String") (f1 : Fld Z h0 a1 "java/lang/String" "value" "[B" .null) (f2 : Fld Z h0 a1 "java/lang/String" "coder" "B" (.int 0)) (f3 : n0 ≤ a1) (f4 : Exa Z h0 sb "java/lang/StringBuilder") (f5 : Fld Z h0 sb "java/lang/AbstractStringBuilder" "value" "[B" (.ref va)) (f6 : Fld Z h0 sb "java/lang/AbstractStringBuilder" "coder" "B" (.int 0)) (f7 : Fld Z h0 sb "java/lang/AbstractStringBuilder" "count" "I" (.int qa)) (f8 : Arv Z h0 va kv .byte (16 : Int32) vsb (.int 0)) (hB : OwnB csP qa vsb) :
    MetFree l mN25 (head1 (Jvm.Cond.code mN25 jdk_42_method_53_code 2 none :: ws) (oR 4 1 16 65)) (fun a U => a = #[(.ref a1), (.ref sb)] ∧ Z.Warmed39 U.vm ∧ U.heap = h0) (fun _ _ _ _ _ => True) (fun _ U o U' => ∃ v L, o = .returned v ∧ Q_siB Z a1 sb va kv qa vsb csP h0 n0 v U'.heap L ∧ FrameEnd U o U' L (oR 4 1 16 65).cells (oR 4 1 16 65).slots) := by
  refine MetFree.of_bodySF (plainFor_of_name pn_52039224) hisR ?_
  intro p e s m args below meth c s₁ Bd hml0 hP hK
  obtain ⟨rfl, hZ, hh⟩ := hP
  obtain ⟨wO2, wP5, wO4, wrG3, hstr⟩ := id cx
  have hx := Bd.exec
  have hby := Bd.bytes
  have hlk := Bd.notSynchronized
  have hml : c.maxLocals = 2 := hml0
  have hown : s.vm.findClass "java/lang/String" = some m.cls := findClass_of_methodNamed Bd.named
  have hnm := (name_of_methodNamed Bd.named Bd.method).1
  have X0 : Stand p l e (oR 4 1 16 65) s m #[(.ref a1), (.ref sb)] below meth c s₁ [] 0 0 := Stand.of_body Bd
  have e0 : s₁.heap = h0 := by rw [← hh, Bd.state]; rfl
  have N0 := Fr.nil n0
  have Z0 : n0 ≤ h0.size := X00.1 ▸ X00.2.1
  have K0 : Keep h0 h0 ([a1] : List Addr) := Keep.refl _ _
  show OwnGoes p e below _ s₁ (entryFrame m _ _)
  refine og s₁ m 0 #[vR a1, vR sb] [] (fun tgt kgo => castTop (ef_siB m a1 sb) kgo) ?_
  refine og s₁ m 3 #[vR a1, vR sb] [.null, (.ref sb), (.ref a1)] (fun tgt kgo => ?_) ?_
  · refine XS.aloadN X0.here hx rfl (hb hby d25_0) rfl rfl ?_
    show OwnG p e below s₁ m 1 #[vR a1, vR sb] [(.ref a1)] tgt
    refine XS.aloadN X0.here hx rfl (hb hby d25_1) rfl rfl ?_
    show OwnG p e below s₁ m 2 #[vR a1, vR sb] [(.ref sb), (.ref a1)] tgt
    refine XS.aconstNull X0.here hx rfl (hb hby d25_2) ?_
    exact kgo
  obtain ⟨_, _, ⟨T1, L1, k1, n1⟩, -, X1, ⟨Lc1, hQ1, l1, y1, z1⟩, st1⟩ := X0.specialBack hx (y := mN24) rfl hown (mvT hZ (own_w hw 150 rfl)) (mvT hZ (own_w hw 151 rfl)) (mvT hZ (own_w hw 152 rfl)) (by decide) (backOf (W := 0) (rm_siA l Z a0 hw [] wG1 wG3 cx hEL h0 n0 X00 a1 sb va kv qa vsb csP f0 f1 f2 f3 f4 f5 f6 f7 f8 hB) hZ (own_w hw 152 rfl) (own_w hw 6 rfl) (by decide) (by decide)) (g := (mkF m 3 #[vR a1, vR sb] [.null, (.ref sb), (.ref a1)])) rfl (by rw [hml]; rfl) (Steps.refl _) (a := a1) (argsL := [(.ref sb), .null]) (rest := []) (lenOf pd_42496373 rfl) rfl (Nat.le_of_eq rfl) (hb hby d25_3) (fun _ _ => ⟨rfl, e0, (by decide : 0 + 1 ≤ _), (by decide : 0 + 16 ≤ _)⟩)
  dsimp only [Pt.U, Pt.locs, Pt.cells, Pt.slots] at X1 l1 y1 z1 st1 hQ1
  subst l1 y1 z1
  obtain ⟨t_1, k_1, rfl, Nq1, Kq1, zq1_0, fq1_0, fq1_1, fq1_2, fq1_3⟩ := hQ1
  refine OwnGoes.tr (T' := T1) (g' := (mkF m 6 #[vR a1, vR sb] [])) st1 ?_
  have N1 := Fr.app N0 Nq1
  have ne_a1_t_1 : a1 ≠ t_1 := Nat.ne_of_lt (Nat.lt_of_lt_of_le f0.lt zq1_0)
  have ne_sb_t_1 : sb ≠ t_1 := Nat.ne_of_lt (Nat.lt_of_lt_of_le f4.lt zq1_0)
  have ne_va_t_1 : va ≠ t_1 := Nat.ne_of_lt (Nat.lt_of_lt_of_le f8.lt zq1_0)
  have g_t_1 : n0 ≤ t_1 := Nat.le_trans (Nat.le_trans Z0 K0.1) zq1_0
  have s_t_1 : h0.size ≤ t_1 := Nat.le_trans K0.1 zq1_0
  have F1_1 := f0.keep Kq1
  have F1_2 := f4.keep Kq1
  have F1_3 := f5.keep Kq1 (ninS (Exa.ne f4 f0 (by decide)) nin0)
  have F1_4 := f6.keep Kq1 (ninS (Exa.ne f4 f0 (by decide)) nin0)
  have F1_5 := f7.keep Kq1 (ninS (Exa.ne f4 f0 (by decide)) nin0)
  have F1_6 := f8.keep Kq1 (ninS (Ne.symm (Exa.neArv f0 f8 (own_w hw 5 rfl))) nin0)
  have Ol1 := X00.keep Kq1 (allS f3 all0)
  have K1 : Keep h0 T1.heap ([a1] : List Addr) := K0.trans Kq1 (allS (Or.inl (List.mem_of_getElem? (i := 0) rfl)) all0)
  refine own_leave X1 hlk (v := none) (fun _ => rfl) (fun fs hr => X1.returnOut hx Bd.returns (hb hby d25_6) hr) (by decide) (by decide) ?_
  show Q_siB Z a1 sb va kv qa vsb csP h0 n0 _ T1.heap _
  exact ⟨t_1, k_1, rfl, N1, K1, s_t_1, fq1_0, fq1_1, fq1_2, fq1_3⟩
theorem ef_toS (m : MethodId) (x0 : Addr) : entryFrame m #[(.ref x0)] 1 = mkF m 0 #[vR x0] [] := by
  first | (simp [entryFrame, mkF, argsToLocals, Value.category]; done) | rfl
def Q_toS (Z : State) (sb : Addr) (va : Addr) (kv : ClassId) (qa : Int32) (vsb : List Value) (csP : List Int32) (h0 : Heap) (n0 : Nat) (v : Option Value) (h : Heap) (L : List Loc) : Prop := ∃ (x : Addr), ∃ (t : Addr), ∃ (k : ClassId), ∃ (vs : List Value), v = some (.ref x) ∧ Fr n0 L ∧ Keep h0 h ([] : List Addr) ∧ h0.size ≤ x ∧ h0.size ≤ t ∧ Exa Z h x "java/lang/String" ∧ Fld Z h x "java/lang/String" "value" "[B" (.ref t) ∧ Fld Z h x "java/lang/String" "coder" "B" (.int 0) ∧ Arv Z h t k .byte qa vs (.int 0) ∧ (OwnStr csP (0 : Int32) qa vs)
theorem d26_0 : decode jdk_67_method_42_code 0 = .ok (.new 18, 3) := by decide +kernel
theorem d26_3 : decode jdk_67_method_42_code 3 = .ok (.dup, 1) := by decide +kernel
theorem d26_4 : decode jdk_67_method_42_code 4 = .ok (.aload_n 0, 1) := by decide +kernel
theorem d26_5 : decode jdk_67_method_42_code 5 = .ok (.invokespecial 137, 3) := by decide +kernel
theorem pd_6531027 : parseMethodDescriptor "(Ljava/lang/StringBuilder;)V" = some ⟨[(.object "java/lang/StringBuilder")], none⟩ := by decide +kernel
theorem d26_8 : decode jdk_67_method_42_code 8 = .ok (.areturn, 1) := by decide +kernel
set_option maxRecDepth 65536 in
set_option maxHeartbeats 40000000 in
theorem rm_toS (l : Launch) (Z : State) (a0 : Array Value) (hw : ∀ d ∈ tables_1, d.before a0 Z = true) (ws : List Jvm.Cond) (wG1 : Int32) (wG3 : Value) (cx : OwnCx Z a0 wG1 wG3) (hEL : EW Z a0 consts_1) (h0 : Heap) (n0 : Nat) (X00 : Old Z n0 h0) (sb : Addr) (va : Addr) (kv : ClassId) (qa : Int32) (vsb : List Value) (csP : List Int32) (f0 : Exa Z h0 sb "java/lang/StringBuilder") (f1 : Fld Z h0 sb "java/lang/AbstractStringBuilder" "value" "[B" (.ref va)) (f2 : Fld Z h0 sb "java/lang/AbstractStringBuilder" "coder" "B" (.int 0)) (f3 : Fld Z h0 sb "java/lang/AbstractStringBuilder" "count" "I" (.int qa)) (f4 : Arv Z h0 va kv .byte (16 : Int32) vsb (.int 0)) (hB : OwnB csP qa vsb) :
    MetFree l mN26 (head1 (Jvm.Cond.code mN26 jdk_67_method_42_code 1 (some (.object "java/lang/String")) :: ws) (oR 5 2 20 79)) (fun a U => a = #[(.ref sb)] ∧ Z.Warmed39 U.vm ∧ U.heap = h0) (fun _ _ _ _ _ => True) (fun _ U o U' => ∃ v L, o = .returned v ∧ Q_toS Z sb va kv qa vsb csP h0 n0 v U'.heap L ∧ FrameEnd U o U' L (oR 5 2 20 79).cells (oR 5 2 20 79).slots) := by
  refine MetFree.of_bodySF (plainFor_of_name pn_27209738) hisR ?_
  intro p e s m args below meth c s₁ Bd hml0 hP hK
  obtain ⟨rfl, hZ, hh⟩ := hP
  obtain ⟨wO2, wP5, wO4, wrG3, hstr⟩ := id cx
  have hx := Bd.exec
  have hby := Bd.bytes
  have hlk := Bd.notSynchronized
  have hml : c.maxLocals = 1 := hml0
  have hown : s.vm.findClass "java/lang/StringBuilder" = some m.cls := findClass_of_methodNamed Bd.named
  have hnm := (name_of_methodNamed Bd.named Bd.method).1
  have X0 : Stand p l e (oR 5 2 20 79) s m #[(.ref sb)] below meth c s₁ [] 0 0 := Stand.of_body Bd
  have e0 : s₁.heap = h0 := by rw [← hh, Bd.state]; rfl
  have N0 := Fr.nil n0
  have Z0 : n0 ≤ h0.size := X00.1 ▸ X00.2.1
  have K0 : Keep h0 h0 ([] : List Addr) := Keep.refl _ _
  show OwnGoes p e below _ s₁ (entryFrame m _ _)
  refine og s₁ m 0 #[vR sb] [] (fun tgt kgo => castTop (ef_toS m sb) kgo) ?_
  obtain ⟨T1, h1, X1, e1, E1, A1, D1, U1, st1⟩ := newO X0 hx hZ hown (own_w hw 146 rfl) (own_w hw 5 rfl) (own_w hw 6 rfl) e0 (g := (mkF m 0 #[vR sb] [])) rfl (hb hby d26_0) (by decide) (by decide)
  obtain ⟨b1, g1⟩ : ∃ z, z = h0.size := ⟨_, rfl⟩
  rw [← g1] at A1 D1 U1 st1
  refine og T1 m 3 #[vR sb] [(.ref b1)] st1 ?_
  have ne_sb_b1 : sb ≠ b1 := Nat.ne_of_lt (Nat.lt_of_lt_of_le f0.lt (Nat.le_of_eq g1.symm))
  have ne_va_b1 : va ≠ b1 := Nat.ne_of_lt (Nat.lt_of_lt_of_le f4.lt (Nat.le_of_eq g1.symm))
  have g_b1 : n0 ≤ b1 := Nat.le_trans (Nat.le_trans Z0 K0.1) (Nat.le_of_eq g1.symm)
  have s_b1 : h0.size ≤ b1 := Nat.le_trans K0.1 (Nat.le_of_eq g1.symm)
  have F1_1 := f0.ext E1
  have F1_2 := f1.ext E1
  have F1_3 := f2.ext E1
  have F1_4 := f3.ext E1
  have F1_5 := f4.ext E1
  have Ol1 := X00.ext E1
  have K1 : Keep h0 h1 ([] : List Addr) := K0.ext E1
  have F1_6 : Fld Z h1 b1 "java/lang/String" "coder" "B" (.int 0) := D1 (Or.inr (own_w hw 31 rfl)) (ty := .byte) (by decide)
  have F1_7 : Fld Z h1 b1 "java/lang/String" "value" "[B" .null := D1 (Or.inr (own_w hw 33 rfl)) (ty := (.array .byte)) (by decide)
  refine og T1 m 5 #[vR sb] [(.ref sb), (.ref b1), (.ref b1)] (fun tgt kgo => ?_) ?_
  · refine XS.dup X1.here hx rfl (hb hby d26_3) rfl rfl ?_
    show OwnG p e below T1 m 4 #[vR sb] [(.ref b1), (.ref b1)] tgt
    refine XS.aloadN X1.here hx rfl (hb hby d26_4) rfl rfl ?_
    exact kgo
  obtain ⟨_, _, ⟨T2, L2, k2, n2⟩, -, X2, ⟨Lc2, hQ2, l2, y2, z2⟩, st2⟩ := X1.specialBack hx (y := mN25) rfl hown (mvT hZ (own_w hw 147 rfl)) (mvT hZ (own_w hw 148 rfl)) (mvT hZ (own_w hw 149 rfl)) (by decide) (backOf (W := 1) (rm_siB l Z a0 hw [] wG1 wG3 cx hEL h1 n0 Ol1 b1 sb va kv qa vsb csP A1 F1_7 F1_6 g_b1 F1_1 F1_2 F1_3 F1_4 F1_5 hB) hZ (own_w hw 149 rfl) (own_w hw 6 rfl) (by decide) (by decide)) (g := (mkF m 5 #[vR sb] [(.ref sb), (.ref b1), (.ref b1)])) rfl (by rw [hml]; rfl) (Steps.refl _) (a := b1) (argsL := [(.ref sb)]) (rest := [(.ref b1)]) (lenOf pd_6531027 rfl) rfl (Nat.le_of_eq rfl) (hb hby d26_5) (fun _ _ => ⟨rfl, e1, (by decide : 1 + 1 ≤ _), (by decide : 4 + 16 ≤ _)⟩)
  dsimp only [Pt.U, Pt.locs, Pt.cells, Pt.slots] at X2 l2 y2 z2 st2 hQ2
  subst l2 y2 z2
  obtain ⟨t_2, k_2, rfl, Nq2, Kq2, zq2_0, fq2_0, fq2_1, fq2_2, fq2_3⟩ := hQ2
  refine OwnGoes.tr (T' := T2) (g' := (mkF m 8 #[vR sb] [(.ref b1)])) st2 ?_
  have N2 := Fr.app N0 Nq2
  have ne_sb_t_2 : sb ≠ t_2 := Nat.ne_of_lt (Nat.lt_of_lt_of_le F1_1.lt zq2_0)
  have ne_va_t_2 : va ≠ t_2 := Nat.ne_of_lt (Nat.lt_of_lt_of_le F1_5.lt zq2_0)
  have ne_b1_t_2 : b1 ≠ t_2 := Nat.ne_of_lt (Nat.lt_of_lt_of_le A1.lt zq2_0)
  have g_t_2 : n0 ≤ t_2 := Nat.le_trans (Nat.le_trans Z0 K1.1) zq2_0
  have s_t_2 : h0.size ≤ t_2 := Nat.le_trans K1.1 zq2_0
  have F2_8 := F1_1.keep Kq2
  have F2_9 := F1_2.keep Kq2 (ninS ne_sb_b1 nin0)
  have F2_10 := F1_3.keep Kq2 (ninS ne_sb_b1 nin0)
  have F2_11 := F1_4.keep Kq2 (ninS ne_sb_b1 nin0)
  have F2_12 := F1_5.keep Kq2 (ninS ne_va_b1 nin0)
  have F2_13 := A1.keep Kq2
  have Ol2 := Ol1.keep Kq2 (allS g_b1 all0)
  have K2 : Keep h0 T2.heap ([] : List Addr) := K1.trans Kq2 (allS (Or.inr s_b1) all0)
  have hret : ∀ fs, (∀ (f : JFrame) (acts : List Action), f.method = m → f.locked = none → f.entered = [] → (doReturn e (T2.setTop f) acts (some (.ref b1))).1 = T2.setFrames fs) → Steps p.tables e below (T2.setTop (mkF m 8 #[vR sb] [(.ref b1)])) (T2.setFrames fs) := by
    intro fs hr
    jvm_step X2.here [X2.here.top, hx, (hb hby d26_8), X2.method', Bd.returns, Value.isRef, FieldType.isReference]
    first | (intro acts; rw [hr _ acts rfl rfl rfl]) | rw [hr _ _ rfl rfl rfl]
    exact Steps.refl _
  refine own_leave X2 hlk (v := some (.ref b1)) (fun h => by rw [Bd.returns] at h; cases h) hret (by decide) (by decide) ?_
  show Q_toS Z sb va kv qa vsb csP h0 n0 _ T2.heap _
  exact ⟨b1, t_2, k_2, (vsb.take csP.length), rfl, N2, K2, s_b1, s_t_2, fq2_0, fq2_1, fq2_2, fq2_3, hB.1⟩
theorem ef_rec (m : MethodId) (x0 : Addr) : entryFrame m #[(.ref x0)] 1 = mkF m 0 #[vR x0] [] := by
  first | (simp [entryFrame, mkF, argsToLocals, Value.category]; done) | rfl
def Q_rec (Z : State) (a1 : Addr) (h0 : Heap) (n0 : Nat) (v : Option Value) (h : Heap) (L : List Loc) : Prop := v = none ∧ Fr n0 L ∧ h = h0
theorem pn_28199424 : plainName "java/lang/Record" = true := by first | (simp [plainName, overriddenIn]; done) | decide +kernel
theorem d27_0 : decode jdk_30_method_1_code 0 = .ok (.aload_n 0, 1) := by decide +kernel
theorem d27_1 : decode jdk_30_method_1_code 1 = .ok (.invokespecial 1, 3) := by decide +kernel
theorem d27_4 : decode jdk_30_method_1_code 4 = .ok (.return_, 1) := by decide +kernel
set_option maxRecDepth 65536 in
set_option maxHeartbeats 40000000 in
theorem rm_rec (l : Launch) (Z : State) (a0 : Array Value) (hw : ∀ d ∈ tables_1, d.before a0 Z = true) (ws : List Jvm.Cond) (wG1 : Int32) (wG3 : Value) (cx : OwnCx Z a0 wG1 wG3) (hEL : EW Z a0 consts_1) (h0 : Heap) (n0 : Nat) (X00 : Old Z n0 h0) (a1 : Addr) :
    MetFree l mN27 (head1 (Jvm.Cond.code mN27 jdk_30_method_1_code 1 none :: ws) (oR 1 0 0 12)) (fun a U => a = #[(.ref a1)] ∧ Z.Warmed39 U.vm ∧ U.heap = h0) (fun _ _ _ _ _ => True) (fun _ U o U' => ∃ v L, o = .returned v ∧ Q_rec Z a1 h0 n0 v U'.heap L ∧ FrameEnd U o U' L (oR 1 0 0 12).cells (oR 1 0 0 12).slots) := by
  refine MetFree.of_bodySF (plainFor_of_name pn_28199424) hisR ?_
  intro p e s m args below meth c s₁ Bd hml0 hP hK
  obtain ⟨rfl, hZ, hh⟩ := hP
  obtain ⟨wO2, wP5, wO4, wrG3, hstr⟩ := id cx
  have hx := Bd.exec
  have hby := Bd.bytes
  have hlk := Bd.notSynchronized
  have hml : c.maxLocals = 1 := hml0
  have hown : s.vm.findClass "java/lang/Record" = some m.cls := findClass_of_methodNamed Bd.named
  have hnm := (name_of_methodNamed Bd.named Bd.method).1
  have X0 : Stand p l e (oR 1 0 0 12) s m #[(.ref a1)] below meth c s₁ [] 0 0 := Stand.of_body Bd
  have e0 : s₁.heap = h0 := by rw [← hh, Bd.state]; rfl
  have N0 := Fr.nil n0
  have Z0 : n0 ≤ h0.size := X00.1 ▸ X00.2.1
  have K0 : Keep h0 h0 ([] : List Addr) := Keep.refl _ _
  show OwnGoes p e below _ s₁ (entryFrame m _ _)
  refine og s₁ m 0 #[vR a1] [] (fun tgt kgo => castTop (ef_rec m a1) kgo) ?_
  refine og s₁ m 1 #[vR a1] [(.ref a1)] (fun tgt kgo => ?_) ?_
  · refine XS.aloadN X0.here hx rfl (hb hby d27_0) rfl rfl ?_
    exact kgo
  obtain ⟨T1, X1, e1, st1⟩ := initO X0 hx hZ hown (own_w hw 62 rfl) (own_w hw 16 rfl) (own_w hw 17 rfl) e0 (g := (mkF m 1 #[vR a1] [(.ref a1)])) rfl (by rw [hml]; rfl) rfl (hb hby d27_1) (by decide) (W := 0) (Nat.le_of_eq rfl) (by decide)
  refine og T1 m 4 #[vR a1] [] st1 ?_
  refine own_leave X1 hlk (v := none) (fun _ => rfl) (fun fs hr => X1.returnOut hx Bd.returns (hb hby d27_4) hr) (by decide) (by decide) ?_
  show Q_rec Z a1 h0 n0 _ T1.heap _
  rw [e1]
  exact ⟨rfl, N0, rfl⟩
theorem ef_seti (m : MethodId) (x0 : Addr) (x1 : Addr) (x2 : Addr) (x3 : Addr) : entryFrame m #[(.ref x0), (.ref x1), (.ref x2), (.ref x3)] 4 = mkF m 0 #[vR x0, vR x1, vR x2, vR x3] [] := by
  first | (simp [entryFrame, mkF, argsToLocals, Value.category]; done) | rfl
def Q_seti (Z : State) (se : Addr) (kk : Addr) (ww : Addr) (oo : Addr) (h0 : Heap) (n0 : Nat) (v : Option Value) (h : Heap) (L : List Loc) : Prop := v = none ∧ Fr n0 L ∧ Keep h0 h ([se] : List Addr) ∧ Exa Z h se "com/example/kindling/kindling/config/Setting" ∧ Fld Z h se "com/example/kindling/kindling/config/Setting" "key" "Ljava/lang/String;" (.ref kk) ∧ Fld Z h se "com/example/kindling/kindling/config/Setting" "origin" "Ljava/lang/String;" (.ref oo)
theorem pn_36660154 : plainName "com/example/kindling/kindling/config/Setting" = true := by first | (simp [plainName, overriddenIn]; done) | decide +kernel
theorem d28_0 : decode prog_28_method_1_code 0 = .ok (.aload_n 0, 1) := by decide +kernel
theorem d28_1 : decode prog_28_method_1_code 1 = .ok (.invokespecial 1, 3) := by decide +kernel
theorem pd_57008992 : parseMethodDescriptor "()V" = some ⟨[], none⟩ := by decide +kernel
theorem d28_4 : decode prog_28_method_1_code 4 = .ok (.aload_n 0, 1) := by decide +kernel
theorem d28_5 : decode prog_28_method_1_code 5 = .ok (.aload_n 1, 1) := by decide +kernel
theorem d28_6 : decode prog_28_method_1_code 6 = .ok (.putfield 7, 3) := by decide +kernel
theorem d28_9 : decode prog_28_method_1_code 9 = .ok (.aload_n 0, 1) := by decide +kernel
theorem d28_10 : decode prog_28_method_1_code 10 = .ok (.aload_n 2, 1) := by decide +kernel
theorem d28_11 : decode prog_28_method_1_code 11 = .ok (.putfield 13, 3) := by decide +kernel
theorem d28_14 : decode prog_28_method_1_code 14 = .ok (.aload_n 0, 1) := by decide +kernel
theorem d28_15 : decode prog_28_method_1_code 15 = .ok (.aload_n 3, 1) := by decide +kernel
theorem d28_16 : decode prog_28_method_1_code 16 = .ok (.putfield 16, 3) := by decide +kernel
theorem d28_19 : decode prog_28_method_1_code 19 = .ok (.return_, 1) := by decide +kernel
set_option maxRecDepth 65536 in
set_option maxHeartbeats 40000000 in
theorem rm_seti (l : Launch) (Z : State) (a0 : Array Value) (hw : ∀ d ∈ tables_1, d.before a0 Z = true) (ws : List Jvm.Cond) (wG1 : Int32) (wG3 : Value) (cx : OwnCx Z a0 wG1 wG3) (hEL : EW Z a0 consts_1) (h0 : Heap) (n0 : Nat) (X00 : Old Z n0 h0) (se : Addr) (kk : Addr) (ww : Addr) (oo : Addr) (f0 : Exa Z h0 se "com/example/kindling/kindling/config/Setting") (f1 : Fld Z h0 se "com/example/kindling/kindling/config/Setting" "key" "Ljava/lang/String;" .null) (f2 : Fld Z h0 se "com/example/kindling/kindling/config/Setting" "value" "Ljava/lang/String;" .null) (f3 : Fld Z h0 se "com/example/kindling/kindling/config/Setting" "origin" "Ljava/lang/String;" .null) (f4 : n0 ≤ se) :
    MetFree l mN28 (head1 (Jvm.Cond.code mN28 prog_28_method_1_code 4 none :: ws) (oR 2 0 0 24)) (fun a U => a = #[(.ref se), (.ref kk), (.ref ww), (.ref oo)] ∧ Z.Warmed39 U.vm ∧ U.heap = h0) (fun _ _ _ _ _ => True) (fun _ U o U' => ∃ v L, o = .returned v ∧ Q_seti Z se kk ww oo h0 n0 v U'.heap L ∧ FrameEnd U o U' L (oR 2 0 0 24).cells (oR 2 0 0 24).slots) := by
  refine MetFree.of_bodySF (plainFor_of_name pn_36660154) hisR ?_
  intro p e s m args below meth c s₁ Bd hml0 hP hK
  obtain ⟨rfl, hZ, hh⟩ := hP
  obtain ⟨wO2, wP5, wO4, wrG3, hstr⟩ := id cx
  have hx := Bd.exec
  have hby := Bd.bytes
  have hlk := Bd.notSynchronized
  have hml : c.maxLocals = 4 := hml0
  have hown : s.vm.findClass "com/example/kindling/kindling/config/Setting" = some m.cls := findClass_of_methodNamed Bd.named
  have hnm := (name_of_methodNamed Bd.named Bd.method).1
  have X0 : Stand p l e (oR 2 0 0 24) s m #[(.ref se), (.ref kk), (.ref ww), (.ref oo)] below meth c s₁ [] 0 0 := Stand.of_body Bd
  have e0 : s₁.heap = h0 := by rw [← hh, Bd.state]; rfl
  have N0 := Fr.nil n0
  have Z0 : n0 ≤ h0.size := X00.1 ▸ X00.2.1
  have K0 : Keep h0 h0 ([se] : List Addr) := Keep.refl _ _
  show OwnGoes p e below _ s₁ (entryFrame m _ _)
  refine og s₁ m 0 #[vR se, vR kk, vR ww, vR oo] [] (fun tgt kgo => castTop (ef_seti m se kk ww oo) kgo) ?_
  refine og s₁ m 1 #[vR se, vR kk, vR ww, vR oo] [(.ref se)] (fun tgt kgo => ?_) ?_
  · refine XS.aloadN X0.here hx rfl (hb hby d28_0) rfl rfl ?_
    exact kgo
  obtain ⟨_, _, ⟨T1, L1, k1, n1⟩, -, X1, ⟨Lc1, hQ1, l1, y1, z1⟩, st1⟩ := X0.specialBack hx (y := mN27) rfl hown (mvT hZ (own_w hw 57 rfl)) (mvT hZ (own_w hw 58 rfl)) (mvT hZ (own_w hw 61 rfl)) (by decide) (backOf (W := 0) (rm_rec l Z a0 hw [] wG1 wG3 cx hEL h0 n0 X00 se) hZ (own_w hw 61 rfl) (own_w hw 60 rfl) (by decide) (by decide)) (g := (mkF m 1 #[vR se, vR kk, vR ww, vR oo] [(.ref se)])) rfl (by rw [hml]; rfl) (Steps.refl _) (a := se) (argsL := []) (rest := []) (lenOf pd_57008992 rfl) rfl (Nat.le_of_eq rfl) (hb hby d28_1) (fun _ _ => ⟨rfl, e0, (by decide : 0 + 0 ≤ _), (by decide : 0 + 0 ≤ _)⟩)
  dsimp only [Pt.U, Pt.locs, Pt.cells, Pt.slots] at X1 l1 y1 z1 st1 hQ1
  subst l1 y1 z1
  obtain ⟨rfl, Nq1, eq1⟩ := hQ1
  refine OwnGoes.tr (T' := T1) (g' := (mkF m 4 #[vR se, vR kk, vR ww, vR oo] [])) st1 ?_
  have N1 := Fr.app N0 Nq1
  refine og T1 m 6 #[vR se, vR kk, vR ww, vR oo] [(.ref kk), (.ref se)] (fun tgt kgo => ?_) ?_
  · refine XS.aloadN X1.here hx rfl (hb hby d28_4) rfl rfl ?_
    show OwnG p e below T1 m 5 #[vR se, vR kk, vR ww, vR oo] [(.ref se)] tgt
    refine XS.aloadN X1.here hx rfl (hb hby d28_5) rfl rfl ?_
    exact kgo
  obtain ⟨T2, h2, X2, e2, W2, st2⟩ := putF X1 hx hZ hown (host := "") (Or.inl (own_w hw 63 rfl)) Via.refl eq1 f1 f0 (Or.inr ⟨(own_w hw 64 rfl), rfl, hnm⟩) (own_w hw 52 rfl) (ty := (.object "java/lang/String")) (by decide) rfl rfl (g := (mkF m 6 #[vR se, vR kk, vR ww, vR oo] [(.ref kk), (.ref se)])) rfl rfl (hb hby d28_6)
  refine og T2 m 9 #[vR se, vR kk, vR ww, vR oo] [] st2 ?_
  have Fw2 := f1.same W2
  have F2_1 := f0.wr W2
  have F2_2 := f2.other W2 (Or.inr (slot_ne (Or.inr (own_w hw 66 rfl)) (Or.inr (own_w hw 64 rfl)) (by decide) (t := (.object "java/lang/String")) (t' := (.object "java/lang/String")) (by decide) (by decide)))
  have F2_3 := f3.other W2 (Or.inr (slot_ne (Or.inr (own_w hw 68 rfl)) (Or.inr (own_w hw 64 rfl)) (by decide) (t := (.object "java/lang/String")) (t' := (.object "java/lang/String")) (by decide) (by decide)))
  have Ol2 := X00.wr W2 f4
  have K2 : Keep h0 h2 ([se] : List Addr) := K0.wr W2 (Or.inl (List.mem_of_getElem? (i := 0) rfl))
  have N2 := Fr.snoc X2 N1 f4
  refine og T2 m 11 #[vR se, vR kk, vR ww, vR oo] [(.ref ww), (.ref se)] (fun tgt kgo => ?_) ?_
  · refine XS.aloadN X2.here hx rfl (hb hby d28_9) rfl rfl ?_
    show OwnG p e below T2 m 10 #[vR se, vR kk, vR ww, vR oo] [(.ref se)] tgt
    refine XS.aloadN X2.here hx rfl (hb hby d28_10) rfl rfl ?_
    exact kgo
  obtain ⟨T3, h3, X3, e3, W3, st3⟩ := putF X2 hx hZ hown (host := "") (Or.inl (own_w hw 65 rfl)) Via.refl e2 F2_2 F2_1 (Or.inr ⟨(own_w hw 66 rfl), rfl, hnm⟩) (own_w hw 52 rfl) (ty := (.object "java/lang/String")) (by decide) rfl rfl (g := (mkF m 11 #[vR se, vR kk, vR ww, vR oo] [(.ref ww), (.ref se)])) rfl rfl (hb hby d28_11)
  refine og T3 m 14 #[vR se, vR kk, vR ww, vR oo] [] st3 ?_
  have Fw3 := F2_2.same W3
  have F3_4 := F2_1.wr W3
  have F3_5 := Fw2.other W3 (Or.inr (slot_ne (Or.inr (own_w hw 64 rfl)) (Or.inr (own_w hw 66 rfl)) (by decide) (t := (.object "java/lang/String")) (t' := (.object "java/lang/String")) (by decide) (by decide)))
  have F3_6 := F2_3.other W3 (Or.inr (slot_ne (Or.inr (own_w hw 68 rfl)) (Or.inr (own_w hw 66 rfl)) (by decide) (t := (.object "java/lang/String")) (t' := (.object "java/lang/String")) (by decide) (by decide)))
  have Ol3 := Ol2.wr W3 f4
  have K3 : Keep h0 h3 ([se] : List Addr) := K2.wr W3 (Or.inl (List.mem_of_getElem? (i := 0) rfl))
  have N3 := Fr.snoc X3 N2 f4
  refine og T3 m 16 #[vR se, vR kk, vR ww, vR oo] [(.ref oo), (.ref se)] (fun tgt kgo => ?_) ?_
  · refine XS.aloadN X3.here hx rfl (hb hby d28_14) rfl rfl ?_
    show OwnG p e below T3 m 15 #[vR se, vR kk, vR ww, vR oo] [(.ref se)] tgt
    refine XS.aloadN X3.here hx rfl (hb hby d28_15) rfl rfl ?_
    exact kgo
  obtain ⟨T4, h4, X4, e4, W4, st4⟩ := putF X3 hx hZ hown (host := "") (Or.inl (own_w hw 67 rfl)) Via.refl e3 F3_6 F3_4 (Or.inr ⟨(own_w hw 68 rfl), rfl, hnm⟩) (own_w hw 52 rfl) (ty := (.object "java/lang/String")) (by decide) rfl rfl (g := (mkF m 16 #[vR se, vR kk, vR ww, vR oo] [(.ref oo), (.ref se)])) rfl rfl (hb hby d28_16)
  refine og T4 m 19 #[vR se, vR kk, vR ww, vR oo] [] st4 ?_
  have Fw4 := F3_6.same W4
  have F4_7 := F3_4.wr W4
  have F4_8 := F3_5.other W4 (Or.inr (slot_ne (Or.inr (own_w hw 64 rfl)) (Or.inr (own_w hw 68 rfl)) (by decide) (t := (.object "java/lang/String")) (t' := (.object "java/lang/String")) (by decide) (by decide)))
  have F4_9 := Fw3.other W4 (Or.inr (slot_ne (Or.inr (own_w hw 66 rfl)) (Or.inr (own_w hw 68 rfl)) (by decide) (t := (.object "java/lang/String")) (t' := (.object "java/lang/String")) (by decide) (by decide)))
  have Ol4 := Ol3.wr W4 f4
  have K4 : Keep h0 h4 ([se] : List Addr) := K3.wr W4 (Or.inl (List.mem_of_getElem? (i := 0) rfl))
  have N4 := Fr.snoc X4 N3 f4
  refine own_leave X4 hlk (v := none) (fun _ => rfl) (fun fs hr => X4.returnOut hx Bd.returns (hb hby d28_19) hr) (by decide) (by decide) ?_
  show Q_seti Z se kk ww oo h0 n0 _ T4.heap _
  rw [e4]
  exact ⟨rfl, N4, K4, F4_7, F4_8, Fw4⟩
theorem ef_kao (m : MethodId) (x0 : Addr) : entryFrame m #[(.ref x0)] 1 = mkF m 0 #[vR x0] [] := by
  first | (simp [entryFrame, mkF, argsToLocals, Value.category]; done) | rfl
def Q_kao (Z : State) (se : Addr) (kk : Addr) (tk : Addr) (kk1 : ClassId) (nk : Int32) (vk : List Value) (oo : Addr) (to : Addr) (ko1 : ClassId) (no : Int32) (vo : List Value) (csk : List Int32) (cso : List Int32) (h0 : Heap) (n0 : Nat) (v : Option Value) (h : Heap) (L : List Loc) : Prop := ∃ (x : Addr), ∃ (t : Addr), ∃ (k : ClassId), ∃ (N : Int32), ∃ (vs : List Value), v = some (.ref x) ∧ Fr n0 L ∧ Keep h0 h ([] : List Addr) ∧ Exa Z h x "java/lang/String" ∧ Fld Z h x "java/lang/String" "value" "[B" (.ref t) ∧ Fld Z h x "java/lang/String" "coder" "B" (.int 0) ∧ Arv Z h t k .byte N vs (.int 0) ∧ (OwnStr (OwnR csk cso) (0 : Int32) N vs)
theorem d29_0 : decode prog_28_method_3_code 0 = .ok (.new 19, 3) := by decide +kernel
theorem d29_3 : decode prog_28_method_3_code 3 = .ok (.dup, 1) := by decide +kernel
theorem d29_4 : decode prog_28_method_3_code 4 = .ok (.invokespecial 21, 3) := by decide +kernel
theorem d29_7 : decode prog_28_method_3_code 7 = .ok (.aload_n 0, 1) := by decide +kernel
theorem d29_8 : decode prog_28_method_3_code 8 = .ok (.getfield 7, 3) := by decide +kernel
theorem d29_11 : decode prog_28_method_3_code 11 = .ok (.invokevirtual 28, 3) := by decide +kernel
theorem pd_42687001 : parseMethodDescriptor "(Ljava/lang/String;)Ljava/lang/StringBuilder;" = some ⟨[(.object "java/lang/String")], some (.object "java/lang/StringBuilder")⟩ := by decide +kernel
theorem d29_14 : decode prog_28_method_3_code 14 = .ok (.ldc 38, 2) := by decide +kernel
theorem d29_16 : decode prog_28_method_3_code 16 = .ok (.invokevirtual 28, 3) := by decide +kernel
theorem d29_19 : decode prog_28_method_3_code 19 = .ok (.aload_n 0, 1) := by decide +kernel
theorem d29_20 : decode prog_28_method_3_code 20 = .ok (.getfield 16, 3) := by decide +kernel
theorem d29_23 : decode prog_28_method_3_code 23 = .ok (.invokevirtual 28, 3) := by decide +kernel
theorem d29_26 : decode prog_28_method_3_code 26 = .ok (.ldc 40, 2) := by decide +kernel
theorem d29_28 : decode prog_28_method_3_code 28 = .ok (.invokevirtual 28, 3) := by decide +kernel
theorem d29_31 : decode prog_28_method_3_code 31 = .ok (.invokevirtual 34, 3) := by decide +kernel
theorem pd_24953479 : parseMethodDescriptor "()Ljava/lang/String;" = some ⟨[], some (.object "java/lang/String")⟩ := by decide +kernel
theorem d29_34 : decode prog_28_method_3_code 34 = .ok (.areturn, 1) := by decide +kernel
set_option maxRecDepth 65536 in
set_option maxHeartbeats 40000000 in
theorem rm_kao (l : Launch) (Z : State) (a0 : Array Value) (hw : ∀ d ∈ tables_1, d.before a0 Z = true) (ws : List Jvm.Cond) (wG1 : Int32) (wG3 : Value) (cx : OwnCx Z a0 wG1 wG3) (hEL : EW Z a0 consts_1) (h0 : Heap) (n0 : Nat) (X00 : Old Z n0 h0) (se : Addr) (kk : Addr) (tk : Addr) (kk1 : ClassId) (nk : Int32) (vk : List Value) (oo : Addr) (to : Addr) (ko1 : ClassId) (no : Int32) (vo : List Value) (csk : List Int32) (cso : List Int32) (f0 : Exa Z h0 se "com/example/kindling/kindling/config/Setting") (f1 : Fld Z h0 se "com/example/kindling/kindling/config/Setting" "key" "Ljava/lang/String;" (.ref kk)) (f2 : Fld Z h0 se "com/example/kindling/kindling/config/Setting" "origin" "Ljava/lang/String;" (.ref oo)) (f3 : Exa Z h0 kk "java/lang/String") (f4 : Fld Z h0 kk "java/lang/String" "value" "[B" (.ref tk)) (f5 : Fld Z h0 kk "java/lang/String" "coder" "B" (.int 0)) (f6 : Arv Z h0 tk kk1 .byte nk vk (.int 0)) (f7 : Exa Z h0 oo "java/lang/String") (f8 : Fld Z h0 oo "java/lang/String" "value" "[B" (.ref to)) (f9 : Fld Z h0 oo "java/lang/String" "coder" "B" (.int 0)) (f10 : Arv Z h0 to ko1 .byte no vo (.int 0)) (hok : OwnStr csk (0 : Int32) nk vk) (hoo : OwnStr cso (0 : Int32) no vo) (hlk2 : csk.length ≤ 2) (hlo2 : cso.length ≤ 2) :
    MetFree l mN29 (head1 (Jvm.Cond.code mN29 prog_28_method_3_code 1 (some (.object "java/lang/String")) :: ws) (oR 6 8 60 91)) (fun a U => a = #[(.ref se)] ∧ Z.Warmed39 U.vm ∧ U.heap = h0 ∧ CHv Z consts_1 U.vm h0) (fun _ _ _ _ _ => True) (fun _ U o U' => ∃ v L, o = .returned v ∧ Q_kao Z se kk tk kk1 nk vk oo to ko1 no vo csk cso h0 n0 v U'.heap L ∧ CHr Z consts_1 U.vm U.heap U'.vm U'.heap ∧ ReturnedEndW U o U' L (oR 6 8 60 91).cells (oR 6 8 60 91).slots) := by
  refine MetFree.of_bodySF (plainFor_of_name pn_36660154) hisR ?_
  intro p e s m args below meth c s₁ Bd hml0 hP hK
  obtain ⟨rfl, hZ, hh, hH⟩ := hP
  obtain ⟨wO2, wP5, wO4, wrG3, hstr⟩ := id cx
  have hx := Bd.exec
  have hby := Bd.bytes
  have hlk := Bd.notSynchronized
  have hml : c.maxLocals = 1 := hml0
  have hown : s.vm.findClass "com/example/kindling/kindling/config/Setting" = some m.cls := findClass_of_methodNamed Bd.named
  have hnm := (name_of_methodNamed Bd.named Bd.method).1
  have X0 : Stand p l e (oR 6 8 60 91) (s.setVm s.vm) m #[(.ref se)] below meth c s₁ [] 0 0 := Stand.of_body Bd
  have e0 : s₁.heap = h0 := by rw [← hh, Bd.state]; rfl
  have N0 := Fr.nil n0
  have Z0 : n0 ≤ h0.size := X00.1 ▸ X00.2.1
  have K0 : Keep h0 h0 ([] : List Addr) := Keep.refl _ _
  have R0 : CHr Z consts_1 s.vm h0 s.vm h0 := CHr.refl hH
  have hS0 : s.Since s.vm h0.size := State.WarmedH.since (State.WarmedH.refl s) _
  have hk0 : h0.size ≤ h0.size := Nat.le_refl _
  show OwnGoes p e below _ s₁ (entryFrame m _ _)
  refine og s₁ m 0 #[vR se] [] (fun tgt kgo => castTop (ef_kao m se) kgo) ?_
  obtain ⟨T1, h1, X1, e1, E1, A1, D1, U1, st1⟩ := newO X0 hx hZ hown (own_w hw 74 rfl) (own_w hw 75 rfl) (own_w hw 76 rfl) e0 (g := (mkF m 0 #[vR se] [])) rfl (hb hby d29_0) (by decide) (by decide)
  obtain ⟨b1, g1⟩ : ∃ z, z = h0.size := ⟨_, rfl⟩
  rw [← g1] at A1 D1 U1 st1
  refine og T1 m 3 #[vR se] [(.ref b1)] st1 ?_
  have ne_se_b1 : se ≠ b1 := Nat.ne_of_lt (Nat.lt_of_lt_of_le f0.lt (Nat.le_of_eq g1.symm))
  have ne_kk_b1 : kk ≠ b1 := Nat.ne_of_lt (Nat.lt_of_lt_of_le f3.lt (Nat.le_of_eq g1.symm))
  have ne_tk_b1 : tk ≠ b1 := Nat.ne_of_lt (Nat.lt_of_lt_of_le f6.lt (Nat.le_of_eq g1.symm))
  have ne_oo_b1 : oo ≠ b1 := Nat.ne_of_lt (Nat.lt_of_lt_of_le f7.lt (Nat.le_of_eq g1.symm))
  have ne_to_b1 : to ≠ b1 := Nat.ne_of_lt (Nat.lt_of_lt_of_le f10.lt (Nat.le_of_eq g1.symm))
  have g_b1 : n0 ≤ b1 := Nat.le_trans (Nat.le_trans Z0 K0.1) (Nat.le_of_eq g1.symm)
  have s_b1 : h0.size ≤ b1 := Nat.le_trans K0.1 (Nat.le_of_eq g1.symm)
  have Sf1 : Safe Z consts_1 s.vm h1 b1 := Safe.ext E1 R0.1 (Safe.new (Nat.le_of_eq g1.symm))
  have F1_1 := f0.ext E1
  have F1_2 := f1.ext E1
  have F1_3 := f2.ext E1
  have F1_4 := f3.ext E1
  have F1_5 := f4.ext E1
  have F1_6 := f5.ext E1
  have F1_7 := f6.ext E1
  have F1_8 := f7.ext E1
  have F1_9 := f8.ext E1
  have F1_10 := f9.ext E1
  have F1_11 := f10.ext E1
  have Ol1 := X00.ext E1
  have K1 : Keep h0 h1 ([] : List Addr) := K0.ext E1
  have R1 := R0.trans (CHr.ext E1 R0.1)
  have hk1 := Nat.le_trans hk0 E1.1
  have F1_12 : Fld Z h1 b1 "java/lang/AbstractStringBuilder" "value" "[B" .null := D1 (Or.inl (own_w hw 89 rfl)) (ty := (.array .byte)) (by decide)
  have F1_13 : Fld Z h1 b1 "java/lang/AbstractStringBuilder" "coder" "B" (.int 0) := D1 (Or.inl (own_w hw 91 rfl)) (ty := .byte) (by decide)
  have F1_14 : Fld Z h1 b1 "java/lang/AbstractStringBuilder" "count" "I" (.int 0) := D1 (Or.inl (own_w hw 113 rfl)) (ty := .int) (by decide)
  refine og T1 m 4 #[vR se] [(.ref b1), (.ref b1)] (fun tgt kgo => ?_) ?_
  · refine XS.dup X1.here hx rfl (hb hby d29_3) rfl rfl ?_
    exact kgo
  obtain ⟨_, _, ⟨T2, L2, k2, n2⟩, -, X2, ⟨Lc2, hQ2, l2, y2, z2⟩, st2⟩ := X1.specialBack hx (y := mN9) rfl hown (mvT hZ (own_w hw 77 rfl)) (mvT hZ (own_w hw 78 rfl)) (mvT hZ (own_w hw 79 rfl)) (by decide) (backOf (W := 1) (rm_sbi l Z a0 hw [] wG1 wG3 cx hEL h1 n0 Ol1 b1 A1 F1_12 F1_13 F1_14 g_b1) hZ (own_w hw 79 rfl) (own_w hw 76 rfl) (by decide) (by decide)) (g := (mkF m 4 #[vR se] [(.ref b1), (.ref b1)])) rfl (by rw [hml]; rfl) (Steps.refl _) (a := b1) (argsL := []) (rest := [(.ref b1)]) (lenOf pd_57008992 rfl) rfl (Nat.le_of_eq rfl) (hb hby d29_4) (fun _ _ => ⟨rfl, e1, (by decide : 1 + 1 ≤ _), (by decide : 4 + 16 ≤ _)⟩)
  dsimp only [Pt.U, Pt.locs, Pt.cells, Pt.slots] at X2 l2 y2 z2 st2 hQ2
  subst l2 y2 z2
  obtain ⟨vv_2, k_2, rfl, Nq2, Kq2, zq2_0, fq2_0, fq2_1, fq2_2, fq2_3, fq2_4⟩ := hQ2
  refine OwnGoes.tr (T' := T2) (g' := (mkF m 7 #[vR se] [(.ref b1)])) st2 ?_
  have N2 := Fr.app N0 Nq2
  have ne_se_vv_2 : se ≠ vv_2 := Nat.ne_of_lt (Nat.lt_of_lt_of_le F1_1.lt zq2_0)
  have ne_kk_vv_2 : kk ≠ vv_2 := Nat.ne_of_lt (Nat.lt_of_lt_of_le F1_4.lt zq2_0)
  have ne_tk_vv_2 : tk ≠ vv_2 := Nat.ne_of_lt (Nat.lt_of_lt_of_le F1_7.lt zq2_0)
  have ne_oo_vv_2 : oo ≠ vv_2 := Nat.ne_of_lt (Nat.lt_of_lt_of_le F1_8.lt zq2_0)
  have ne_to_vv_2 : to ≠ vv_2 := Nat.ne_of_lt (Nat.lt_of_lt_of_le F1_11.lt zq2_0)
  have ne_b1_vv_2 : b1 ≠ vv_2 := Nat.ne_of_lt (Nat.lt_of_lt_of_le A1.lt zq2_0)
  have g_vv_2 : n0 ≤ vv_2 := Nat.le_trans (Nat.le_trans Z0 K1.1) zq2_0
  have s_vv_2 : h0.size ≤ vv_2 := Nat.le_trans K1.1 zq2_0
  have Sn2_0 : Safe Z consts_1 s.vm T2.heap vv_2 := Safe.keep Kq2 (sfS Sf1 sf0) R1.1 (Safe.new zq2_0)
  have F2_15 := F1_1.keep Kq2
  have F2_16 := F1_2.keep Kq2 (ninS ne_se_b1 nin0)
  have F2_17 := F1_3.keep Kq2 (ninS ne_se_b1 nin0)
  have F2_18 := F1_4.keep Kq2
  have F2_19 := F1_5.keep Kq2 (ninS ne_kk_b1 nin0)
  have F2_20 := F1_6.keep Kq2 (ninS ne_kk_b1 nin0)
  have F2_21 := F1_7.keep Kq2 (ninS ne_tk_b1 nin0)
  have F2_22 := F1_8.keep Kq2
  have F2_23 := F1_9.keep Kq2 (ninS ne_oo_b1 nin0)
  have F2_24 := F1_10.keep Kq2 (ninS ne_oo_b1 nin0)
  have F2_25 := F1_11.keep Kq2 (ninS ne_to_b1 nin0)
  have F2_26 := Safe.keep Kq2 (sfS Sf1 sf0) R1.1 Sf1
  have F2_27 := A1.keep Kq2
  have Ol2 := Ol1.keep Kq2 (allS g_b1 all0)
  have K2 : Keep h0 T2.heap ([] : List Addr) := K1.trans Kq2 (allS (Or.inr s_b1) all0)
  have R2 := R1.trans (CHr.keep Kq2 (sfS Sf1 sf0) R1.1)
  have hk2 := Nat.le_trans hk1 Kq2.1
  refine og T2 m 8 #[vR se] [(.ref se), (.ref b1)] (fun tgt kgo => ?_) ?_
  · refine XS.aloadN X2.here hx rfl (hb hby d29_7) rfl rfl ?_
    exact kgo
  obtain ⟨T3, X3, e3, st3⟩ := getF X2 hx hZ hown (host := "") (Or.inl (own_w hw 63 rfl)) Via.refl rfl F2_16 (g := (mkF m 8 #[vR se] [(.ref se), (.ref b1)])) rfl rfl (hb hby d29_8)
  refine og T3 m 11 #[vR se] [(.ref kk), (.ref b1)] st3 ?_
  have hB0 : OwnB [] (0 : Int32) [(.int 0), (.int 0), (.int 0), (.int 0), (.int 0), (.int 0), (.int 0), (.int 0), (.int 0), (.int 0), (.int 0), (.int 0), (.int 0), (.int 0), (.int 0), (.int 0)] := own_b0
  obtain ⟨cq4, kq4, q4a, q4b, q4c⟩ := isOf (s := (s.setVm s.vm)) hZ e3 fq2_0
  obtain ⟨_, _, ⟨T4, L4, k4, n4⟩, -, X4, ⟨Lc4, hQ4, l4, y4, z4⟩, st4⟩ := X3.virtualBack hx (y := mN15) (z := mN15) hown (mvT hZ (own_w hw 92 rfl)) (mvT hZ (own_w hw 93 rfl)) (notFace_of_selects (args := #[]) (mvT hZ (own_w hw 95 rfl))) (mvT hZ (own_w hw 95 rfl)) (mvT hZ (own_w hw 94 rfl)) (by decide) (backOf (W := 0) (rm_sapp l Z a0 hw [] wG1 wG3 cx hEL T2.heap n0 Ol2 b1 vv_2 k_2 (0 : Int32) [(.int 0), (.int 0), (.int 0), (.int 0), (.int 0), (.int 0), (.int 0), (.int 0), (.int 0), (.int 0), (.int 0), (.int 0), (.int 0), (.int 0), (.int 0), (.int 0)] kk tk kk1 nk vk [] csk fq2_0 fq2_1 fq2_2 fq2_3 fq2_4 F2_18 F2_19 F2_20 F2_21 g_b1 g_vv_2 ne_tk_vv_2 hB0 hok (by simp only [List.length_append, List.length_cons, List.length_nil]; omega)) hZ (own_w hw 96 rfl) (own_w hw 76 rfl) (by decide) (by decide)) q4a q4c (g := (mkF m 11 #[vR se] [(.ref kk), (.ref b1)])) rfl (by rw [hml]; rfl) (Steps.refl _) (argsL := [(.ref kk)]) (rest := []) (lenOf pd_42687001 rfl) rfl (Nat.le_of_eq rfl) (hb hby d29_11) (fun _ _ => ⟨rfl, e3, (by decide : 2 + 0 ≤ _), (by decide : 20 + 0 ≤ _)⟩)
  dsimp only [Pt.U, Pt.locs, Pt.cells, Pt.slots] at X4 l4 y4 z4 st4 hQ4
  subst l4 y4 z4
  obtain ⟨vs_4, rfl, Nq4, Kq4, fq4_0, fq4_1, fq4_2, fq4_3, fq4_4, pq4_0⟩ := hQ4
  refine OwnGoes.tr (T' := T4) (g' := (mkF m 14 #[vR se] [(.ref b1)])) st4 ?_
  have N4 := Fr.app N2 Nq4
  have F4_28 := F2_15.keep Kq4
  have F4_29 := F2_16.keep Kq4 (ninS ne_se_b1 (ninS ne_se_vv_2 nin0))
  have F4_30 := F2_17.keep Kq4 (ninS ne_se_b1 (ninS ne_se_vv_2 nin0))
  have F4_31 := F2_18.keep Kq4
  have F4_32 := F2_19.keep Kq4 (ninS ne_kk_b1 (ninS ne_kk_vv_2 nin0))
  have F4_33 := F2_20.keep Kq4 (ninS ne_kk_b1 (ninS ne_kk_vv_2 nin0))
  have F4_34 := F2_21.keep Kq4 (ninS ne_tk_b1 (ninS ne_tk_vv_2 nin0))
  have F4_35 := F2_22.keep Kq4
  have F4_36 := F2_23.keep Kq4 (ninS ne_oo_b1 (ninS ne_oo_vv_2 nin0))
  have F4_37 := F2_24.keep Kq4 (ninS ne_oo_b1 (ninS ne_oo_vv_2 nin0))
  have F4_38 := F2_25.keep Kq4 (ninS ne_to_b1 (ninS ne_to_vv_2 nin0))
  have F4_39 := Safe.keep Kq4 (sfS F2_26 (sfS Sn2_0 sf0)) R2.1 F2_26
  have F4_40 := fq2_0.keep Kq4
  have F4_41 := Safe.keep Kq4 (sfS F2_26 (sfS Sn2_0 sf0)) R2.1 Sn2_0
  have Ol4 := Ol2.keep Kq4 (allS g_b1 (allS g_vv_2 all0))
  have K4 : Keep h0 T4.heap ([] : List Addr) := K2.trans Kq4 (allS (Or.inr s_b1) (allS (Or.inr s_vv_2) all0))
  have R4 := R2.trans (CHr.keep Kq4 (sfS F2_26 (sfS Sn2_0 sf0)) R2.1)
  have hk4 := Nat.le_trans hk2 Kq4.1
  obtain ⟨b5, T5, h5, kk5, t5, k5, X5, e5, E5, hS5, hk5, hZ5, ho5, A5, Fc5, Fv5, V5, lt5, lu5, Rc5, Lt5, ns5, st5⟩ := ldcCH X4 hx hZ hown (own_w hw 139 rfl) hstr rfl hS0 hk4 hEL (by decide) R4.1 (vs := ((([32, 40] : List Int32).map (fun c => c.toInt8.toInt32)).map Value.int)) (z := (2 : Int32)) (by decide +kernel) (by decide) (by decide +kernel) (g := (mkF m 14 #[vR se] [(.ref b1)])) rfl (hb hby d29_14) (n := 8) (by decide) (by decide) (by decide) (by decide)
  refine og T5 m 16 #[vR se] [(.ref b5), (.ref b1)] st5 ?_
  have F5_42 := F4_28.ext E5
  have F5_43 := F4_29.ext E5
  have F5_44 := F4_30.ext E5
  have F5_45 := F4_31.ext E5
  have F5_46 := F4_32.ext E5
  have F5_47 := F4_33.ext E5
  have F5_48 := F4_34.ext E5
  have F5_49 := F4_35.ext E5
  have F5_50 := F4_36.ext E5
  have F5_51 := F4_37.ext E5
  have F5_52 := F4_38.ext E5
  have F5_53 := Rc5.safe fq4_0.lt F4_39
  have F5_54 := fq4_0.ext E5
  have F5_55 := Rc5.safe fq4_4.lt F4_41
  have F5_56 := fq4_1.ext E5
  have F5_57 := fq4_2.ext E5
  have F5_58 := fq4_3.ext E5
  have F5_59 := fq4_4.ext E5
  have Ol5 := Ol4.ext E5
  have K5 : Keep h0 h5 ([] : List Addr) := K4.ext E5
  have R5 := R4.trans Rc5
  have nl5_b1 := ns5 _ F5_53
  have nl5_vv_2 := ns5 _ F5_55
  have hos5 : OwnStr ([32, 40] : List Int32) (0 : Int32) (2 : Int32) ((([32, 40] : List Int32).map (fun c => c.toInt8.toInt32)).map Value.int) := own_str_lat (n := 2) rfl (by decide) (by decide +kernel)
  obtain ⟨cq6, kq6, q6a, q6b, q6c⟩ := isOf (s := (s.setVm T5.vm)) hZ5 e5 F5_54
  obtain ⟨_, _, ⟨T6, L6, k6, n6⟩, -, X6, ⟨Lc6, hQ6, l6, y6, z6⟩, st6⟩ := X5.virtualBack hx (y := mN15) (z := mN15) ho5 (mvT hZ5 (own_w hw 92 rfl)) (mvT hZ5 (own_w hw 93 rfl)) (notFace_of_selects (args := #[]) (mvT hZ5 (own_w hw 95 rfl))) (mvT hZ5 (own_w hw 95 rfl)) (mvT hZ5 (own_w hw 94 rfl)) (by decide) (backOf (W := 0) (rm_sapp l Z a0 hw [] wG1 wG3 cx hEL h5 n0 Ol5 b1 vv_2 k_2 ((0 : Int32) + nk) vs_4 b5 t5 k5 (2 : Int32) ((([32, 40] : List Int32).map (fun c => c.toInt8.toInt32)).map Value.int) ([] ++ csk) ([32, 40] : List Int32) F5_54 F5_56 F5_57 F5_58 F5_59 A5 Fv5 Fc5 V5 g_b1 g_vv_2 (Ne.symm nl5_vv_2.2) pq4_0 hos5 (by simp only [List.length_append, List.length_cons, List.length_nil]; omega)) hZ5 (own_w hw 96 rfl) (own_w hw 76 rfl) (by decide) (by decide)) q6a q6c (g := (mkF m 16 #[vR se] [(.ref b5), (.ref b1)])) rfl (by rw [hml]; rfl) (Steps.refl _) (argsL := [(.ref b5)]) (rest := []) (lenOf pd_42687001 rfl) rfl (Nat.le_of_eq rfl) (hb hby d29_16) (fun _ _ => ⟨rfl, e5, (by decide : 4 + 0 ≤ _), (by decide : 32 + 0 ≤ _)⟩)
  dsimp only [Pt.U, Pt.locs, Pt.cells, Pt.slots] at X6 l6 y6 z6 st6 hQ6
  subst l6 y6 z6
  obtain ⟨vs_6, rfl, Nq6, Kq6, fq6_0, fq6_1, fq6_2, fq6_3, fq6_4, pq6_0⟩ := hQ6
  refine OwnGoes.tr (T' := T6) (g' := (mkF m 19 #[vR se] [(.ref b1)])) st6 ?_
  have N6 := Fr.app N4 Nq6
  have F6_60 := F5_42.keep Kq6
  have F6_61 := F5_43.keep Kq6 (ninS ne_se_b1 (ninS ne_se_vv_2 nin0))
  have F6_62 := F5_44.keep Kq6 (ninS ne_se_b1 (ninS ne_se_vv_2 nin0))
  have F6_63 := F5_45.keep Kq6
  have F6_64 := F5_46.keep Kq6 (ninS ne_kk_b1 (ninS ne_kk_vv_2 nin0))
  have F6_65 := F5_47.keep Kq6 (ninS ne_kk_b1 (ninS ne_kk_vv_2 nin0))
  have F6_66 := F5_48.keep Kq6 (ninS ne_tk_b1 (ninS ne_tk_vv_2 nin0))
  have F6_67 := F5_49.keep Kq6
  have F6_68 := F5_50.keep Kq6 (ninS ne_oo_b1 (ninS ne_oo_vv_2 nin0))
  have F6_69 := F5_51.keep Kq6 (ninS ne_oo_b1 (ninS ne_oo_vv_2 nin0))
  have F6_70 := F5_52.keep Kq6 (ninS ne_to_b1 (ninS ne_to_vv_2 nin0))
  have F6_71 := Safe.keep Kq6 (sfS F5_53 (sfS F5_55 sf0)) R5.1 F5_53
  have F6_72 := F5_54.keep Kq6
  have F6_73 := Safe.keep Kq6 (sfS F5_53 (sfS F5_55 sf0)) R5.1 F5_55
  have F6_74 := A5.keep Kq6
  have F6_75 := Fc5.keep Kq6 (ninS (Ne.symm nl5_b1.1) (ninS (Ne.symm nl5_vv_2.1) nin0))
  have F6_76 := Fv5.keep Kq6 (ninS (Ne.symm nl5_b1.1) (ninS (Ne.symm nl5_vv_2.1) nin0))
  have F6_77 := V5.keep Kq6 (ninS (Ne.symm nl5_b1.2) (ninS (Ne.symm nl5_vv_2.2) nin0))
  have Ol6 := Ol5.keep Kq6 (allS g_b1 (allS g_vv_2 all0))
  have K6 : Keep h0 T6.heap ([] : List Addr) := K5.trans Kq6 (allS (Or.inr s_b1) (allS (Or.inr s_vv_2) all0))
  have R6 := R5.trans (CHr.keep Kq6 (sfS F5_53 (sfS F5_55 sf0)) R5.1)
  have hk6 := Nat.le_trans hk5 Kq6.1
  refine og T6 m 20 #[vR se] [(.ref se), (.ref b1)] (fun tgt kgo => ?_) ?_
  · refine XS.aloadN X6.here hx rfl (hb hby d29_19) rfl rfl ?_
    exact kgo
  obtain ⟨T7, X7, e7, st7⟩ := getF X6 hx hZ5 ho5 (host := "") (Or.inl (own_w hw 67 rfl)) Via.refl rfl F6_62 (g := (mkF m 20 #[vR se] [(.ref se), (.ref b1)])) rfl rfl (hb hby d29_20)
  refine og T7 m 23 #[vR se] [(.ref oo), (.ref b1)] st7 ?_
  obtain ⟨cq8, kq8, q8a, q8b, q8c⟩ := isOf (s := (s.setVm T5.vm)) hZ5 e7 fq6_0
  obtain ⟨_, _, ⟨T8, L8, k8, n8⟩, -, X8, ⟨Lc8, hQ8, l8, y8, z8⟩, st8⟩ := X7.virtualBack hx (y := mN15) (z := mN15) ho5 (mvT hZ5 (own_w hw 92 rfl)) (mvT hZ5 (own_w hw 93 rfl)) (notFace_of_selects (args := #[]) (mvT hZ5 (own_w hw 95 rfl))) (mvT hZ5 (own_w hw 95 rfl)) (mvT hZ5 (own_w hw 94 rfl)) (by decide) (backOf (W := 0) (rm_sapp l Z a0 hw [] wG1 wG3 cx hEL T6.heap n0 Ol6 b1 vv_2 k_2 (((0 : Int32) + nk) + (2 : Int32)) vs_6 oo to ko1 no vo (([] ++ csk) ++ ([32, 40] : List Int32)) cso fq6_0 fq6_1 fq6_2 fq6_3 fq6_4 F6_67 F6_68 F6_69 F6_70 g_b1 g_vv_2 ne_to_vv_2 pq6_0 hoo (by simp only [List.length_append, List.length_cons, List.length_nil]; omega)) hZ5 (own_w hw 96 rfl) (own_w hw 76 rfl) (by decide) (by decide)) q8a q8c (g := (mkF m 23 #[vR se] [(.ref oo), (.ref b1)])) rfl (by rw [hml]; rfl) (Steps.refl _) (argsL := [(.ref oo)]) (rest := []) (lenOf pd_42687001 rfl) rfl (Nat.le_of_eq rfl) (hb hby d29_23) (fun _ _ => ⟨rfl, e7, (by decide : 4 + 0 ≤ _), (by decide : 32 + 0 ≤ _)⟩)
  dsimp only [Pt.U, Pt.locs, Pt.cells, Pt.slots] at X8 l8 y8 z8 st8 hQ8
  subst l8 y8 z8
  obtain ⟨vs_8, rfl, Nq8, Kq8, fq8_0, fq8_1, fq8_2, fq8_3, fq8_4, pq8_0⟩ := hQ8
  refine OwnGoes.tr (T' := T8) (g' := (mkF m 26 #[vR se] [(.ref b1)])) st8 ?_
  have N8 := Fr.app N6 Nq8
  have F8_78 := F6_60.keep Kq8
  have F8_79 := F6_61.keep Kq8 (ninS ne_se_b1 (ninS ne_se_vv_2 nin0))
  have F8_80 := F6_62.keep Kq8 (ninS ne_se_b1 (ninS ne_se_vv_2 nin0))
  have F8_81 := F6_63.keep Kq8
  have F8_82 := F6_64.keep Kq8 (ninS ne_kk_b1 (ninS ne_kk_vv_2 nin0))
  have F8_83 := F6_65.keep Kq8 (ninS ne_kk_b1 (ninS ne_kk_vv_2 nin0))
  have F8_84 := F6_66.keep Kq8 (ninS ne_tk_b1 (ninS ne_tk_vv_2 nin0))
  have F8_85 := F6_67.keep Kq8
  have F8_86 := F6_68.keep Kq8 (ninS ne_oo_b1 (ninS ne_oo_vv_2 nin0))
  have F8_87 := F6_69.keep Kq8 (ninS ne_oo_b1 (ninS ne_oo_vv_2 nin0))
  have F8_88 := F6_70.keep Kq8 (ninS ne_to_b1 (ninS ne_to_vv_2 nin0))
  have F8_89 := Safe.keep Kq8 (sfS F6_71 (sfS F6_73 sf0)) R6.1 F6_71
  have F8_90 := fq6_0.keep Kq8
  have F8_91 := Safe.keep Kq8 (sfS F6_71 (sfS F6_73 sf0)) R6.1 F6_73
  have F8_92 := F6_74.keep Kq8
  have F8_93 := F6_75.keep Kq8 (ninS (Ne.symm nl5_b1.1) (ninS (Ne.symm nl5_vv_2.1) nin0))
  have F8_94 := F6_76.keep Kq8 (ninS (Ne.symm nl5_b1.1) (ninS (Ne.symm nl5_vv_2.1) nin0))
  have F8_95 := F6_77.keep Kq8 (ninS (Ne.symm nl5_b1.2) (ninS (Ne.symm nl5_vv_2.2) nin0))
  have Ol8 := Ol6.keep Kq8 (allS g_b1 (allS g_vv_2 all0))
  have K8 : Keep h0 T8.heap ([] : List Addr) := K6.trans Kq8 (allS (Or.inr s_b1) (allS (Or.inr s_vv_2) all0))
  have R8 := R6.trans (CHr.keep Kq8 (sfS F6_71 (sfS F6_73 sf0)) R6.1)
  have hk8 := Nat.le_trans hk6 Kq8.1
  obtain ⟨b9, T9, h9, kk9, t9, k9, X9, e9, E9, hS9, hk9, hZ9, ho9, A9, Fc9, Fv9, V9, lt9, lu9, Rc9, Lt9, ns9, st9⟩ := ldcCH X8 hx hZ5 ho5 (own_w hw 140 rfl) hstr rfl hS5 hk8 hEL (by decide) R8.1 (vs := ((([41] : List Int32).map (fun c => c.toInt8.toInt32)).map Value.int)) (z := (1 : Int32)) (by decide +kernel) (by decide) (by decide +kernel) (g := (mkF m 26 #[vR se] [(.ref b1)])) rfl (hb hby d29_26) (n := 4) (by decide) (by decide) (by decide) (by decide)
  refine og T9 m 28 #[vR se] [(.ref b9), (.ref b1)] st9 ?_
  have F9_96 := F8_78.ext E9
  have F9_97 := F8_79.ext E9
  have F9_98 := F8_80.ext E9
  have F9_99 := F8_81.ext E9
  have F9_100 := F8_82.ext E9
  have F9_101 := F8_83.ext E9
  have F9_102 := F8_84.ext E9
  have F9_103 := F8_85.ext E9
  have F9_104 := F8_86.ext E9
  have F9_105 := F8_87.ext E9
  have F9_106 := F8_88.ext E9
  have F9_107 := Rc9.safe fq8_0.lt F8_89
  have F9_108 := fq8_0.ext E9
  have F9_109 := Rc9.safe fq8_4.lt F8_91
  have F9_110 := F8_92.ext E9
  have F9_111 := F8_93.ext E9
  have F9_112 := F8_94.ext E9
  have F9_113 := F8_95.ext E9
  have F9_114 := fq8_1.ext E9
  have F9_115 := fq8_2.ext E9
  have F9_116 := fq8_3.ext E9
  have F9_117 := fq8_4.ext E9
  have Ol9 := Ol8.ext E9
  have K9 : Keep h0 h9 ([] : List Addr) := K8.ext E9
  have R9 := R8.trans Rc9
  have nl9_b1 := ns9 _ F9_107
  have nl9_vv_2 := ns9 _ F9_109
  have hos9 : OwnStr ([41] : List Int32) (0 : Int32) (1 : Int32) ((([41] : List Int32).map (fun c => c.toInt8.toInt32)).map Value.int) := own_str_lat (n := 1) rfl (by decide) (by decide +kernel)
  obtain ⟨cq10, kq10, q10a, q10b, q10c⟩ := isOf (s := (s.setVm T9.vm)) hZ9 e9 F9_108
  obtain ⟨_, _, ⟨T10, L10, k10, n10⟩, -, X10, ⟨Lc10, hQ10, l10, y10, z10⟩, st10⟩ := X9.virtualBack hx (y := mN15) (z := mN15) ho9 (mvT hZ9 (own_w hw 92 rfl)) (mvT hZ9 (own_w hw 93 rfl)) (notFace_of_selects (args := #[]) (mvT hZ9 (own_w hw 95 rfl))) (mvT hZ9 (own_w hw 95 rfl)) (mvT hZ9 (own_w hw 94 rfl)) (by decide) (backOf (W := 0) (rm_sapp l Z a0 hw [] wG1 wG3 cx hEL h9 n0 Ol9 b1 vv_2 k_2 ((((0 : Int32) + nk) + (2 : Int32)) + no) vs_8 b9 t9 k9 (1 : Int32) ((([41] : List Int32).map (fun c => c.toInt8.toInt32)).map Value.int) ((([] ++ csk) ++ ([32, 40] : List Int32)) ++ cso) ([41] : List Int32) F9_108 F9_114 F9_115 F9_116 F9_117 A9 Fv9 Fc9 V9 g_b1 g_vv_2 (Ne.symm nl9_vv_2.2) pq8_0 hos9 (by simp only [List.length_append, List.length_cons, List.length_nil]; omega)) hZ9 (own_w hw 96 rfl) (own_w hw 76 rfl) (by decide) (by decide)) q10a q10c (g := (mkF m 28 #[vR se] [(.ref b9), (.ref b1)])) rfl (by rw [hml]; rfl) (Steps.refl _) (argsL := [(.ref b9)]) (rest := []) (lenOf pd_42687001 rfl) rfl (Nat.le_of_eq rfl) (hb hby d29_28) (fun _ _ => ⟨rfl, e9, (by decide : 6 + 0 ≤ _), (by decide : 40 + 0 ≤ _)⟩)
  dsimp only [Pt.U, Pt.locs, Pt.cells, Pt.slots] at X10 l10 y10 z10 st10 hQ10
  subst l10 y10 z10
  obtain ⟨vs_10, rfl, Nq10, Kq10, fq10_0, fq10_1, fq10_2, fq10_3, fq10_4, pq10_0⟩ := hQ10
  refine OwnGoes.tr (T' := T10) (g' := (mkF m 31 #[vR se] [(.ref b1)])) st10 ?_
  have N10 := Fr.app N8 Nq10
  have F10_118 := F9_96.keep Kq10
  have F10_119 := F9_97.keep Kq10 (ninS ne_se_b1 (ninS ne_se_vv_2 nin0))
  have F10_120 := F9_98.keep Kq10 (ninS ne_se_b1 (ninS ne_se_vv_2 nin0))
  have F10_121 := F9_99.keep Kq10
  have F10_122 := F9_100.keep Kq10 (ninS ne_kk_b1 (ninS ne_kk_vv_2 nin0))
  have F10_123 := F9_101.keep Kq10 (ninS ne_kk_b1 (ninS ne_kk_vv_2 nin0))
  have F10_124 := F9_102.keep Kq10 (ninS ne_tk_b1 (ninS ne_tk_vv_2 nin0))
  have F10_125 := F9_103.keep Kq10
  have F10_126 := F9_104.keep Kq10 (ninS ne_oo_b1 (ninS ne_oo_vv_2 nin0))
  have F10_127 := F9_105.keep Kq10 (ninS ne_oo_b1 (ninS ne_oo_vv_2 nin0))
  have F10_128 := F9_106.keep Kq10 (ninS ne_to_b1 (ninS ne_to_vv_2 nin0))
  have F10_129 := Safe.keep Kq10 (sfS F9_107 (sfS F9_109 sf0)) R9.1 F9_107
  have F10_130 := F9_108.keep Kq10
  have F10_131 := Safe.keep Kq10 (sfS F9_107 (sfS F9_109 sf0)) R9.1 F9_109
  have F10_132 := F9_110.keep Kq10
  have F10_133 := F9_111.keep Kq10 (ninS (Ne.symm nl5_b1.1) (ninS (Ne.symm nl5_vv_2.1) nin0))
  have F10_134 := F9_112.keep Kq10 (ninS (Ne.symm nl5_b1.1) (ninS (Ne.symm nl5_vv_2.1) nin0))
  have F10_135 := F9_113.keep Kq10 (ninS (Ne.symm nl5_b1.2) (ninS (Ne.symm nl5_vv_2.2) nin0))
  have F10_136 := A9.keep Kq10
  have F10_137 := Fc9.keep Kq10 (ninS (Ne.symm nl9_b1.1) (ninS (Ne.symm nl9_vv_2.1) nin0))
  have F10_138 := Fv9.keep Kq10 (ninS (Ne.symm nl9_b1.1) (ninS (Ne.symm nl9_vv_2.1) nin0))
  have F10_139 := V9.keep Kq10 (ninS (Ne.symm nl9_b1.2) (ninS (Ne.symm nl9_vv_2.2) nin0))
  have Ol10 := Ol9.keep Kq10 (allS g_b1 (allS g_vv_2 all0))
  have K10 : Keep h0 T10.heap ([] : List Addr) := K9.trans Kq10 (allS (Or.inr s_b1) (allS (Or.inr s_vv_2) all0))
  have R10 := R9.trans (CHr.keep Kq10 (sfS F9_107 (sfS F9_109 sf0)) R9.1)
  have hk10 := Nat.le_trans hk9 Kq10.1
  obtain ⟨cq11, kq11, q11a, q11b, q11c⟩ := isOf (s := (s.setVm T9.vm)) hZ9 rfl fq10_0
  obtain ⟨_, _, ⟨T11, L11, k11, n11⟩, -, X11, ⟨Lc11, hQ11, l11, y11, z11⟩, st11⟩ := X10.virtualBack hx (y := mN26) (z := mN26) ho9 (mvT hZ9 (own_w hw 141 rfl)) (mvT hZ9 (own_w hw 142 rfl)) (notFace_of_selects (args := #[]) (mvT hZ9 (own_w hw 144 rfl))) (mvT hZ9 (own_w hw 144 rfl)) (mvT hZ9 (own_w hw 143 rfl)) (by decide) (backOf (W := 0) (rm_toS l Z a0 hw [] wG1 wG3 cx hEL T10.heap n0 Ol10 b1 vv_2 k_2 (((((0 : Int32) + nk) + (2 : Int32)) + no) + (1 : Int32)) vs_10 (((([] ++ csk) ++ ([32, 40] : List Int32)) ++ cso) ++ ([41] : List Int32)) fq10_0 fq10_1 fq10_2 fq10_3 fq10_4 pq10_0) hZ9 (own_w hw 145 rfl) (own_w hw 76 rfl) (by decide) (by decide)) q11a q11c (g := (mkF m 31 #[vR se] [(.ref b1)])) rfl (by rw [hml]; rfl) (Steps.refl _) (argsL := []) (rest := []) (lenOf pd_24953479 rfl) rfl (Nat.le_of_eq rfl) (hb hby d29_31) (fun _ _ => ⟨rfl, rfl, (by decide : 6 + 2 ≤ _), (by decide : 40 + 20 ≤ _)⟩)
  dsimp only [Pt.U, Pt.locs, Pt.cells, Pt.slots] at X11 l11 y11 z11 st11 hQ11
  subst l11 y11 z11
  obtain ⟨x_11, t_11, k_11, vs_11, rfl, Nq11, Kq11, zq11_0, zq11_1, fq11_0, fq11_1, fq11_2, fq11_3, pq11_0⟩ := hQ11
  refine OwnGoes.tr (T' := T11) (g' := (mkF m 34 #[vR se] [(.ref x_11)])) st11 ?_
  have N11 := Fr.app N10 Nq11
  have ne_se_x_11 : se ≠ x_11 := Nat.ne_of_lt (Nat.lt_of_lt_of_le F10_118.lt zq11_0)
  have ne_kk_x_11 : kk ≠ x_11 := Nat.ne_of_lt (Nat.lt_of_lt_of_le F10_121.lt zq11_0)
  have ne_tk_x_11 : tk ≠ x_11 := Nat.ne_of_lt (Nat.lt_of_lt_of_le F10_124.lt zq11_0)
  have ne_oo_x_11 : oo ≠ x_11 := Nat.ne_of_lt (Nat.lt_of_lt_of_le F10_125.lt zq11_0)
  have ne_to_x_11 : to ≠ x_11 := Nat.ne_of_lt (Nat.lt_of_lt_of_le F10_128.lt zq11_0)
  have ne_b1_x_11 : b1 ≠ x_11 := Nat.ne_of_lt (Nat.lt_of_lt_of_le fq10_0.lt zq11_0)
  have ne_vv_2_x_11 : vv_2 ≠ x_11 := Nat.ne_of_lt (Nat.lt_of_lt_of_le fq10_4.lt zq11_0)
  have ne_b5_x_11 : b5 ≠ x_11 := Nat.ne_of_lt (Nat.lt_of_lt_of_le F10_132.lt zq11_0)
  have ne_t5_x_11 : t5 ≠ x_11 := Nat.ne_of_lt (Nat.lt_of_lt_of_le F10_135.lt zq11_0)
  have ne_b9_x_11 : b9 ≠ x_11 := Nat.ne_of_lt (Nat.lt_of_lt_of_le F10_136.lt zq11_0)
  have ne_t9_x_11 : t9 ≠ x_11 := Nat.ne_of_lt (Nat.lt_of_lt_of_le F10_139.lt zq11_0)
  have g_x_11 : n0 ≤ x_11 := Nat.le_trans (Nat.le_trans Z0 K10.1) zq11_0
  have s_x_11 : h0.size ≤ x_11 := Nat.le_trans K10.1 zq11_0
  have ne_se_t_11 : se ≠ t_11 := Nat.ne_of_lt (Nat.lt_of_lt_of_le F10_118.lt zq11_1)
  have ne_kk_t_11 : kk ≠ t_11 := Nat.ne_of_lt (Nat.lt_of_lt_of_le F10_121.lt zq11_1)
  have ne_tk_t_11 : tk ≠ t_11 := Nat.ne_of_lt (Nat.lt_of_lt_of_le F10_124.lt zq11_1)
  have ne_oo_t_11 : oo ≠ t_11 := Nat.ne_of_lt (Nat.lt_of_lt_of_le F10_125.lt zq11_1)
  have ne_to_t_11 : to ≠ t_11 := Nat.ne_of_lt (Nat.lt_of_lt_of_le F10_128.lt zq11_1)
  have ne_b1_t_11 : b1 ≠ t_11 := Nat.ne_of_lt (Nat.lt_of_lt_of_le fq10_0.lt zq11_1)
  have ne_vv_2_t_11 : vv_2 ≠ t_11 := Nat.ne_of_lt (Nat.lt_of_lt_of_le fq10_4.lt zq11_1)
  have ne_b5_t_11 : b5 ≠ t_11 := Nat.ne_of_lt (Nat.lt_of_lt_of_le F10_132.lt zq11_1)
  have ne_t5_t_11 : t5 ≠ t_11 := Nat.ne_of_lt (Nat.lt_of_lt_of_le F10_135.lt zq11_1)
  have ne_b9_t_11 : b9 ≠ t_11 := Nat.ne_of_lt (Nat.lt_of_lt_of_le F10_136.lt zq11_1)
  have ne_t9_t_11 : t9 ≠ t_11 := Nat.ne_of_lt (Nat.lt_of_lt_of_le F10_139.lt zq11_1)
  have g_t_11 : n0 ≤ t_11 := Nat.le_trans (Nat.le_trans Z0 K10.1) zq11_1
  have s_t_11 : h0.size ≤ t_11 := Nat.le_trans K10.1 zq11_1
  have Sn11_0 : Safe Z consts_1 T9.vm T11.heap x_11 := Safe.keep Kq11 sf0 R10.1 (Safe.new zq11_0)
  have Sn11_1 : Safe Z consts_1 T9.vm T11.heap t_11 := Safe.keep Kq11 sf0 R10.1 (Safe.new zq11_1)
  have F11_140 := F10_118.keep Kq11
  have F11_141 := F10_119.keep Kq11 nin0
  have F11_142 := F10_120.keep Kq11 nin0
  have F11_143 := F10_121.keep Kq11
  have F11_144 := F10_122.keep Kq11 nin0
  have F11_145 := F10_123.keep Kq11 nin0
  have F11_146 := F10_124.keep Kq11 nin0
  have F11_147 := F10_125.keep Kq11
  have F11_148 := F10_126.keep Kq11 nin0
  have F11_149 := F10_127.keep Kq11 nin0
  have F11_150 := F10_128.keep Kq11 nin0
  have F11_151 := Safe.keep Kq11 sf0 R10.1 F10_129
  have F11_152 := fq10_0.keep Kq11
  have F11_153 := Safe.keep Kq11 sf0 R10.1 F10_131
  have F11_154 := F10_132.keep Kq11
  have F11_155 := F10_133.keep Kq11 nin0
  have F11_156 := F10_134.keep Kq11 nin0
  have F11_157 := F10_135.keep Kq11 nin0
  have F11_158 := F10_136.keep Kq11
  have F11_159 := F10_137.keep Kq11 nin0
  have F11_160 := F10_138.keep Kq11 nin0
  have F11_161 := F10_139.keep Kq11 nin0
  have F11_162 := fq10_1.keep Kq11 nin0
  have F11_163 := fq10_2.keep Kq11 nin0
  have F11_164 := fq10_3.keep Kq11 nin0
  have F11_165 := fq10_4.keep Kq11 nin0
  have Ol11 := Ol10.keep Kq11 all0
  have K11 : Keep h0 T11.heap ([] : List Addr) := K10.trans Kq11 all0
  have R11 := R10.trans (CHr.keep Kq11 sf0 R10.1)
  have hk11 := Nat.le_trans hk10 Kq11.1
  have hret : ∀ fs, (∀ (f : JFrame) (acts : List Action), f.method = m → f.locked = none → f.entered = [] → (doReturn e (T11.setTop f) acts (some (.ref x_11))).1 = T11.setFrames fs) → Steps p.tables e below (T11.setTop (mkF m 34 #[vR se] [(.ref x_11)])) (T11.setFrames fs) := by
    intro fs hr
    jvm_step X11.here [X11.here.top, hx, (hb hby d29_34), X11.method', Bd.returns, Value.isRef, FieldType.isReference]
    first | (intro acts; rw [hr _ acts rfl rfl rfl]) | rw [hr _ _ rfl rfl rfl]
    exact Steps.refl _
  refine own_leaveW (Z := Z) (EL := consts_1) X11 hS9 hk11 hlk (v := some (.ref x_11)) (fun h => by rw [Bd.returns] at h; cases h) hret (by decide) (by decide) ?_ ?_
  · rw [hh]
    exact R11.trans (CHv.at X11 hZ9 hEL R11.1)
  show Q_kao Z se kk tk kk1 nk vk oo to ko1 no vo csk cso h0 n0 _ T11.heap _
  exact ⟨x_11, t_11, k_11, (((((0 : Int32) + nk) + (2 : Int32)) + no) + (1 : Int32)), vs_11, rfl, N11, K11, fq11_0, fq11_1, fq11_2, fq11_3, pq11_0⟩
theorem ef_mk (m : MethodId) (x0 : Int32) (x1 : Int32) (x2 : Int32) : entryFrame m #[(.int x0), (.int x1), (.int x2)] 3 = mkF m 0 #[vI x0, vI x1, vI x2] [] := by
  first | (simp [entryFrame, mkF, argsToLocals, Value.category]; done) | rfl
def Q_mk (Z : State) (l1 : Int32) (c1 : Int32) (c2 : Int32) (h0 : Heap) (n0 : Nat) (v : Option Value) (h : Heap) (L : List Loc) : Prop := ∃ (x : Addr), ∃ (t : Addr), ∃ (k : ClassId), ∃ (N : Int32), ∃ (vs : List Value), ∃ (cs : List Int32), v = some (.ref x) ∧ Fr n0 L ∧ Keep h0 h ([] : List Addr) ∧ Exa Z h x "java/lang/String" ∧ Fld Z h x "java/lang/String" "value" "[B" (.ref t) ∧ Fld Z h x "java/lang/String" "coder" "B" (.int 0) ∧ Arv Z h t k .byte N vs (.int 0) ∧ (OwnStr cs (0 : Int32) N vs) ∧ (N = l1) ∧ (cs.length ≤ 2)
theorem pn_42314677 : plainName "com/example/kindling/kindling/config/SettingKeyAndOriginPinLaw" = true := by first | (simp [plainName, overriddenIn]; done) | decide +kernel
theorem d30_0 : decode method_3_code 0 = .ok (.iload_n 0, 1) := by decide +kernel
theorem d30_1 : decode method_3_code 1 = .ok (.ifCond .ne 14, 3) := by decide +kernel
theorem d30_4 : decode method_3_code 4 = .ok (.new 14, 3) := by decide +kernel
theorem d30_7 : decode method_3_code 7 = .ok (.dup, 1) := by decide +kernel
theorem d30_8 : decode method_3_code 8 = .ok (.iconst 0, 1) := by decide +kernel
theorem d30_9 : decode method_3_code 9 = .ok (.newarray .char, 2) := by decide +kernel
theorem d30_11 : decode method_3_code 11 = .ok (.invokespecial 36, 3) := by decide +kernel
theorem pd_68446664 : parseMethodDescriptor "([C)V" = some ⟨[(.array .char)], none⟩ := by decide +kernel
theorem d30_14 : decode method_3_code 14 = .ok (.areturn, 1) := by decide +kernel
theorem d30_15 : decode method_3_code 15 = .ok (.iload_n 0, 1) := by decide +kernel
theorem d30_16 : decode method_3_code 16 = .ok (.iconst 1, 1) := by decide +kernel
theorem d30_17 : decode method_3_code 17 = .ok (.if_icmp .ne 18, 3) := by decide +kernel
theorem d30_20 : decode method_3_code 20 = .ok (.new 14, 3) := by decide +kernel
theorem d30_23 : decode method_3_code 23 = .ok (.dup, 1) := by decide +kernel
theorem d30_24 : decode method_3_code 24 = .ok (.iconst 1, 1) := by decide +kernel
theorem d30_25 : decode method_3_code 25 = .ok (.newarray .char, 2) := by decide +kernel
theorem d30_27 : decode method_3_code 27 = .ok (.dup, 1) := by decide +kernel
theorem d30_28 : decode method_3_code 28 = .ok (.iconst 0, 1) := by decide +kernel
theorem d30_29 : decode method_3_code 29 = .ok (.iload_n 1, 1) := by decide +kernel
theorem d30_30 : decode method_3_code 30 = .ok (.castore, 1) := by decide +kernel
theorem d30_31 : decode method_3_code 31 = .ok (.invokespecial 36, 3) := by decide +kernel
theorem own_hws : ∀ d ∈ StrChars.Road.words, d ∈ tables_1 := by decide +kernel
theorem d30_34 : decode method_3_code 34 = .ok (.areturn, 1) := by decide +kernel
theorem d30_35 : decode method_3_code 35 = .ok (.new 14, 3) := by decide +kernel
theorem d30_38 : decode method_3_code 38 = .ok (.dup, 1) := by decide +kernel
theorem d30_39 : decode method_3_code 39 = .ok (.iconst 2, 1) := by decide +kernel
theorem d30_40 : decode method_3_code 40 = .ok (.newarray .char, 2) := by decide +kernel
theorem d30_42 : decode method_3_code 42 = .ok (.dup, 1) := by decide +kernel
theorem d30_43 : decode method_3_code 43 = .ok (.iconst 0, 1) := by decide +kernel
theorem d30_44 : decode method_3_code 44 = .ok (.iload_n 1, 1) := by decide +kernel
theorem d30_45 : decode method_3_code 45 = .ok (.castore, 1) := by decide +kernel
theorem d30_46 : decode method_3_code 46 = .ok (.dup, 1) := by decide +kernel
theorem d30_47 : decode method_3_code 47 = .ok (.iconst 1, 1) := by decide +kernel
theorem d30_48 : decode method_3_code 48 = .ok (.iload_n 2, 1) := by decide +kernel
theorem d30_49 : decode method_3_code 49 = .ok (.castore, 1) := by decide +kernel
theorem d30_50 : decode method_3_code 50 = .ok (.invokespecial 36, 3) := by decide +kernel
theorem d30_53 : decode method_3_code 53 = .ok (.areturn, 1) := by decide +kernel
set_option maxRecDepth 65536 in
set_option maxHeartbeats 40000000 in
theorem rm_mk (l : Launch) (Z : State) (a0 : Array Value) (hw : ∀ d ∈ tables_1, d.before a0 Z = true) (ws : List Jvm.Cond) (wG1 : Int32) (wG3 : Value) (cx : OwnCx Z a0 wG1 wG3) (hEL : EW Z a0 consts_1) (h0 : Heap) (n0 : Nat) (X00 : Old Z n0 h0) (l1 : Int32) (c1 : Int32) (c2 : Int32) (hc1 : ¬ c1 < 0 ∧ ¬ (255 : Int32) < c1) (hc2 : ¬ c2 < 0 ∧ ¬ (255 : Int32) < c2) (hl : l1 = (0 : Int32) ∨ l1 = (1 : Int32) ∨ l1 = (2 : Int32)) :
    MetFree l mN30 (head1 (Jvm.Cond.code mN30 method_3_code 3 (some (.object "java/lang/String")) :: ws) (oR 4 6 12 66)) (fun a U => a = #[(.int l1), (.int c1), (.int c2)] ∧ Z.Warmed39 U.vm ∧ U.heap = h0 ∧ CHv Z consts_1 U.vm h0) (fun _ _ _ _ _ => True) (fun _ U o U' => ∃ v L, o = .returned v ∧ Q_mk Z l1 c1 c2 h0 n0 v U'.heap L ∧ CHr Z consts_1 U.vm U.heap U'.vm U'.heap ∧ ReturnedEndW U o U' L (oR 4 6 12 66).cells (oR 4 6 12 66).slots) := by
  refine MetFree.of_bodySF (plainFor_of_name pn_42314677) hisR ?_
  intro p e s m args below meth c s₁ Bd hml0 hP hK
  obtain ⟨rfl, hZ, hh, hH⟩ := hP
  obtain ⟨wO2, wP5, wO4, wrG3, hstr⟩ := id cx
  have hx := Bd.exec
  have hby := Bd.bytes
  have hlk := Bd.notSynchronized
  have hml : c.maxLocals = 3 := hml0
  have hown : s.vm.findClass "com/example/kindling/kindling/config/SettingKeyAndOriginPinLaw" = some m.cls := findClass_of_methodNamed Bd.named
  have hnm := (name_of_methodNamed Bd.named Bd.method).1
  have X0 : Stand p l e (oR 4 6 12 66) (s.setVm s.vm) m #[(.int l1), (.int c1), (.int c2)] below meth c s₁ [] 0 0 := Stand.of_body Bd
  have e0 : s₁.heap = h0 := by rw [← hh, Bd.state]; rfl
  have N0 := Fr.nil n0
  have Z0 : n0 ≤ h0.size := X00.1 ▸ X00.2.1
  have K0 : Keep h0 h0 ([] : List Addr) := Keep.refl _ _
  have R0 : CHr Z consts_1 s.vm h0 s.vm h0 := CHr.refl hH
  have hS0 : s.Since s.vm h0.size := State.WarmedH.since (State.WarmedH.refl s) _
  have hk0 : h0.size ≤ h0.size := Nat.le_refl _
  show OwnGoes p e below _ s₁ (entryFrame m _ _)
  refine og s₁ m 0 #[vI l1, vI c1, vI c2] [] (fun tgt kgo => castTop (ef_mk m l1 c1 c2) kgo) ?_
  refine og s₁ m 1 #[vI l1, vI c1, vI c2] [(.int l1)] (fun tgt kgo => ?_) ?_
  · refine XS.iloadN X0.here hx rfl (hb hby d30_0) rfl ?_
    exact kgo
  by_cases cc1 : l1 = (0 : Int32)
  · skip
    refine og s₁ m 4 #[vI l1, vI c1, vI c2] [] (fun tgt kgo => ?_) ?_
    · refine XS.ifNo X0.here hx rfl (hb hby d30_1) rfl ((if0 _ _).trans (teq cc1).2) ?_
      exact kgo
    obtain ⟨T2, h2, X2, e2, E2, A2, D2, U2, st2⟩ := newO X0 hx hZ hown (own_w hw 4 rfl) (own_w hw 5 rfl) (own_w hw 6 rfl) e0 (g := (mkF m 4 #[vI l1, vI c1, vI c2] [])) rfl (hb hby d30_4) (by decide) (by decide)
    obtain ⟨b2, g2⟩ : ∃ z, z = h0.size := ⟨_, rfl⟩
    rw [← g2] at A2 D2 U2 st2
    refine og T2 m 7 #[vI l1, vI c1, vI c2] [(.ref b2)] st2 ?_
    have g_b2 : n0 ≤ b2 := Nat.le_trans (Nat.le_trans Z0 K0.1) (Nat.le_of_eq g2.symm)
    have s_b2 : h0.size ≤ b2 := Nat.le_trans K0.1 (Nat.le_of_eq g2.symm)
    have Sf2 : Safe Z consts_1 s.vm h2 b2 := Safe.ext E2 R0.1 (Safe.new (Nat.le_of_eq g2.symm))
    have Ol2 := X00.ext E2
    have K2 : Keep h0 h2 ([] : List Addr) := K0.ext E2
    have R2 := R0.trans (CHr.ext E2 R0.1)
    have hk2 := Nat.le_trans hk0 E2.1
    have F2_1 : Fld Z h2 b2 "java/lang/String" "coder" "B" (.int 0) := D2 (Or.inr (own_w hw 31 rfl)) (ty := .byte) (by decide)
    have F2_2 : Fld Z h2 b2 "java/lang/String" "value" "[B" .null := D2 (Or.inr (own_w hw 33 rfl)) (ty := (.array .byte)) (by decide)
    refine og T2 m 9 #[vI l1, vI c1, vI c2] [(.int 0), (.ref b2), (.ref b2)] (fun tgt kgo => ?_) ?_
    · refine XS.dup X2.here hx rfl (hb hby d30_7) rfl rfl ?_
      show OwnG p e below T2 m 8 #[vI l1, vI c1, vI c2] [(.ref b2), (.ref b2)] tgt
      refine XS.iconst X2.here hx rfl (hb hby d30_8) ?_
      exact kgo
    obtain ⟨T3, h3, k3, X3, e3, E3, A3, st3⟩ := newP X2 hx hZ (own_w hw 7 rfl) e2 (g := (mkF m 9 #[vI l1, vI c1, vI c2] [(.int 0), (.ref b2), (.ref b2)])) rfl (hb hby d30_9) rfl (by decide) (cap := 0) (by decide) (by decide) (by decide) (by decide)
    obtain ⟨b3, g3⟩ : ∃ z, z = h2.size := ⟨_, rfl⟩
    rw [← g3] at A3 st3
    refine og T3 m 11 #[vI l1, vI c1, vI c2] [(.ref b3), (.ref b2), (.ref b2)] st3 ?_
    have V3 : Arv Z h3 b3 k3 .char (0 : Int32) [] (.int 0) := (Arv.new A3 (by decide)).pad (pad_rep [] (.int 0) 0)
    have ne_b2_b3 : b2 ≠ b3 := Nat.ne_of_lt (Nat.lt_of_lt_of_le A2.lt (Nat.le_of_eq g3.symm))
    have g_b3 : n0 ≤ b3 := Nat.le_trans (Nat.le_trans Z0 K2.1) (Nat.le_of_eq g3.symm)
    have s_b3 : h0.size ≤ b3 := Nat.le_trans K2.1 (Nat.le_of_eq g3.symm)
    have Sf3 : Safe Z consts_1 s.vm h3 b3 := Safe.ext E3 R2.1 (Safe.new (Nat.le_of_eq g3.symm))
    have F3_3 := Safe.ext E3 R2.1 Sf2
    have F3_4 := A2.ext E3
    have F3_5 := F2_1.ext E3
    have F3_6 := F2_2.ext E3
    have Ol3 := Ol2.ext E3
    have K3 : Keep h0 h3 ([] : List Addr) := K2.ext E3
    have R3 := R2.trans (CHr.ext E3 R2.1)
    have hk3 := Nat.le_trans hk2 E3.1
    obtain ⟨_, _, ⟨T4, L4, k4, n4⟩, -, X4, Si4, Gr4, ⟨Lc4, hQ4, l4, y4, z4, Rc4⟩, st4⟩ := X3.specialBackS hx (y := mN1) rfl hown (mvT hZ (own_w hw 8 rfl)) (mvT hZ (own_w hw 9 rfl)) (mvT hZ (own_w hw 10 rfl)) (by decide) (backOfSH (W := 1) (rm_si2e l Z a0 hw [] wG1 wG3 cx hEL h3 n0 Ol3 b2 b3 k3 F3_4 F3_6 F3_5 g_b2 V3) hZ (own_w hw 10 rfl) (own_w hw 6 rfl) (by decide) (by decide) hEL R3.1) (g := (mkF m 11 #[vI l1, vI c1, vI c2] [(.ref b3), (.ref b2), (.ref b2)])) rfl (by rw [hml]; rfl) (Steps.refl _) (a := b2) (argsL := [(.ref b3)]) (rest := [(.ref b2)]) (lenOf pd_68446664 rfl) rfl (Nat.le_of_eq rfl) (hb hby d30_11) (fun _ _ => ⟨rfl, e3, (by decide : 2 + 4 ≤ _), (by decide : 4 + 8 ≤ _)⟩)
    dsimp only [Pt.U, Pt.locs, Pt.cells, Pt.slots] at X4 l4 y4 z4 st4 hQ4 Si4 Gr4 Rc4
    subst l4 y4 z4
    obtain ⟨t_4, k_4, rfl, Nq4, Kq4, fq4_0, fq4_1, fq4_2, fq4_3⟩ := hQ4
    refine OwnGoes.tr (T' := T4) (g' := (mkF m 14 #[vI l1, vI c1, vI c2] [(.ref b2)])) st4 ?_
    have N4 := Fr.app N0 Nq4
    have gz4 : h3.size ≤ T4.heap.size := Rc4.2.1
    obtain ⟨X4, hS4, hZ4, ho4⟩ := rebS hS0 hk3 X4 Si4 gz4 hZ hown
    have F4_7 := Rc4.safe F3_4.lt F3_3
    have F4_8 := F3_4.keep Kq4
    have F4_9 := Rc4.safe V3.lt Sf3
    have F4_10 := V3.keep Kq4 (ninS (Ne.symm ne_b2_b3) nin0)
    have Ol4 := Ol3.keep Kq4 (allS g_b2 all0)
    have K4 : Keep h0 T4.heap ([] : List Addr) := K3.trans Kq4 (allS (Or.inr s_b2) all0)
    have R4 := R3.trans Rc4
    have hob6 : OwnStr ([] : List Int32) (0 : Int32) (0 : Int32) [] := own_str_lat (n := 0) rfl (by decide) own_mem0
    have hret : ∀ fs, (∀ (f : JFrame) (acts : List Action), f.method = m → f.locked = none → f.entered = [] → (doReturn e (T4.setTop f) acts (some (.ref b2))).1 = T4.setFrames fs) → Steps p.tables e below (T4.setTop (mkF m 14 #[vI l1, vI c1, vI c2] [(.ref b2)])) (T4.setFrames fs) := by
      intro fs hr
      jvm_step X4.here [X4.here.top, hx, (hb hby d30_14), X4.method', Bd.returns, Value.isRef, FieldType.isReference]
      first | (intro acts; rw [hr _ acts rfl rfl rfl]) | rw [hr _ _ rfl rfl rfl]
      exact Steps.refl _
    refine own_leaveW (Z := Z) (EL := consts_1) X4 hS4 (Nat.le_refl _) hlk (v := some (.ref b2)) (fun h => by rw [Bd.returns] at h; cases h) hret (by decide) (by decide) ?_ ?_
    · rw [hh]
      exact R4.trans (CHv.at X4 hZ4 hEL R4.1)
    show Q_mk Z l1 c1 c2 h0 n0 _ T4.heap _
    exact ⟨b2, t_4, k_4, (0 : Int32), [], ([] : List Int32), rfl, N4, K4, fq4_0, fq4_1, fq4_2, fq4_3, hob6, cc1.symm, (by decide)⟩
  refine og s₁ m 17 #[vI l1, vI c1, vI c2] [(.int 1), (.int l1)] (fun tgt kgo => ?_) ?_
  · refine XS.ifYes X0.here hx rfl (pc0 := 1) (pc' := 15) rfl (hb hby d30_1) rfl ((if0 _ _).trans (feq cc1).2) (by decide) (by decide) ?_
    show OwnG p e below s₁ m 15 #[vI l1, vI c1, vI c2] [] tgt
    refine XS.iloadN X0.here hx rfl (hb hby d30_15) rfl ?_
    show OwnG p e below s₁ m 16 #[vI l1, vI c1, vI c2] [(.int l1)] tgt
    refine XS.iconst X0.here hx rfl (hb hby d30_16) ?_
    exact kgo
  by_cases cc7 : l1 = (1 : Int32)
  · skip
    refine og s₁ m 20 #[vI l1, vI c1, vI c2] [] (fun tgt kgo => ?_) ?_
    · refine XS.icmpNo X0.here hx rfl (hb hby d30_17) rfl (teq cc7).2 ?_
      exact kgo
    obtain ⟨T8, h8, X8, e8, E8, A8, D8, U8, st8⟩ := newO X0 hx hZ hown (own_w hw 4 rfl) (own_w hw 5 rfl) (own_w hw 6 rfl) e0 (g := (mkF m 20 #[vI l1, vI c1, vI c2] [])) rfl (hb hby d30_20) (by decide) (by decide)
    obtain ⟨b8, g8⟩ : ∃ z, z = h0.size := ⟨_, rfl⟩
    rw [← g8] at A8 D8 U8 st8
    refine og T8 m 23 #[vI l1, vI c1, vI c2] [(.ref b8)] st8 ?_
    have g_b8 : n0 ≤ b8 := Nat.le_trans (Nat.le_trans Z0 K0.1) (Nat.le_of_eq g8.symm)
    have s_b8 : h0.size ≤ b8 := Nat.le_trans K0.1 (Nat.le_of_eq g8.symm)
    have Sf8 : Safe Z consts_1 s.vm h8 b8 := Safe.ext E8 R0.1 (Safe.new (Nat.le_of_eq g8.symm))
    have Ol8 := X00.ext E8
    have K8 : Keep h0 h8 ([] : List Addr) := K0.ext E8
    have R8 := R0.trans (CHr.ext E8 R0.1)
    have hk8 := Nat.le_trans hk0 E8.1
    have F8_11 : Fld Z h8 b8 "java/lang/String" "coder" "B" (.int 0) := D8 (Or.inr (own_w hw 31 rfl)) (ty := .byte) (by decide)
    have F8_12 : Fld Z h8 b8 "java/lang/String" "value" "[B" .null := D8 (Or.inr (own_w hw 33 rfl)) (ty := (.array .byte)) (by decide)
    refine og T8 m 25 #[vI l1, vI c1, vI c2] [(.int 1), (.ref b8), (.ref b8)] (fun tgt kgo => ?_) ?_
    · refine XS.dup X8.here hx rfl (hb hby d30_23) rfl rfl ?_
      show OwnG p e below T8 m 24 #[vI l1, vI c1, vI c2] [(.ref b8), (.ref b8)] tgt
      refine XS.iconst X8.here hx rfl (hb hby d30_24) ?_
      exact kgo
    obtain ⟨T9, h9, k9, X9, e9, E9, A9, st9⟩ := newP X8 hx hZ (own_w hw 7 rfl) e8 (g := (mkF m 25 #[vI l1, vI c1, vI c2] [(.int 1), (.ref b8), (.ref b8)])) rfl (hb hby d30_25) rfl (by decide) (cap := 1) (by decide) (by decide) (by decide) (by decide)
    obtain ⟨b9, g9⟩ : ∃ z, z = h8.size := ⟨_, rfl⟩
    rw [← g9] at A9 st9
    refine og T9 m 27 #[vI l1, vI c1, vI c2] [(.ref b9), (.ref b8), (.ref b8)] st9 ?_
    have V9 : Arv Z h9 b9 k9 .char (1 : Int32) [(.int 0)] (.int 0) := (Arv.new A9 (by decide)).pad (pad_rep [] (.int 0) 1)
    have ne_b8_b9 : b8 ≠ b9 := Nat.ne_of_lt (Nat.lt_of_lt_of_le A8.lt (Nat.le_of_eq g9.symm))
    have g_b9 : n0 ≤ b9 := Nat.le_trans (Nat.le_trans Z0 K8.1) (Nat.le_of_eq g9.symm)
    have s_b9 : h0.size ≤ b9 := Nat.le_trans K8.1 (Nat.le_of_eq g9.symm)
    have Sf9 : Safe Z consts_1 s.vm h9 b9 := Safe.ext E9 R8.1 (Safe.new (Nat.le_of_eq g9.symm))
    have F9_13 := Safe.ext E9 R8.1 Sf8
    have F9_14 := A8.ext E9
    have F9_15 := F8_11.ext E9
    have F9_16 := F8_12.ext E9
    have Ol9 := Ol8.ext E9
    have K9 : Keep h0 h9 ([] : List Addr) := K8.ext E9
    have R9 := R8.trans (CHr.ext E9 R8.1)
    have hk9 := Nat.le_trans hk8 E9.1
    refine og T9 m 30 #[vI l1, vI c1, vI c2] [(.int c1), (.int 0), (.ref b9), (.ref b9), (.ref b8), (.ref b8)] (fun tgt kgo => ?_) ?_
    · refine XS.dup X9.here hx rfl (hb hby d30_27) rfl rfl ?_
      show OwnG p e below T9 m 28 #[vI l1, vI c1, vI c2] [(.ref b9), (.ref b9), (.ref b8), (.ref b8)] tgt
      refine XS.iconst X9.here hx rfl (hb hby d30_28) ?_
      show OwnG p e below T9 m 29 #[vI l1, vI c1, vI c2] [(.int 0), (.ref b9), (.ref b9), (.ref b8), (.ref b8)] tgt
      refine XS.iloadN X9.here hx rfl (hb hby d30_29) rfl ?_
      exact kgo
    obtain ⟨cl10, Ar10, q10, S10, M10, H10, G10⟩ := id V9
    obtain ⟨T10, h10, X10, e10, W10, st10⟩ := stC X9 hx hZ e9 Ar10 (j := (0 : Int32)) (inb_of S10 ⟨by decide, by decide⟩) (g := (mkF m 30 #[vI l1, vI c1, vI c2] [(.int c1), (.int 0), (.ref b9), (.ref b9), (.ref b8), (.ref b8)])) rfl rfl (hb hby d30_30)
    refine og T10 m 31 #[vI l1, vI c1, vI c2] [(.ref b9), (.ref b8), (.ref b8)] st10 ?_
    have V10 : Arv Z h10 b9 k9 .char (1 : Int32) [(.int (nar .char c1))] (.int 0) := Arv.set Ar10 q10 S10 M10 H10 G10 (fits_nar_char _) W10 0 rfl (Nat.le_of_ble_eq_true rfl)
    rw [(own_nar_lat hc1)] at V10
    have V10' : Arv Z h10 b9 k9 .char (1 : Int32) [(.int c1)] (.int 0) := V10
    have F10_17 := Safe.wr W10 Sf9 R9.1 F9_13
    have F10_18 := F9_14.wr W10
    have F10_19 := F9_15.other W10 (Or.inl ne_b8_b9)
    have F10_20 := F9_16.other W10 (Or.inl ne_b8_b9)
    have F10_21 := Safe.wr W10 Sf9 R9.1 Sf9
    have Ol10 := Ol9.wr W10 g_b9
    have K10 : Keep h0 h10 ([] : List Addr) := K9.wr W10 (Or.inr s_b9)
    have R10 := R9.trans (CHr.wr W10 Sf9 R9.1)
    have hk10 := Nat.le_trans hk9 (Keep.of_wr W10).1
    have N10 := Fr.snoc X10 N0 g_b9
    have hp12 : ∀ c ∈ ([c1] : List Int32), ¬ c < 0 ∧ ¬ (255 : Int32) < c := (own_memS hc1 own_mem0)
    have V12c : Arv Z h10 b9 k9 .char (1 : Int32) (([c1] : List Int32).map Value.int) (.int 0) := V10'
    obtain ⟨_, _, ⟨T11, L11, k11, n11⟩, -, X11, ⟨Lc11, hQ11, l11, y11, z11⟩, st11⟩ := X10.specialBack hx (y := mN1) rfl hown (mvT hZ (own_w hw 8 rfl)) (mvT hZ (own_w hw 9 rfl)) (mvT hZ (own_w hw 10 rfl)) (by decide) (StrChars.Road.backV (W := 1) hZ (fun d hd => hw d (own_hws d hd)) (kI := 4) (own_w hw 5 rfl) (cs := ([c1] : List Int32)) (bs := ([c1] : List Int32).map (fun c => c.toInt8.toInt32)) (n := 1) g_b8 (Nat.le_trans Z0 K10.1) F10_18 F10_20 F10_19 V12c (wO2.ext Ol10.2) wP5 rfl rfl (by decide) (by decide) hp12 rfl (by decide) (by decide)) (g := (mkF m 31 #[vI l1, vI c1, vI c2] [(.ref b9), (.ref b8), (.ref b8)])) rfl (by rw [hml]; rfl) (Steps.refl _) (a := b8) (argsL := [(.ref b9)]) (rest := [(.ref b8)]) (lenOf pd_68446664 rfl) rfl (Nat.le_of_eq rfl) (hb hby d30_31) (fun _ _ => ⟨rfl, e10, (by decide : 2 + 1 ≤ _), (by decide : 5 + 1 ≤ _)⟩)
    dsimp only [Pt.U, Pt.locs, Pt.cells, Pt.slots] at X11 l11 y11 z11 st11 hQ11
    subst l11 y11 z11
    obtain ⟨rfl, Nq11, Kq11, fe11, fc11, t11, kb11, ut11, vt11, wt11, fv11, fa11⟩ := hQ11
    refine OwnGoes.tr (T' := T11) (g' := (mkF m 34 #[vI l1, vI c1, vI c2] [(.ref b8)])) st11 ?_
    have N11 := Fr.app N10 Nq11
    have ne_b8_t11 : b8 ≠ t11 := Nat.ne_of_lt (Nat.lt_of_lt_of_le F10_18.lt vt11)
    have ne_b9_t11 : b9 ≠ t11 := Nat.ne_of_lt (Nat.lt_of_lt_of_le V10'.lt vt11)
    have g_t11 : n0 ≤ t11 := Nat.le_trans (Nat.le_trans Z0 K10.1) vt11
    have s_t11 : h0.size ≤ t11 := Nat.le_trans K10.1 vt11
    have Sf11 : Safe Z consts_1 s.vm T11.heap t11 := Safe.keep Kq11 (sfS F10_17 sf0) R10.1 (Safe.new vt11)
    have F11_22 := Safe.keep Kq11 (sfS F10_17 sf0) R10.1 F10_17
    have F11_23 := F10_18.keep Kq11
    have F11_24 := Safe.keep Kq11 (sfS F10_17 sf0) R10.1 F10_21
    have F11_25 := V10'.keep Kq11 (ninS (Ne.symm ne_b8_b9) nin0)
    have Ol11 := Ol10.keep Kq11 (allS g_b8 all0)
    have K11 : Keep h0 T11.heap ([] : List Addr) := K10.trans Kq11 (allS (Or.inr s_b8) all0)
    have R11 := R10.trans (CHr.keep Kq11 (sfS F10_17 sf0) R10.1)
    have hk11 := Nat.le_trans hk10 Kq11.1
    have hob14 : OwnStr ([c1] : List Int32) (0 : Int32) (1 : Int32) ((([c1] : List Int32).map (fun c => c.toInt8.toInt32)).map Value.int) := own_str_lat (n := 1) rfl (by decide) hp12
    have hret : ∀ fs, (∀ (f : JFrame) (acts : List Action), f.method = m → f.locked = none → f.entered = [] → (doReturn e (T11.setTop f) acts (some (.ref b8))).1 = T11.setFrames fs) → Steps p.tables e below (T11.setTop (mkF m 34 #[vI l1, vI c1, vI c2] [(.ref b8)])) (T11.setFrames fs) := by
      intro fs hr
      jvm_step X11.here [X11.here.top, hx, (hb hby d30_34), X11.method', Bd.returns, Value.isRef, FieldType.isReference]
      first | (intro acts; rw [hr _ acts rfl rfl rfl]) | rw [hr _ _ rfl rfl rfl]
      exact Steps.refl _
    refine own_leaveW (Z := Z) (EL := consts_1) X11 hS0 hk11 hlk (v := some (.ref b8)) (fun h => by rw [Bd.returns] at h; cases h) hret (by decide) (by decide) ?_ ?_
    · rw [hh]
      exact R11.trans (CHv.at X11 hZ hEL R11.1)
    show Q_mk Z l1 c1 c2 h0 n0 _ T11.heap _
    exact ⟨b8, t11, kb11, (1 : Int32), ((([c1] : List Int32).map (fun c => c.toInt8.toInt32)).map Value.int), ([c1] : List Int32), rfl, N11, K11, fe11, fv11, fc11, fa11, hob14, cc7.symm, (Nat.le_of_ble_eq_true rfl)⟩
  refine og s₁ m 35 #[vI l1, vI c1, vI c2] [] (fun tgt kgo => ?_) ?_
  · refine XS.icmpYes X0.here hx rfl (pc0 := 17) (pc' := 35) rfl (hb hby d30_17) rfl (feq cc7).2 (by decide) (by decide) ?_
    exact kgo
  obtain ⟨T15, h15, X15, e15, E15, A15, D15, U15, st15⟩ := newO X0 hx hZ hown (own_w hw 4 rfl) (own_w hw 5 rfl) (own_w hw 6 rfl) e0 (g := (mkF m 35 #[vI l1, vI c1, vI c2] [])) rfl (hb hby d30_35) (by decide) (by decide)
  obtain ⟨b15, g15⟩ : ∃ z, z = h0.size := ⟨_, rfl⟩
  rw [← g15] at A15 D15 U15 st15
  refine og T15 m 38 #[vI l1, vI c1, vI c2] [(.ref b15)] st15 ?_
  have g_b15 : n0 ≤ b15 := Nat.le_trans (Nat.le_trans Z0 K0.1) (Nat.le_of_eq g15.symm)
  have s_b15 : h0.size ≤ b15 := Nat.le_trans K0.1 (Nat.le_of_eq g15.symm)
  have Sf15 : Safe Z consts_1 s.vm h15 b15 := Safe.ext E15 R0.1 (Safe.new (Nat.le_of_eq g15.symm))
  have Ol15 := X00.ext E15
  have K15 : Keep h0 h15 ([] : List Addr) := K0.ext E15
  have R15 := R0.trans (CHr.ext E15 R0.1)
  have hk15 := Nat.le_trans hk0 E15.1
  have F15_26 : Fld Z h15 b15 "java/lang/String" "coder" "B" (.int 0) := D15 (Or.inr (own_w hw 31 rfl)) (ty := .byte) (by decide)
  have F15_27 : Fld Z h15 b15 "java/lang/String" "value" "[B" .null := D15 (Or.inr (own_w hw 33 rfl)) (ty := (.array .byte)) (by decide)
  refine og T15 m 40 #[vI l1, vI c1, vI c2] [(.int 2), (.ref b15), (.ref b15)] (fun tgt kgo => ?_) ?_
  · refine XS.dup X15.here hx rfl (hb hby d30_38) rfl rfl ?_
    show OwnG p e below T15 m 39 #[vI l1, vI c1, vI c2] [(.ref b15), (.ref b15)] tgt
    refine XS.iconst X15.here hx rfl (hb hby d30_39) ?_
    exact kgo
  obtain ⟨T16, h16, k16, X16, e16, E16, A16, st16⟩ := newP X15 hx hZ (own_w hw 7 rfl) e15 (g := (mkF m 40 #[vI l1, vI c1, vI c2] [(.int 2), (.ref b15), (.ref b15)])) rfl (hb hby d30_40) rfl (by decide) (cap := 2) (by decide) (by decide) (by decide) (by decide)
  obtain ⟨b16, g16⟩ : ∃ z, z = h15.size := ⟨_, rfl⟩
  rw [← g16] at A16 st16
  refine og T16 m 42 #[vI l1, vI c1, vI c2] [(.ref b16), (.ref b15), (.ref b15)] st16 ?_
  have V16 : Arv Z h16 b16 k16 .char (2 : Int32) [(.int 0), (.int 0)] (.int 0) := (Arv.new A16 (by decide)).pad (pad_rep [] (.int 0) 2)
  have ne_b15_b16 : b15 ≠ b16 := Nat.ne_of_lt (Nat.lt_of_lt_of_le A15.lt (Nat.le_of_eq g16.symm))
  have g_b16 : n0 ≤ b16 := Nat.le_trans (Nat.le_trans Z0 K15.1) (Nat.le_of_eq g16.symm)
  have s_b16 : h0.size ≤ b16 := Nat.le_trans K15.1 (Nat.le_of_eq g16.symm)
  have Sf16 : Safe Z consts_1 s.vm h16 b16 := Safe.ext E16 R15.1 (Safe.new (Nat.le_of_eq g16.symm))
  have F16_28 := Safe.ext E16 R15.1 Sf15
  have F16_29 := A15.ext E16
  have F16_30 := F15_26.ext E16
  have F16_31 := F15_27.ext E16
  have Ol16 := Ol15.ext E16
  have K16 : Keep h0 h16 ([] : List Addr) := K15.ext E16
  have R16 := R15.trans (CHr.ext E16 R15.1)
  have hk16 := Nat.le_trans hk15 E16.1
  refine og T16 m 45 #[vI l1, vI c1, vI c2] [(.int c1), (.int 0), (.ref b16), (.ref b16), (.ref b15), (.ref b15)] (fun tgt kgo => ?_) ?_
  · refine XS.dup X16.here hx rfl (hb hby d30_42) rfl rfl ?_
    show OwnG p e below T16 m 43 #[vI l1, vI c1, vI c2] [(.ref b16), (.ref b16), (.ref b15), (.ref b15)] tgt
    refine XS.iconst X16.here hx rfl (hb hby d30_43) ?_
    show OwnG p e below T16 m 44 #[vI l1, vI c1, vI c2] [(.int 0), (.ref b16), (.ref b16), (.ref b15), (.ref b15)] tgt
    refine XS.iloadN X16.here hx rfl (hb hby d30_44) rfl ?_
    exact kgo
  obtain ⟨cl17, Ar17, q17, S17, M17, H17, G17⟩ := id V16
  obtain ⟨T17, h17, X17, e17, W17, st17⟩ := stC X16 hx hZ e16 Ar17 (j := (0 : Int32)) (inb_of S17 ⟨by decide, by decide⟩) (g := (mkF m 45 #[vI l1, vI c1, vI c2] [(.int c1), (.int 0), (.ref b16), (.ref b16), (.ref b15), (.ref b15)])) rfl rfl (hb hby d30_45)
  refine og T17 m 46 #[vI l1, vI c1, vI c2] [(.ref b16), (.ref b15), (.ref b15)] st17 ?_
  have V17 : Arv Z h17 b16 k16 .char (2 : Int32) [(.int (nar .char c1)), (.int 0)] (.int 0) := Arv.set Ar17 q17 S17 M17 H17 G17 (fits_nar_char _) W17 0 rfl (Nat.le_of_ble_eq_true rfl)
  rw [(own_nar_lat hc1)] at V17
  have V17' : Arv Z h17 b16 k16 .char (2 : Int32) [(.int c1), (.int 0)] (.int 0) := V17
  have F17_32 := Safe.wr W17 Sf16 R16.1 F16_28
  have F17_33 := F16_29.wr W17
  have F17_34 := F16_30.other W17 (Or.inl ne_b15_b16)
  have F17_35 := F16_31.other W17 (Or.inl ne_b15_b16)
  have F17_36 := Safe.wr W17 Sf16 R16.1 Sf16
  have Ol17 := Ol16.wr W17 g_b16
  have K17 : Keep h0 h17 ([] : List Addr) := K16.wr W17 (Or.inr s_b16)
  have R17 := R16.trans (CHr.wr W17 Sf16 R16.1)
  have hk17 := Nat.le_trans hk16 (Keep.of_wr W17).1
  have N17 := Fr.snoc X17 N0 g_b16
  refine og T17 m 49 #[vI l1, vI c1, vI c2] [(.int c2), (.int 1), (.ref b16), (.ref b16), (.ref b15), (.ref b15)] (fun tgt kgo => ?_) ?_
  · refine XS.dup X17.here hx rfl (hb hby d30_46) rfl rfl ?_
    show OwnG p e below T17 m 47 #[vI l1, vI c1, vI c2] [(.ref b16), (.ref b16), (.ref b15), (.ref b15)] tgt
    refine XS.iconst X17.here hx rfl (hb hby d30_47) ?_
    show OwnG p e below T17 m 48 #[vI l1, vI c1, vI c2] [(.int 1), (.ref b16), (.ref b16), (.ref b15), (.ref b15)] tgt
    refine XS.iloadN X17.here hx rfl (hb hby d30_48) rfl ?_
    exact kgo
  obtain ⟨cl18, Ar18, q18, S18, M18, H18, G18⟩ := id V17'
  obtain ⟨T18, h18, X18, e18, W18, st18⟩ := stC X17 hx hZ e17 Ar18 (j := (1 : Int32)) (inb_of S18 ⟨by decide, by decide⟩) (g := (mkF m 49 #[vI l1, vI c1, vI c2] [(.int c2), (.int 1), (.ref b16), (.ref b16), (.ref b15), (.ref b15)])) rfl rfl (hb hby d30_49)
  refine og T18 m 50 #[vI l1, vI c1, vI c2] [(.ref b16), (.ref b15), (.ref b15)] st18 ?_
  have V18 : Arv Z h18 b16 k16 .char (2 : Int32) [(.int c1), (.int (nar .char c2))] (.int 0) := Arv.set Ar18 q18 S18 M18 H18 G18 (fits_nar_char _) W18 1 rfl (Nat.le_of_ble_eq_true rfl)
  rw [(own_nar_lat hc2)] at V18
  have V18' : Arv Z h18 b16 k16 .char (2 : Int32) [(.int c1), (.int c2)] (.int 0) := V18
  have F18_37 := Safe.wr W18 F17_36 R17.1 F17_32
  have F18_38 := F17_33.wr W18
  have F18_39 := F17_34.other W18 (Or.inl ne_b15_b16)
  have F18_40 := F17_35.other W18 (Or.inl ne_b15_b16)
  have F18_41 := Safe.wr W18 F17_36 R17.1 F17_36
  have Ol18 := Ol17.wr W18 g_b16
  have K18 : Keep h0 h18 ([] : List Addr) := K17.wr W18 (Or.inr s_b16)
  have R18 := R17.trans (CHr.wr W18 F17_36 R17.1)
  have hk18 := Nat.le_trans hk17 (Keep.of_wr W18).1
  have N18 := Fr.snoc X18 N17 g_b16
  have hp20 : ∀ c ∈ ([c1, c2] : List Int32), ¬ c < 0 ∧ ¬ (255 : Int32) < c := (own_memS hc1 (own_memS hc2 own_mem0))
  have V20c : Arv Z h18 b16 k16 .char (2 : Int32) (([c1, c2] : List Int32).map Value.int) (.int 0) := V18'
  obtain ⟨_, _, ⟨T19, L19, k19, n19⟩, -, X19, ⟨Lc19, hQ19, l19, y19, z19⟩, st19⟩ := X18.specialBack hx (y := mN1) rfl hown (mvT hZ (own_w hw 8 rfl)) (mvT hZ (own_w hw 9 rfl)) (mvT hZ (own_w hw 10 rfl)) (by decide) (StrChars.Road.backV (W := 1) hZ (fun d hd => hw d (own_hws d hd)) (kI := 4) (own_w hw 5 rfl) (cs := ([c1, c2] : List Int32)) (bs := ([c1, c2] : List Int32).map (fun c => c.toInt8.toInt32)) (n := 2) g_b15 (Nat.le_trans Z0 K18.1) F18_38 F18_40 F18_39 V20c (wO2.ext Ol18.2) wP5 rfl rfl (by decide) (by decide) hp20 rfl (by decide) (by decide)) (g := (mkF m 50 #[vI l1, vI c1, vI c2] [(.ref b16), (.ref b15), (.ref b15)])) rfl (by rw [hml]; rfl) (Steps.refl _) (a := b15) (argsL := [(.ref b16)]) (rest := [(.ref b15)]) (lenOf pd_68446664 rfl) rfl (Nat.le_of_eq rfl) (hb hby d30_50) (fun _ _ => ⟨rfl, e18, (by decide : 2 + 1 ≤ _), (by decide : 6 + 2 ≤ _)⟩)
  dsimp only [Pt.U, Pt.locs, Pt.cells, Pt.slots] at X19 l19 y19 z19 st19 hQ19
  subst l19 y19 z19
  obtain ⟨rfl, Nq19, Kq19, fe19, fc19, t19, kb19, ut19, vt19, wt19, fv19, fa19⟩ := hQ19
  refine OwnGoes.tr (T' := T19) (g' := (mkF m 53 #[vI l1, vI c1, vI c2] [(.ref b15)])) st19 ?_
  have N19 := Fr.app N18 Nq19
  have ne_b15_t19 : b15 ≠ t19 := Nat.ne_of_lt (Nat.lt_of_lt_of_le F18_38.lt vt19)
  have ne_b16_t19 : b16 ≠ t19 := Nat.ne_of_lt (Nat.lt_of_lt_of_le V18'.lt vt19)
  have g_t19 : n0 ≤ t19 := Nat.le_trans (Nat.le_trans Z0 K18.1) vt19
  have s_t19 : h0.size ≤ t19 := Nat.le_trans K18.1 vt19
  have Sf19 : Safe Z consts_1 s.vm T19.heap t19 := Safe.keep Kq19 (sfS F18_37 sf0) R18.1 (Safe.new vt19)
  have F19_42 := Safe.keep Kq19 (sfS F18_37 sf0) R18.1 F18_37
  have F19_43 := F18_38.keep Kq19
  have F19_44 := Safe.keep Kq19 (sfS F18_37 sf0) R18.1 F18_41
  have F19_45 := V18'.keep Kq19 (ninS (Ne.symm ne_b15_b16) nin0)
  have Ol19 := Ol18.keep Kq19 (allS g_b15 all0)
  have K19 : Keep h0 T19.heap ([] : List Addr) := K18.trans Kq19 (allS (Or.inr s_b15) all0)
  have R19 := R18.trans (CHr.keep Kq19 (sfS F18_37 sf0) R18.1)
  have hk19 := Nat.le_trans hk18 Kq19.1
  have hob22 : OwnStr ([c1, c2] : List Int32) (0 : Int32) (2 : Int32) ((([c1, c2] : List Int32).map (fun c => c.toInt8.toInt32)).map Value.int) := own_str_lat (n := 2) rfl (by decide) hp20
  have hret : ∀ fs, (∀ (f : JFrame) (acts : List Action), f.method = m → f.locked = none → f.entered = [] → (doReturn e (T19.setTop f) acts (some (.ref b15))).1 = T19.setFrames fs) → Steps p.tables e below (T19.setTop (mkF m 53 #[vI l1, vI c1, vI c2] [(.ref b15)])) (T19.setFrames fs) := by
    intro fs hr
    jvm_step X19.here [X19.here.top, hx, (hb hby d30_53), X19.method', Bd.returns, Value.isRef, FieldType.isReference]
    first | (intro acts; rw [hr _ acts rfl rfl rfl]) | rw [hr _ _ rfl rfl rfl]
    exact Steps.refl _
  refine own_leaveW (Z := Z) (EL := consts_1) X19 hS0 hk19 hlk (v := some (.ref b15)) (fun h => by rw [Bd.returns] at h; cases h) hret (by decide) (by decide) ?_ ?_
  · rw [hh]
    exact R19.trans (CHv.at X19 hZ hEL R19.1)
  show Q_mk Z l1 c1 c2 h0 n0 _ T19.heap _
  exact ⟨b15, t19, kb19, (2 : Int32), ((([c1, c2] : List Int32).map (fun c => c.toInt8.toInt32)).map Value.int), ([c1, c2] : List Int32), rfl, N19, K19, fe19, fv19, fc19, fa19, hob22, ((hl.resolve_left cc1).resolve_left cc7).symm, (Nat.le_of_ble_eq_true rfl)⟩
theorem ef_isl1 (m : MethodId) (x0 : Addr) : entryFrame m #[(.ref x0)] 1 = mkF m 0 #[vR x0] [] := by
  first | (simp [entryFrame, mkF, argsToLocals, Value.category]; done) | rfl
def Q_isl1 (Z : State) (a1 : Addr) (h0 : Heap) (n0 : Nat) (v : Option Value) (h : Heap) (L : List Loc) : Prop := v = some (.int 1) ∧ Fr n0 L ∧ h = h0
theorem d31_0 : decode jdk_42_method_154_code 0 = .ok (.getstatic 38, 3) := by decide +kernel
theorem d31_3 : decode jdk_42_method_154_code 3 = .ok (.ifCond .eq 14, 3) := by decide +kernel
theorem d31_6 : decode jdk_42_method_154_code 6 = .ok (.aload_n 0, 1) := by decide +kernel
theorem d31_7 : decode jdk_42_method_154_code 7 = .ok (.getfield 15, 3) := by decide +kernel
theorem d31_10 : decode jdk_42_method_154_code 10 = .ok (.ifCond .ne 7, 3) := by decide +kernel
theorem d31_13 : decode jdk_42_method_154_code 13 = .ok (.iconst 1, 1) := by decide +kernel
theorem d31_14 : decode jdk_42_method_154_code 14 = .ok (.goto 4, 3) := by decide +kernel
theorem d31_18 : decode jdk_42_method_154_code 18 = .ok (.ireturn, 1) := by decide +kernel
set_option maxRecDepth 65536 in
set_option maxHeartbeats 40000000 in
theorem rm_isl1 (l : Launch) (Z : State) (a0 : Array Value) (hw : ∀ d ∈ tables_1, d.before a0 Z = true) (ws : List Jvm.Cond) (wG1 : Int32) (wG3 : Value) (cx : OwnCx Z a0 wG1 wG3) (hEL : EW Z a0 consts_1) (h0 : Heap) (n0 : Nat) (X00 : Old Z n0 h0) (a1 : Addr) (f0 : Exa Z h0 a1 "java/lang/String") (f1 : Fld Z h0 a1 "java/lang/String" "coder" "B" (.int 0)) :
    MetFree l mN31 (head1 (Jvm.Cond.code mN31 jdk_42_method_154_code 1 (some .boolean) :: ws) (oR 0 0 0 0)) (fun a U => a = #[(.ref a1)] ∧ Z.Warmed39 U.vm ∧ U.heap = h0) (fun _ _ _ _ _ => True) (fun _ U o U' => ∃ v L, o = .returned v ∧ Q_isl1 Z a1 h0 n0 v U'.heap L ∧ FrameEnd U o U' L (oR 0 0 0 0).cells (oR 0 0 0 0).slots) := by
  refine MetFree.of_bodySF (plainFor_of_name pn_52039224) hisR ?_
  intro p e s m args below meth c s₁ Bd hml0 hP hK
  obtain ⟨rfl, hZ, hh⟩ := hP
  obtain ⟨wO2, wP5, wO4, wrG3, hstr⟩ := id cx
  have hx := Bd.exec
  have hby := Bd.bytes
  have hlk := Bd.notSynchronized
  have hml : c.maxLocals = 1 := hml0
  have hown : s.vm.findClass "java/lang/String" = some m.cls := findClass_of_methodNamed Bd.named
  have hnm := (name_of_methodNamed Bd.named Bd.method).1
  have X0 : Stand p l e (oR 0 0 0 0) s m #[(.ref a1)] below meth c s₁ [] 0 0 := Stand.of_body Bd
  have e0 : s₁.heap = h0 := by rw [← hh, Bd.state]; rfl
  have N0 := Fr.nil n0
  have Z0 : n0 ≤ h0.size := X00.1 ▸ X00.2.1
  have K0 : Keep h0 h0 ([] : List Addr) := Keep.refl _ _
  show OwnGoes p e below _ s₁ (entryFrame m _ _)
  refine og s₁ m 0 #[vR a1] [] (fun tgt kgo => castTop (ef_isl1 m a1) kgo) ?_
  obtain ⟨T1, X1, e1, st1⟩ := getS2 X0 hx hZ hown (host := "") (Or.inl (own_w hw 18 rfl)) Via.refl e0 (wO2.ext X00.2) (g := (mkF m 0 #[vR a1] [])) rfl (hb hby d31_0)
  refine og T1 m 3 #[vR a1] [(.int wG1)] st1 ?_
  refine og T1 m 7 #[vR a1] [(.ref a1)] (fun tgt kgo => ?_) ?_
  · refine XS.ifNo X1.here hx rfl (hb hby d31_3) rfl ((if0 _ _).trans (feq wP5).1) ?_
    show OwnG p e below T1 m 6 #[vR a1] [] tgt
    refine XS.aloadN X1.here hx rfl (hb hby d31_6) rfl rfl ?_
    exact kgo
  obtain ⟨T2, X2, e2, st2⟩ := getF X1 hx hZ hown (host := "") (Or.inl (own_w hw 30 rfl)) Via.refl e1 f1 (g := (mkF m 7 #[vR a1] [(.ref a1)])) rfl rfl (hb hby d31_7)
  refine og T2 m 10 #[vR a1] [(.int 0)] st2 ?_
  refine og T2 m 18 #[vR a1] [(.int 1)] (fun tgt kgo => ?_) ?_
  · refine XS.ifNo X2.here hx rfl (hb hby d31_10) rfl ((if0 _ _).trans (teq (by decide : (0 : Int32) = (0 : Int32))).2) ?_
    show OwnG p e below T2 m 13 #[vR a1] [] tgt
    refine XS.iconst X2.here hx rfl (hb hby d31_13) ?_
    show OwnG p e below T2 m 14 #[vR a1] [(.int 1)] tgt
    refine XS.goto X2.here hx rfl (pc0 := 14) (pc' := 18) rfl (hb hby d31_14) (by decide) (by decide) ?_
    exact kgo
  refine own_leave X2 hlk (v := some (.int 1)) (fun h => by rw [Bd.returns] at h; cases h) (fun fs hr => retN X2 hx (t := .boolean) Bd.returns (by simp) (hb hby d31_18) (by rw [(by decide : nar .boolean (1 : Int32) = (1 : Int32))]; exact hr)) (by decide) (by decide) ?_
  show Q_isl1 Z a1 h0 n0 _ T2.heap _
  rw [e2]
  exact ⟨rfl, N0, rfl⟩
theorem ef_pci (m : MethodId) (x0 : Int32) (x1 : Int32) (x2 : Value) (hr_x2 : x2.isRef = true) : entryFrame m #[(.int x0), (.int x1), x2] 3 = mkF m 0 #[vI x0, vI x1, .val x2] [] := by
  cases x2 <;> first | (simp [Value.isRef] at hr_x2; done) | (simp [entryFrame, mkF, argsToLocals, Value.category]; done) | rfl
def Q_pci (Z : State) (i1 : Int32) (nn1 : Int32) (h0 : Heap) (n0 : Nat) (v : Option Value) (h : Heap) (L : List Loc) : Prop := v = some (.int i1) ∧ Fr n0 L ∧ h = h0
theorem pn_82171711 : plainName "jdk/internal/util/Preconditions" = true := by first | (simp [plainName, overriddenIn]; done) | decide +kernel
theorem d32_0 : decode jdk_41_method_11_code 0 = .ok (.iload_n 0, 1) := by decide +kernel
theorem d32_1 : decode jdk_41_method_11_code 1 = .ok (.ifCond .lt 8, 3) := by decide +kernel
theorem d32_4 : decode jdk_41_method_11_code 4 = .ok (.iload_n 0, 1) := by decide +kernel
theorem d32_5 : decode jdk_41_method_11_code 5 = .ok (.iload_n 1, 1) := by decide +kernel
theorem d32_6 : decode jdk_41_method_11_code 6 = .ok (.if_icmp .lt 10, 3) := by decide +kernel
theorem d32_16 : decode jdk_41_method_11_code 16 = .ok (.iload_n 0, 1) := by decide +kernel
theorem d32_17 : decode jdk_41_method_11_code 17 = .ok (.ireturn, 1) := by decide +kernel
set_option maxRecDepth 65536 in
set_option maxHeartbeats 40000000 in
theorem rm_pci (l : Launch) (Z : State) (a0 : Array Value) (hw : ∀ d ∈ tables_1, d.before a0 Z = true) (ws : List Jvm.Cond) (wG1 : Int32) (wG3 : Value) (cx : OwnCx Z a0 wG1 wG3) (hEL : EW Z a0 consts_1) (h0 : Heap) (n0 : Nat) (X00 : Old Z n0 h0) (i1 : Int32) (nn1 : Int32) (hi0 : ¬ (i1 < (0 : Int32))) (hi1 : i1 < nn1) :
    MetFree l mN32 (head1 (Jvm.Cond.code mN32 jdk_41_method_11_code 3 (some .int) :: ws) (oR 0 0 0 0)) (fun a U => a = #[(.int i1), (.int nn1), wG3] ∧ Z.Warmed39 U.vm ∧ U.heap = h0) (fun _ _ _ _ _ => True) (fun _ U o U' => ∃ v L, o = .returned v ∧ Q_pci Z i1 nn1 h0 n0 v U'.heap L ∧ FrameEnd U o U' L (oR 0 0 0 0).cells (oR 0 0 0 0).slots) := by
  refine MetFree.of_bodySF (plainFor_of_name pn_82171711) hisR ?_
  intro p e s m args below meth c s₁ Bd hml0 hP hK
  obtain ⟨rfl, hZ, hh⟩ := hP
  obtain ⟨wO2, wP5, wO4, wrG3, hstr⟩ := id cx
  have hx := Bd.exec
  have hby := Bd.bytes
  have hlk := Bd.notSynchronized
  have hml : c.maxLocals = 3 := hml0
  have hown : s.vm.findClass "jdk/internal/util/Preconditions" = some m.cls := findClass_of_methodNamed Bd.named
  have hnm := (name_of_methodNamed Bd.named Bd.method).1
  have X0 : Stand p l e (oR 0 0 0 0) s m #[(.int i1), (.int nn1), wG3] below meth c s₁ [] 0 0 := Stand.of_body Bd
  have e0 : s₁.heap = h0 := by rw [← hh, Bd.state]; rfl
  have N0 := Fr.nil n0
  have Z0 : n0 ≤ h0.size := X00.1 ▸ X00.2.1
  have K0 : Keep h0 h0 ([] : List Addr) := Keep.refl _ _
  show OwnGoes p e below _ s₁ (entryFrame m _ _)
  refine og s₁ m 0 #[vI i1, vI nn1, .val wG3] [] (fun tgt kgo => castTop (ef_pci m i1 nn1 wG3 wrG3) kgo) ?_
  refine og s₁ m 17 #[vI i1, vI nn1, .val wG3] [(.int i1)] (fun tgt kgo => ?_) ?_
  · refine XS.iloadN X0.here hx rfl (hb hby d32_0) rfl ?_
    show OwnG p e below s₁ m 1 #[vI i1, vI nn1, .val wG3] [(.int i1)] tgt
    refine XS.ifNo X0.here hx rfl (hb hby d32_1) rfl ((if0 _ _).trans (flt hi0).1) ?_
    show OwnG p e below s₁ m 4 #[vI i1, vI nn1, .val wG3] [] tgt
    refine XS.iloadN X0.here hx rfl (hb hby d32_4) rfl ?_
    show OwnG p e below s₁ m 5 #[vI i1, vI nn1, .val wG3] [(.int i1)] tgt
    refine XS.iloadN X0.here hx rfl (hb hby d32_5) rfl ?_
    show OwnG p e below s₁ m 6 #[vI i1, vI nn1, .val wG3] [(.int nn1), (.int i1)] tgt
    refine XS.icmpYes X0.here hx rfl (pc0 := 6) (pc' := 16) rfl (hb hby d32_6) rfl (tlt hi1).1 (by decide) (by decide) ?_
    show OwnG p e below s₁ m 16 #[vI i1, vI nn1, .val wG3] [] tgt
    refine XS.iloadN X0.here hx rfl (hb hby d32_16) rfl ?_
    exact kgo
  refine own_leave X0 hlk (v := some (.int i1)) (fun h => by rw [Bd.returns] at h; cases h) (fun fs hr => retI X0 hx Bd.returns (hb hby d32_17) hr) (by decide) (by decide) ?_
  show Q_pci Z i1 nn1 h0 n0 _ s₁.heap _
  rw [e0]
  exact ⟨rfl, N0, rfl⟩
theorem ef_sci (m : MethodId) (x0 : Int32) (x1 : Int32) : entryFrame m #[(.int x0), (.int x1)] 2 = mkF m 0 #[vI x0, vI x1] [] := by
  first | (simp [entryFrame, mkF, argsToLocals, Value.category]; done) | rfl
def Q_sci (Z : State) (i1 : Int32) (nn1 : Int32) (h0 : Heap) (n0 : Nat) (v : Option Value) (h : Heap) (L : List Loc) : Prop := v = none ∧ Fr n0 L ∧ h = h0
theorem d33_0 : decode jdk_42_method_155_code 0 = .ok (.iload_n 0, 1) := by decide +kernel
theorem d33_1 : decode jdk_42_method_155_code 1 = .ok (.iload_n 1, 1) := by decide +kernel
theorem d33_2 : decode jdk_42_method_155_code 2 = .ok (.getstatic 1053, 3) := by decide +kernel
theorem d33_5 : decode jdk_42_method_155_code 5 = .ok (.invokestatic 1059, 3) := by decide +kernel
theorem pd_25906315 : parseMethodDescriptor "(IILjava/util/function/BiFunction;)I" = some ⟨[.int, .int, (.object "java/util/function/BiFunction")], some .int⟩ := by decide +kernel
theorem d33_8 : decode jdk_42_method_155_code 8 = .ok (.pop, 1) := by decide +kernel
theorem d33_9 : decode jdk_42_method_155_code 9 = .ok (.return_, 1) := by decide +kernel
set_option maxRecDepth 65536 in
set_option maxHeartbeats 40000000 in
theorem rm_sci (l : Launch) (Z : State) (a0 : Array Value) (hw : ∀ d ∈ tables_1, d.before a0 Z = true) (ws : List Jvm.Cond) (wG1 : Int32) (wG3 : Value) (cx : OwnCx Z a0 wG1 wG3) (hEL : EW Z a0 consts_1) (h0 : Heap) (n0 : Nat) (X00 : Old Z n0 h0) (i1 : Int32) (nn1 : Int32) (hi0 : ¬ (i1 < (0 : Int32))) (hi1 : i1 < nn1) :
    MetFree l mN33 (head1 (Jvm.Cond.code mN33 jdk_42_method_155_code 2 none :: ws) (oR 1 0 0 14)) (fun a U => a = #[(.int i1), (.int nn1)] ∧ Z.Warmed39 U.vm ∧ U.heap = h0) (fun _ _ _ _ _ => True) (fun _ U o U' => ∃ v L, o = .returned v ∧ Q_sci Z i1 nn1 h0 n0 v U'.heap L ∧ FrameEnd U o U' L (oR 1 0 0 14).cells (oR 1 0 0 14).slots) := by
  refine MetFree.of_bodySF (plainFor_of_name pn_52039224) hisR ?_
  intro p e s m args below meth c s₁ Bd hml0 hP hK
  obtain ⟨rfl, hZ, hh⟩ := hP
  obtain ⟨wO2, wP5, wO4, wrG3, hstr⟩ := id cx
  have hx := Bd.exec
  have hby := Bd.bytes
  have hlk := Bd.notSynchronized
  have hml : c.maxLocals = 2 := hml0
  have hown : s.vm.findClass "java/lang/String" = some m.cls := findClass_of_methodNamed Bd.named
  have hnm := (name_of_methodNamed Bd.named Bd.method).1
  have X0 : Stand p l e (oR 1 0 0 14) s m #[(.int i1), (.int nn1)] below meth c s₁ [] 0 0 := Stand.of_body Bd
  have e0 : s₁.heap = h0 := by rw [← hh, Bd.state]; rfl
  have N0 := Fr.nil n0
  have Z0 : n0 ≤ h0.size := X00.1 ▸ X00.2.1
  have K0 : Keep h0 h0 ([] : List Addr) := Keep.refl _ _
  show OwnGoes p e below _ s₁ (entryFrame m _ _)
  refine og s₁ m 0 #[vI i1, vI nn1] [] (fun tgt kgo => castTop (ef_sci m i1 nn1) kgo) ?_
  refine og s₁ m 2 #[vI i1, vI nn1] [(.int nn1), (.int i1)] (fun tgt kgo => ?_) ?_
  · refine XS.iloadN X0.here hx rfl (hb hby d33_0) rfl ?_
    show OwnG p e below s₁ m 1 #[vI i1, vI nn1] [(.int i1)] tgt
    refine XS.iloadN X0.here hx rfl (hb hby d33_1) rfl ?_
    exact kgo
  obtain ⟨T1, X1, e1, st1⟩ := getS2 X0 hx hZ hown (host := "") (Or.inl (own_w hw 206 rfl)) Via.refl e0 (wO4.ext X00.2) (g := (mkF m 2 #[vI i1, vI nn1] [(.int nn1), (.int i1)])) rfl (hb hby d33_2)
  refine og T1 m 5 #[vI i1, vI nn1] [wG3, (.int nn1), (.int i1)] st1 ?_
  obtain ⟨_, _, ⟨T2, L2, k2, n2⟩, -, X2, ⟨Lc2, hQ2, l2, y2, z2⟩, st2⟩ := Jvm.LawKit.callS X1 hx (y := mN32) hown (mvT hZ (own_w hw 208 rfl)) (mvT hZ (own_w hw 209 rfl)) (mvT hZ (own_w hw 207 rfl)) (mvT hZ (own_w hw 210 rfl)) (by decide) (backOf (W := 0) (rm_pci l Z a0 hw [] wG1 wG3 cx hEL h0 n0 X00 i1 nn1 hi0 hi1) hZ (own_w hw 210 rfl) (own_w hw 207 rfl) (by decide) (by decide)) (g := (mkF m 5 #[vI i1, vI nn1] [wG3, (.int nn1), (.int i1)])) rfl (by rw [hml]; rfl) (argsL := [(.int i1), (.int nn1), wG3]) (rest := []) (lenOf pd_25906315 rfl) rfl (Nat.le_of_eq rfl) (hb hby d33_5) (fun _ _ => ⟨rfl, e1, (by decide : 0 + 0 ≤ _), (by decide : 0 + 0 ≤ _)⟩)
  dsimp only [Pt.U, Pt.locs, Pt.cells, Pt.slots] at X2 l2 y2 z2 st2 hQ2
  subst l2 y2 z2
  obtain ⟨rfl, Nq2, eq2⟩ := hQ2
  refine og T2 m 8 #[vI i1, vI nn1] [(.int i1)] st2 ?_
  have N2 := Fr.app N0 Nq2
  refine og T2 m 9 #[vI i1, vI nn1] [] (fun tgt kgo => ?_) ?_
  · refine XS.pop X2.here hx rfl (hb hby d33_8) rfl rfl ?_
    exact kgo
  refine own_leave X2 hlk (v := none) (fun _ => rfl) (fun fs hr => X2.returnOut hx Bd.returns (hb hby d33_9) hr) (by decide) (by decide) ?_
  show Q_sci Z i1 nn1 h0 n0 _ T2.heap _
  rw [eq2]
  exact ⟨rfl, N2, rfl⟩
theorem ef_l1ch (m : MethodId) (x0 : Addr) (x1 : Int32) : entryFrame m #[(.ref x0), (.int x1)] 2 = mkF m 0 #[vR x0, vI x1] [] := by
  first | (simp [entryFrame, mkF, argsToLocals, Value.category]; done) | rfl
def Q_l1ch (Z : State) (ta : Addr) (ka : ClassId) (na : Int32) (vsa : List Value) (i1 : Int32) (c1 : Int32) (h0 : Heap) (n0 : Nat) (v : Option Value) (h : Heap) (L : List Loc) : Prop := v = some (.int c1) ∧ Fr n0 L ∧ h = h0
theorem d34_0 : decode jdk_43_method_2_code 0 = .ok (.iload_n 1, 1) := by decide +kernel
theorem d34_1 : decode jdk_43_method_2_code 1 = .ok (.aload_n 0, 1) := by decide +kernel
theorem d34_2 : decode jdk_43_method_2_code 2 = .ok (.arraylength, 1) := by decide +kernel
theorem d34_3 : decode jdk_43_method_2_code 3 = .ok (.invokestatic 9, 3) := by decide +kernel
theorem d34_6 : decode jdk_43_method_2_code 6 = .ok (.aload_n 0, 1) := by decide +kernel
theorem d34_7 : decode jdk_43_method_2_code 7 = .ok (.iload_n 1, 1) := by decide +kernel
theorem d34_8 : decode jdk_43_method_2_code 8 = .ok (.baload, 1) := by decide +kernel
theorem d34_9 : decode jdk_43_method_2_code 9 = .ok (.sipush 255, 3) := by decide +kernel
theorem d34_12 : decode jdk_43_method_2_code 12 = .ok (.iand, 1) := by decide +kernel
theorem d34_13 : decode jdk_43_method_2_code 13 = .ok (.i2c, 1) := by decide +kernel
theorem d34_14 : decode jdk_43_method_2_code 14 = .ok (.ireturn, 1) := by decide +kernel
set_option maxRecDepth 65536 in
set_option maxHeartbeats 40000000 in
theorem rm_l1ch (l : Launch) (Z : State) (a0 : Array Value) (hw : ∀ d ∈ tables_1, d.before a0 Z = true) (ws : List Jvm.Cond) (wG1 : Int32) (wG3 : Value) (cx : OwnCx Z a0 wG1 wG3) (hEL : EW Z a0 consts_1) (h0 : Heap) (n0 : Nat) (X00 : Old Z n0 h0) (ta : Addr) (ka : ClassId) (na : Int32) (vsa : List Value) (i1 : Int32) (c1 : Int32) (f0 : Arv Z h0 ta ka .byte na vsa (.int 0)) (hg : OwnL na vsa i1 c1) :
    MetFree l mN34 (head1 (Jvm.Cond.code mN34 jdk_43_method_2_code 2 (some .char) :: ws) (oR 2 0 0 27)) (fun a U => a = #[(.ref ta), (.int i1)] ∧ Z.Warmed39 U.vm ∧ U.heap = h0) (fun _ _ _ _ _ => True) (fun _ U o U' => ∃ v L, o = .returned v ∧ Q_l1ch Z ta ka na vsa i1 c1 h0 n0 v U'.heap L ∧ FrameEnd U o U' L (oR 2 0 0 27).cells (oR 2 0 0 27).slots) := by
  refine MetFree.of_bodySF (plainFor_of_name pn_54843740) hisR ?_
  intro p e s m args below meth c s₁ Bd hml0 hP hK
  obtain ⟨rfl, hZ, hh⟩ := hP
  obtain ⟨wO2, wP5, wO4, wrG3, hstr⟩ := id cx
  have hx := Bd.exec
  have hby := Bd.bytes
  have hlk := Bd.notSynchronized
  have hml : c.maxLocals = 2 := hml0
  have hown : s.vm.findClass "java/lang/StringLatin1" = some m.cls := findClass_of_methodNamed Bd.named
  have hnm := (name_of_methodNamed Bd.named Bd.method).1
  have X0 : Stand p l e (oR 2 0 0 27) s m #[(.ref ta), (.int i1)] below meth c s₁ [] 0 0 := Stand.of_body Bd
  have e0 : s₁.heap = h0 := by rw [← hh, Bd.state]; rfl
  have N0 := Fr.nil n0
  have Z0 : n0 ≤ h0.size := X00.1 ▸ X00.2.1
  have K0 : Keep h0 h0 ([] : List Addr) := Keep.refl _ _
  show OwnGoes p e below _ s₁ (entryFrame m _ _)
  refine og s₁ m 0 #[vR ta, vI i1] [] (fun tgt kgo => castTop (ef_l1ch m ta i1) kgo) ?_
  obtain ⟨v0, hi, hv, hp, hn⟩ := hg
  refine og s₁ m 3 #[vR ta, vI i1] [(.int na), (.int i1)] (fun tgt kgo => ?_) ?_
  · refine XS.iloadN X0.here hx rfl (hb hby d34_0) rfl ?_
    show OwnG p e below s₁ m 1 #[vR ta, vI i1] [(.int i1)] tgt
    refine XS.aloadN X0.here hx rfl (hb hby d34_1) rfl rfl ?_
    show OwnG p e below s₁ m 2 #[vR ta, vI i1] [(.ref ta), (.int i1)] tgt
    obtain ⟨cl1, Ar1, q1, S1, M1, -, -⟩ := f0
    refine X0.arraylength hx (by rw [e0]; exact Ar1.1) (State.isArrayOf_alike hZ.alike Ar1.2.1) (g := (mkF m 2 #[vR ta, vI i1] [(.ref ta), (.int i1)])) rfl rfl (hb hby d34_2) _ ?_
    rw [len_of S1 M1]
    exact kgo
  obtain ⟨_, _, ⟨T2, L2, k2, n2⟩, -, X2, ⟨Lc2, hQ2, l2, y2, z2⟩, st2⟩ := Jvm.LawKit.callS X0 hx (y := mN33) hown (mvT hZ (own_w hw 203 rfl)) (mvT hZ (own_w hw 204 rfl)) (mvT hZ (own_w hw 6 rfl)) (mvT hZ (own_w hw 205 rfl)) (by decide) (backOf (W := 0) (rm_sci l Z a0 hw [] wG1 wG3 cx hEL h0 n0 X00 i1 na hi.1 hi.2) hZ (own_w hw 205 rfl) (own_w hw 6 rfl) (by decide) (by decide)) (g := (mkF m 3 #[vR ta, vI i1] [(.int na), (.int i1)])) rfl (by rw [hml]; rfl) (argsL := [(.int i1), (.int na)]) (rest := []) (lenOf pd_53897226 rfl) rfl (Nat.le_of_eq rfl) (hb hby d34_3) (fun _ _ => ⟨rfl, e0, (by decide : 0 + 0 ≤ _), (by decide : 0 + 0 ≤ _)⟩)
  dsimp only [Pt.U, Pt.locs, Pt.cells, Pt.slots] at X2 l2 y2 z2 st2 hQ2
  subst l2 y2 z2
  obtain ⟨rfl, Nq2, eq2⟩ := hQ2
  refine og T2 m 6 #[vR ta, vI i1] [] st2 ?_
  have N2 := Fr.app N0 Nq2
  refine og T2 m 14 #[vR ta, vI i1] [(.int (nar .char (v0 &&& (255 : Int32))))] (fun tgt kgo => ?_) ?_
  · refine XS.aloadN X2.here hx rfl (hb hby d34_6) rfl rfl ?_
    show OwnG p e below T2 m 7 #[vR ta, vI i1] [(.ref ta)] tgt
    refine XS.iloadN X2.here hx rfl (hb hby d34_7) rfl ?_
    show OwnG p e below T2 m 8 #[vR ta, vI i1] [(.int i1), (.ref ta)] tgt
    obtain ⟨cl3, Ar3, q3, S3, M3, H3, G3⟩ := f0
    refine X2.baloadBytes hx (j := i1) (v := (.int v0)) (by rw [eq2]; exact Ar3.1) (State.isArrayOf_alike hZ.alike Ar3.2.1) Ar3.2.2 (inb_of S3 hi) (Has.at H3 (inb_of S3 hi) hv) (g := (mkF m 8 #[vR ta, vI i1] [(.int i1), (.ref ta)])) rfl rfl (hb hby d34_8) _ ?_
    show OwnG p e below T2 m 9 #[vR ta, vI i1] [(.int v0)] tgt
    refine XS.sipush X2.here hx rfl (hb hby d34_9) ?_
    show OwnG p e below T2 m 12 #[vR ta, vI i1] [(.int 255), (.int v0)] tgt
    refine XS.iand X2.here hx rfl (hb hby d34_12) rfl ?_
    show OwnG p e below T2 m 13 #[vR ta, vI i1] [(.int (v0 &&& (255 : Int32)))] tgt
    refine XS.i2c X2.here hx rfl (hb hby d34_13) rfl ?_
    exact kgo
  refine og T2 m 14 #[vR ta, vI i1] [(.int c1)] (fun tgt kgo => castTop (by rw [hp]) kgo) ?_
  refine own_leave X2 hlk (v := some (.int c1)) (fun h => by rw [Bd.returns] at h; cases h) (fun fs hr => retN X2 hx (t := .char) Bd.returns (by simp) (hb hby d34_14) (by rw [hn]; exact hr)) (by decide) (by decide) ?_
  show Q_l1ch Z ta ka na vsa i1 c1 h0 n0 _ T2.heap _
  rw [eq2]
  exact ⟨rfl, N2, rfl⟩
theorem ef_chL (m : MethodId) (x0 : Addr) (x1 : Int32) : entryFrame m #[(.ref x0), (.int x1)] 2 = mkF m 0 #[vR x0, vI x1] [] := by
  first | (simp [entryFrame, mkF, argsToLocals, Value.category]; done) | rfl
def Q_chL (Z : State) (a1 : Addr) (ta : Addr) (ka : ClassId) (na : Int32) (vsa : List Value) (i1 : Int32) (c1 : Int32) (h0 : Heap) (n0 : Nat) (v : Option Value) (h : Heap) (L : List Loc) : Prop := v = some (.int c1) ∧ Fr n0 L ∧ h = h0
theorem d35_0 : decode jdk_42_method_56_code 0 = .ok (.aload_n 0, 1) := by decide +kernel
theorem d35_1 : decode jdk_42_method_56_code 1 = .ok (.invokevirtual 492, 3) := by decide +kernel
theorem d35_4 : decode jdk_42_method_56_code 4 = .ok (.ifCond .eq 12, 3) := by decide +kernel
theorem d35_7 : decode jdk_42_method_56_code 7 = .ok (.aload_n 0, 1) := by decide +kernel
theorem d35_8 : decode jdk_42_method_56_code 8 = .ok (.getfield 9, 3) := by decide +kernel
theorem d35_11 : decode jdk_42_method_56_code 11 = .ok (.iload_n 1, 1) := by decide +kernel
theorem d35_12 : decode jdk_42_method_56_code 12 = .ok (.invokestatic 495, 3) := by decide +kernel
theorem pd_30427418 : parseMethodDescriptor "([BI)C" = some ⟨[(.array .byte), .int], some .char⟩ := by decide +kernel
theorem d35_15 : decode jdk_42_method_56_code 15 = .ok (.ireturn, 1) := by decide +kernel
set_option maxRecDepth 65536 in
set_option maxHeartbeats 40000000 in
theorem rm_chL (l : Launch) (Z : State) (a0 : Array Value) (hw : ∀ d ∈ tables_1, d.before a0 Z = true) (ws : List Jvm.Cond) (wG1 : Int32) (wG3 : Value) (cx : OwnCx Z a0 wG1 wG3) (hEL : EW Z a0 consts_1) (h0 : Heap) (n0 : Nat) (X00 : Old Z n0 h0) (a1 : Addr) (ta : Addr) (ka : ClassId) (na : Int32) (vsa : List Value) (i1 : Int32) (c1 : Int32) (f0 : Exa Z h0 a1 "java/lang/String") (f1 : Fld Z h0 a1 "java/lang/String" "value" "[B" (.ref ta)) (f2 : Fld Z h0 a1 "java/lang/String" "coder" "B" (.int 0)) (f3 : Arv Z h0 ta ka .byte na vsa (.int 0)) (hg : OwnL na vsa i1 c1) :
    MetFree l mN35 (head1 (Jvm.Cond.code mN35 jdk_42_method_56_code 2 (some .char) :: ws) (oR 3 0 0 40)) (fun a U => a = #[(.ref a1), (.int i1)] ∧ Z.Warmed39 U.vm ∧ U.heap = h0) (fun _ _ _ _ _ => True) (fun _ U o U' => ∃ v L, o = .returned v ∧ Q_chL Z a1 ta ka na vsa i1 c1 h0 n0 v U'.heap L ∧ FrameEnd U o U' L (oR 3 0 0 40).cells (oR 3 0 0 40).slots) := by
  refine MetFree.of_bodySF (plainFor_of_name pn_52039224) hisR ?_
  intro p e s m args below meth c s₁ Bd hml0 hP hK
  obtain ⟨rfl, hZ, hh⟩ := hP
  obtain ⟨wO2, wP5, wO4, wrG3, hstr⟩ := id cx
  have hx := Bd.exec
  have hby := Bd.bytes
  have hlk := Bd.notSynchronized
  have hml : c.maxLocals = 2 := hml0
  have hown : s.vm.findClass "java/lang/String" = some m.cls := findClass_of_methodNamed Bd.named
  have hnm := (name_of_methodNamed Bd.named Bd.method).1
  have X0 : Stand p l e (oR 3 0 0 40) s m #[(.ref a1), (.int i1)] below meth c s₁ [] 0 0 := Stand.of_body Bd
  have e0 : s₁.heap = h0 := by rw [← hh, Bd.state]; rfl
  have N0 := Fr.nil n0
  have Z0 : n0 ≤ h0.size := X00.1 ▸ X00.2.1
  have K0 : Keep h0 h0 ([] : List Addr) := Keep.refl _ _
  show OwnGoes p e below _ s₁ (entryFrame m _ _)
  refine og s₁ m 0 #[vR a1, vI i1] [] (fun tgt kgo => castTop (ef_chL m a1 i1) kgo) ?_
  obtain ⟨_, _, _, _, hn⟩ := id hg
  refine og s₁ m 1 #[vR a1, vI i1] [(.ref a1)] (fun tgt kgo => ?_) ?_
  · refine XS.aloadN X0.here hx rfl (hb hby d35_0) rfl rfl ?_
    exact kgo
  obtain ⟨cq1, kq1, q1a, q1b, q1c⟩ := isOf (s := s) hZ e0 f0
  obtain ⟨_, _, ⟨T1, L1, k1, n1⟩, -, X1, ⟨Lc1, hQ1, l1, y1, z1⟩, st1⟩ := X0.virtualBack hx (y := mN31) (z := mN31) hown (mvT hZ (own_w hw 195 rfl)) (mvT hZ (own_w hw 196 rfl)) (notFace_of_selects (args := #[]) (mvT hZ (own_w hw 198 rfl))) (mvT hZ (own_w hw 198 rfl)) (mvT hZ (own_w hw 197 rfl)) (by decide) (backOf (W := 0) (rm_isl1 l Z a0 hw [] wG1 wG3 cx hEL h0 n0 X00 a1 f0 f2) hZ (own_w hw 199 rfl) (own_w hw 6 rfl) (by decide) (by decide)) q1a q1c (g := (mkF m 1 #[vR a1, vI i1] [(.ref a1)])) rfl (by rw [hml]; rfl) (Steps.refl _) (argsL := []) (rest := []) (lenOf pd_15861835 rfl) rfl (Nat.le_of_eq rfl) (hb hby d35_1) (fun _ _ => ⟨rfl, e0, (by decide : 0 + 0 ≤ _), (by decide : 0 + 0 ≤ _)⟩)
  dsimp only [Pt.U, Pt.locs, Pt.cells, Pt.slots] at X1 l1 y1 z1 st1 hQ1
  subst l1 y1 z1
  obtain ⟨rfl, Nq1, eq1⟩ := hQ1
  refine OwnGoes.tr (T' := T1) (g' := (mkF m 4 #[vR a1, vI i1] [(.int 1)])) st1 ?_
  have N1 := Fr.app N0 Nq1
  refine og T1 m 8 #[vR a1, vI i1] [(.ref a1)] (fun tgt kgo => ?_) ?_
  · refine XS.ifNo X1.here hx rfl (hb hby d35_4) rfl ((if0 _ _).trans (feq (by decide : ¬ ((1 : Int32) = (0 : Int32)))).1) ?_
    show OwnG p e below T1 m 7 #[vR a1, vI i1] [] tgt
    refine XS.aloadN X1.here hx rfl (hb hby d35_7) rfl rfl ?_
    exact kgo
  obtain ⟨T2, X2, e2, st2⟩ := getF X1 hx hZ hown (host := "") (Or.inl (own_w hw 32 rfl)) Via.refl eq1 f1 (g := (mkF m 8 #[vR a1, vI i1] [(.ref a1)])) rfl rfl (hb hby d35_8)
  refine og T2 m 11 #[vR a1, vI i1] [(.ref ta)] st2 ?_
  refine og T2 m 12 #[vR a1, vI i1] [(.int i1), (.ref ta)] (fun tgt kgo => ?_) ?_
  · refine XS.iloadN X2.here hx rfl (hb hby d35_11) rfl ?_
    exact kgo
  obtain ⟨_, _, ⟨T3, L3, k3, n3⟩, -, X3, ⟨Lc3, hQ3, l3, y3, z3⟩, st3⟩ := Jvm.LawKit.callS X2 hx (y := mN34) hown (mvT hZ (own_w hw 200 rfl)) (mvT hZ (own_w hw 201 rfl)) (mvT hZ (own_w hw 42 rfl)) (mvT hZ (own_w hw 202 rfl)) (by decide) (backOf (W := 0) (rm_l1ch l Z a0 hw [] wG1 wG3 cx hEL h0 n0 X00 ta ka na vsa i1 c1 f3 hg) hZ (own_w hw 202 rfl) (own_w hw 42 rfl) (by decide) (by decide)) (g := (mkF m 12 #[vR a1, vI i1] [(.int i1), (.ref ta)])) rfl (by rw [hml]; rfl) (argsL := [(.ref ta), (.int i1)]) (rest := []) (lenOf pd_30427418 rfl) rfl (Nat.le_of_eq rfl) (hb hby d35_12) (fun _ _ => ⟨rfl, e2, (by decide : 0 + 0 ≤ _), (by decide : 0 + 0 ≤ _)⟩)
  dsimp only [Pt.U, Pt.locs, Pt.cells, Pt.slots] at X3 l3 y3 z3 st3 hQ3
  subst l3 y3 z3
  obtain ⟨rfl, Nq3, eq3⟩ := hQ3
  refine og T3 m 15 #[vR a1, vI i1] [(.int c1)] st3 ?_
  have N3 := Fr.app N1 Nq3
  refine own_leave X3 hlk (v := some (.int c1)) (fun h => by rw [Bd.returns] at h; cases h) (fun fs hr => retN X3 hx (t := .char) Bd.returns (by simp) (hb hby d35_15) (by rw [hn]; exact hr)) (by decide) (by decide) ?_
  show Q_chL Z a1 ta ka na vsa i1 c1 h0 n0 _ T3.heap _
  rw [eq3]
  exact ⟨rfl, N3, rfl⟩
theorem ef_expd (m : MethodId) (x0 : Int32) (x1 : Addr) (x2 : Addr) : entryFrame m #[(.int x0), (.ref x1), (.ref x2)] 5 = mkF m 0 #[vI x0, vR x1, vR x2, vU, vU] [] := by
  first | (simp [entryFrame, mkF, argsToLocals, Value.category]; done) | rfl
def Q_expd (Z : State) (j1 : Nat) (kk : Addr) (tk : Addr) (kk1 : ClassId) (nk : Int32) (vk : List Value) (oo : Addr) (to : Addr) (ko1 : ClassId) (no : Int32) (vo : List Value) (csk : List Int32) (cso : List Int32) (h0 : Heap) (n0 : Nat) (v : Option Value) (h : Heap) (L : List Loc) : Prop := v = some (.int ((OwnR csk cso).getD j1 0)) ∧ Fr n0 L ∧ h = h0
theorem d36_0 : decode method_5_code 0 = .ok (.aload_n 1, 1) := by decide +kernel
theorem d36_1 : decode method_5_code 1 = .ok (.invokevirtual 28, 3) := by decide +kernel
theorem d36_4 : decode method_5_code 4 = .ok (.istore_n 3, 1) := by decide +kernel
theorem d36_5 : decode method_5_code 5 = .ok (.aload_n 2, 1) := by decide +kernel
theorem d36_6 : decode method_5_code 6 = .ok (.invokevirtual 28, 3) := by decide +kernel
theorem d36_9 : decode method_5_code 9 = .ok (.istore 4, 2) := by decide +kernel
theorem d36_11 : decode method_5_code 11 = .ok (.iload_n 0, 1) := by decide +kernel
theorem d36_12 : decode method_5_code 12 = .ok (.iload_n 3, 1) := by decide +kernel
theorem d36_13 : decode method_5_code 13 = .ok (.if_icmp .ge 9, 3) := by decide +kernel
theorem d36_16 : decode method_5_code 16 = .ok (.aload_n 1, 1) := by decide +kernel
theorem d36_17 : decode method_5_code 17 = .ok (.iload_n 0, 1) := by decide +kernel
theorem d36_18 : decode method_5_code 18 = .ok (.invokevirtual 39, 3) := by decide +kernel
theorem pd_17647939 : parseMethodDescriptor "(I)C" = some ⟨[.int], some .char⟩ := by decide +kernel
theorem d36_21 : decode method_5_code 21 = .ok (.ireturn, 1) := by decide +kernel
theorem d36_22 : decode method_5_code 22 = .ok (.iload_n 0, 1) := by decide +kernel
theorem d36_23 : decode method_5_code 23 = .ok (.iload_n 3, 1) := by decide +kernel
theorem d36_24 : decode method_5_code 24 = .ok (.if_icmp .ne 6, 3) := by decide +kernel
theorem d36_27 : decode method_5_code 27 = .ok (.bipush 32, 2) := by decide +kernel
theorem d36_29 : decode method_5_code 29 = .ok (.ireturn, 1) := by decide +kernel
theorem d36_30 : decode method_5_code 30 = .ok (.iload_n 0, 1) := by decide +kernel
theorem d36_31 : decode method_5_code 31 = .ok (.iload_n 3, 1) := by decide +kernel
theorem d36_32 : decode method_5_code 32 = .ok (.iconst 1, 1) := by decide +kernel
theorem d36_33 : decode method_5_code 33 = .ok (.iadd, 1) := by decide +kernel
theorem d36_34 : decode method_5_code 34 = .ok (.if_icmp .ne 6, 3) := by decide +kernel
theorem d36_37 : decode method_5_code 37 = .ok (.bipush 40, 2) := by decide +kernel
theorem d36_39 : decode method_5_code 39 = .ok (.ireturn, 1) := by decide +kernel
theorem d36_40 : decode method_5_code 40 = .ok (.iload_n 0, 1) := by decide +kernel
theorem d36_41 : decode method_5_code 41 = .ok (.iload_n 3, 1) := by decide +kernel
theorem d36_42 : decode method_5_code 42 = .ok (.iconst 2, 1) := by decide +kernel
theorem d36_43 : decode method_5_code 43 = .ok (.iadd, 1) := by decide +kernel
theorem d36_44 : decode method_5_code 44 = .ok (.iload 4, 2) := by decide +kernel
theorem d36_46 : decode method_5_code 46 = .ok (.iadd, 1) := by decide +kernel
theorem d36_47 : decode method_5_code 47 = .ok (.if_icmp .ge 13, 3) := by decide +kernel
theorem d36_50 : decode method_5_code 50 = .ok (.aload_n 2, 1) := by decide +kernel
theorem d36_51 : decode method_5_code 51 = .ok (.iload_n 0, 1) := by decide +kernel
theorem d36_52 : decode method_5_code 52 = .ok (.iload_n 3, 1) := by decide +kernel
theorem d36_53 : decode method_5_code 53 = .ok (.isub, 1) := by decide +kernel
theorem d36_54 : decode method_5_code 54 = .ok (.iconst 2, 1) := by decide +kernel
theorem d36_55 : decode method_5_code 55 = .ok (.isub, 1) := by decide +kernel
theorem d36_56 : decode method_5_code 56 = .ok (.invokevirtual 39, 3) := by decide +kernel
theorem d36_59 : decode method_5_code 59 = .ok (.ireturn, 1) := by decide +kernel
theorem d36_60 : decode method_5_code 60 = .ok (.bipush 41, 2) := by decide +kernel
theorem d36_62 : decode method_5_code 62 = .ok (.ireturn, 1) := by decide +kernel
set_option maxRecDepth 65536 in
set_option maxHeartbeats 40000000 in
theorem rm_expd (l : Launch) (Z : State) (a0 : Array Value) (hw : ∀ d ∈ tables_1, d.before a0 Z = true) (ws : List Jvm.Cond) (wG1 : Int32) (wG3 : Value) (cx : OwnCx Z a0 wG1 wG3) (hEL : EW Z a0 consts_1) (h0 : Heap) (n0 : Nat) (X00 : Old Z n0 h0) (j1 : Nat) (kk : Addr) (tk : Addr) (kk1 : ClassId) (nk : Int32) (vk : List Value) (oo : Addr) (to : Addr) (ko1 : ClassId) (no : Int32) (vo : List Value) (csk : List Int32) (cso : List Int32) (f0 : Exa Z h0 kk "java/lang/String") (f1 : Fld Z h0 kk "java/lang/String" "value" "[B" (.ref tk)) (f2 : Fld Z h0 kk "java/lang/String" "coder" "B" (.int 0)) (f3 : Arv Z h0 tk kk1 .byte nk vk (.int 0)) (f4 : Exa Z h0 oo "java/lang/String") (f5 : Fld Z h0 oo "java/lang/String" "value" "[B" (.ref to)) (f6 : Fld Z h0 oo "java/lang/String" "coder" "B" (.int 0)) (f7 : Arv Z h0 to ko1 .byte no vo (.int 0)) (hok : OwnStr csk (0 : Int32) nk vk) (hoo : OwnStr cso (0 : Int32) no vo) (hk2 : csk.length ≤ 2) (ho2 : cso.length ≤ 2) (hj6 : j1 ≤ 6) (hjl : j1 < csk.length + cso.length + 3) (hnr : nar .char ((OwnR csk cso).getD j1 0) = ((OwnR csk cso).getD j1 0)) :
    MetFree l mN36 (head1 (Jvm.Cond.code mN36 method_5_code 5 (some .char) :: ws) (oR 4 0 0 53)) (fun a U => a = #[(.int (Int32.ofNat j1)), (.ref kk), (.ref oo)] ∧ Z.Warmed39 U.vm ∧ U.heap = h0) (fun _ _ _ _ _ => True) (fun _ U o U' => ∃ v L, o = .returned v ∧ Q_expd Z j1 kk tk kk1 nk vk oo to ko1 no vo csk cso h0 n0 v U'.heap L ∧ FrameEnd U o U' L (oR 4 0 0 53).cells (oR 4 0 0 53).slots) := by
  refine MetFree.of_bodySF (plainFor_of_name pn_42314677) hisR ?_
  intro p e s m args below meth c s₁ Bd hml0 hP hK
  obtain ⟨rfl, hZ, hh⟩ := hP
  obtain ⟨wO2, wP5, wO4, wrG3, hstr⟩ := id cx
  have hx := Bd.exec
  have hby := Bd.bytes
  have hlk := Bd.notSynchronized
  have hml : c.maxLocals = 5 := hml0
  have hown : s.vm.findClass "com/example/kindling/kindling/config/SettingKeyAndOriginPinLaw" = some m.cls := findClass_of_methodNamed Bd.named
  have hnm := (name_of_methodNamed Bd.named Bd.method).1
  have X0 : Stand p l e (oR 4 0 0 53) s m #[(.int (Int32.ofNat j1)), (.ref kk), (.ref oo)] below meth c s₁ [] 0 0 := Stand.of_body Bd
  have e0 : s₁.heap = h0 := by rw [← hh, Bd.state]; rfl
  have N0 := Fr.nil n0
  have Z0 : n0 ≤ h0.size := X00.1 ▸ X00.2.1
  have K0 : Keep h0 h0 ([] : List Addr) := Keep.refl _ _
  show OwnGoes p e below _ s₁ (entryFrame m _ _)
  refine og s₁ m 0 #[vI (Int32.ofNat j1), vR kk, vR oo, vU, vU] [] (fun tgt kgo => castTop (ef_expd m (Int32.ofNat j1) kk oo) kgo) ?_
  refine og s₁ m 1 #[vI (Int32.ofNat j1), vR kk, vR oo, vU, vU] [(.ref kk)] (fun tgt kgo => ?_) ?_
  · refine XS.aloadN X0.here hx rfl (hb hby d36_0) rfl rfl ?_
    exact kgo
  obtain ⟨cq1, kq1, q1a, q1b, q1c⟩ := isOf (s := s) hZ e0 f0
  obtain ⟨_, _, ⟨T1, L1, k1, n1⟩, -, X1, ⟨Lc1, hQ1, l1, y1, z1⟩, st1⟩ := X0.virtualBack hx (y := mN7) (z := mN7) hown (mvT hZ (own_w hw 186 rfl)) (mvT hZ (own_w hw 103 rfl)) (notFace_of_selects (args := #[]) (mvT hZ (own_w hw 105 rfl))) (mvT hZ (own_w hw 105 rfl)) (mvT hZ (own_w hw 104 rfl)) (by decide) (backOf (W := 0) (rm_len l Z a0 hw [] wG1 wG3 cx hEL h0 n0 X00 kk tk kk1 nk vk f0 f1 f2 f3) hZ (own_w hw 106 rfl) (own_w hw 6 rfl) (by decide) (by decide)) q1a q1c (g := (mkF m 1 #[vI (Int32.ofNat j1), vR kk, vR oo, vU, vU] [(.ref kk)])) rfl (by rw [hml]; rfl) (Steps.refl _) (argsL := []) (rest := []) (lenOf pd_86913941 rfl) rfl (Nat.le_of_eq rfl) (hb hby d36_1) (fun _ _ => ⟨rfl, e0, (by decide : 0 + 0 ≤ _), (by decide : 0 + 0 ≤ _)⟩)
  dsimp only [Pt.U, Pt.locs, Pt.cells, Pt.slots] at X1 l1 y1 z1 st1 hQ1
  subst l1 y1 z1
  obtain ⟨rfl, Nq1, eq1⟩ := hQ1
  refine OwnGoes.tr (T' := T1) (g' := (mkF m 4 #[vI (Int32.ofNat j1), vR kk, vR oo, vU, vU] [(.int nk)])) st1 ?_
  have N1 := Fr.app N0 Nq1
  refine og T1 m 6 #[vI (Int32.ofNat j1), vR kk, vR oo, vI nk, vU] [(.ref oo)] (fun tgt kgo => ?_) ?_
  · refine XS.istoreN X1.here hx rfl (hb hby d36_4) rfl (l' := #[vI (Int32.ofNat j1), vR kk, vR oo, vI nk, vU]) rfl ?_
    show OwnG p e below T1 m 5 #[vI (Int32.ofNat j1), vR kk, vR oo, vI nk, vU] [] tgt
    refine XS.aloadN X1.here hx rfl (hb hby d36_5) rfl rfl ?_
    exact kgo
  obtain ⟨cq2, kq2, q2a, q2b, q2c⟩ := isOf (s := s) hZ eq1 f4
  obtain ⟨_, _, ⟨T2, L2, k2, n2⟩, -, X2, ⟨Lc2, hQ2, l2, y2, z2⟩, st2⟩ := X1.virtualBack hx (y := mN7) (z := mN7) hown (mvT hZ (own_w hw 186 rfl)) (mvT hZ (own_w hw 103 rfl)) (notFace_of_selects (args := #[]) (mvT hZ (own_w hw 105 rfl))) (mvT hZ (own_w hw 105 rfl)) (mvT hZ (own_w hw 104 rfl)) (by decide) (backOf (W := 0) (rm_len l Z a0 hw [] wG1 wG3 cx hEL h0 n0 X00 oo to ko1 no vo f4 f5 f6 f7) hZ (own_w hw 106 rfl) (own_w hw 6 rfl) (by decide) (by decide)) q2a q2c (g := (mkF m 6 #[vI (Int32.ofNat j1), vR kk, vR oo, vI nk, vU] [(.ref oo)])) rfl (by rw [hml]; rfl) (Steps.refl _) (argsL := []) (rest := []) (lenOf pd_86913941 rfl) rfl (Nat.le_of_eq rfl) (hb hby d36_6) (fun _ _ => ⟨rfl, eq1, (by decide : 0 + 0 ≤ _), (by decide : 0 + 0 ≤ _)⟩)
  dsimp only [Pt.U, Pt.locs, Pt.cells, Pt.slots] at X2 l2 y2 z2 st2 hQ2
  subst l2 y2 z2
  obtain ⟨rfl, Nq2, eq2⟩ := hQ2
  refine OwnGoes.tr (T' := T2) (g' := (mkF m 9 #[vI (Int32.ofNat j1), vR kk, vR oo, vI nk, vU] [(.int no)])) st2 ?_
  have N2 := Fr.app N1 Nq2
  refine og T2 m 13 #[vI (Int32.ofNat j1), vR kk, vR oo, vI nk, vI no] [(.int nk), (.int (Int32.ofNat j1))] (fun tgt kgo => ?_) ?_
  · refine XS.istore X2.here hx rfl (hb hby d36_9) rfl (l' := #[vI (Int32.ofNat j1), vR kk, vR oo, vI nk, vI no]) rfl ?_
    show OwnG p e below T2 m 11 #[vI (Int32.ofNat j1), vR kk, vR oo, vI nk, vI no] [] tgt
    refine XS.iloadN X2.here hx rfl (hb hby d36_11) rfl ?_
    show OwnG p e below T2 m 12 #[vI (Int32.ofNat j1), vR kk, vR oo, vI nk, vI no] [(.int (Int32.ofNat j1))] tgt
    refine XS.iloadN X2.here hx rfl (hb hby d36_12) rfl ?_
    exact kgo
  by_cases cc3 : (Int32.ofNat j1) < nk
  · skip
    refine og T2 m 18 #[vI (Int32.ofNat j1), vR kk, vR oo, vI nk, vI no] [(.int (Int32.ofNat j1)), (.ref kk)] (fun tgt kgo => ?_) ?_
    · refine XS.icmpNo X2.here hx rfl (hb hby d36_13) rfl (tlt cc3).2.1 ?_
      show OwnG p e below T2 m 16 #[vI (Int32.ofNat j1), vR kk, vR oo, vI nk, vI no] [] tgt
      refine XS.aloadN X2.here hx rfl (hb hby d36_16) rfl rfl ?_
      show OwnG p e below T2 m 17 #[vI (Int32.ofNat j1), vR kk, vR oo, vI nk, vI no] [(.ref kk)] tgt
      refine XS.iloadN X2.here hx rfl (hb hby d36_17) rfl ?_
      exact kgo
    obtain ⟨cq4, kq4, q4a, q4b, q4c⟩ := isOf (s := s) hZ eq2 f0
    obtain ⟨_, _, ⟨T4, L4, k4, n4⟩, -, X4, ⟨Lc4, hQ4, l4, y4, z4⟩, st4⟩ := X2.virtualBack hx (y := mN35) (z := mN35) hown (mvT hZ (own_w hw 190 rfl)) (mvT hZ (own_w hw 191 rfl)) (notFace_of_selects (args := #[]) (mvT hZ (own_w hw 193 rfl))) (mvT hZ (own_w hw 193 rfl)) (mvT hZ (own_w hw 192 rfl)) (by decide) (backOf (W := 0) (rm_chL l Z a0 hw [] wG1 wG3 cx hEL h0 n0 X00 kk tk kk1 nk vk (Int32.ofNat j1) (csk.getD j1 0) f0 f1 f2 f3 (own_chL hok (own_e1 (o := cso) (no := no) (vo := vo) hok hj6 cc3).2)) hZ (own_w hw 194 rfl) (own_w hw 6 rfl) (by decide) (by decide)) q4a q4c (g := (mkF m 18 #[vI (Int32.ofNat j1), vR kk, vR oo, vI nk, vI no] [(.int (Int32.ofNat j1)), (.ref kk)])) rfl (by rw [hml]; rfl) (Steps.refl _) (argsL := [(.int (Int32.ofNat j1))]) (rest := []) (lenOf pd_17647939 rfl) rfl (Nat.le_of_eq rfl) (hb hby d36_18) (fun _ _ => ⟨rfl, eq2, (by decide : 0 + 0 ≤ _), (by decide : 0 + 0 ≤ _)⟩)
    dsimp only [Pt.U, Pt.locs, Pt.cells, Pt.slots] at X4 l4 y4 z4 st4 hQ4
    subst l4 y4 z4
    obtain ⟨rfl, Nq4, eq4⟩ := hQ4
    refine OwnGoes.tr (T' := T4) (g' := (mkF m 21 #[vI (Int32.ofNat j1), vR kk, vR oo, vI nk, vI no] [(.int (csk.getD j1 0))])) st4 ?_
    have N4 := Fr.app N2 Nq4
    refine og T4 m 21 #[vI (Int32.ofNat j1), vR kk, vR oo, vI nk, vI no] [(.int ((OwnR csk cso).getD j1 0))] (fun tgt kgo => castTop (by rw [← (own_e1 (o := cso) (no := no) (vo := vo) hok hj6 cc3).1]) kgo) ?_
    refine own_leave X4 hlk (v := some (.int ((OwnR csk cso).getD j1 0))) (fun h => by rw [Bd.returns] at h; cases h) (fun fs hr => retN X4 hx (t := .char) Bd.returns (by simp) (hb hby d36_21) (by rw [hnr]; exact hr)) (by decide) (by decide) ?_
    show Q_expd Z j1 kk tk kk1 nk vk oo to ko1 no vo csk cso h0 n0 _ T4.heap _
    rw [eq4]
    exact ⟨rfl, N4, rfl⟩
  refine og T2 m 24 #[vI (Int32.ofNat j1), vR kk, vR oo, vI nk, vI no] [(.int nk), (.int (Int32.ofNat j1))] (fun tgt kgo => ?_) ?_
  · refine XS.icmpYes X2.here hx rfl (pc0 := 13) (pc' := 22) rfl (hb hby d36_13) rfl (flt cc3).2.1 (by decide) (by decide) ?_
    show OwnG p e below T2 m 22 #[vI (Int32.ofNat j1), vR kk, vR oo, vI nk, vI no] [] tgt
    refine XS.iloadN X2.here hx rfl (hb hby d36_22) rfl ?_
    show OwnG p e below T2 m 23 #[vI (Int32.ofNat j1), vR kk, vR oo, vI nk, vI no] [(.int (Int32.ofNat j1))] tgt
    refine XS.iloadN X2.here hx rfl (hb hby d36_23) rfl ?_
    exact kgo
  by_cases cc6 : (Int32.ofNat j1) = nk
  · skip
    refine og T2 m 29 #[vI (Int32.ofNat j1), vR kk, vR oo, vI nk, vI no] [(.int 32)] (fun tgt kgo => ?_) ?_
    · refine XS.icmpNo X2.here hx rfl (hb hby d36_24) rfl (teq cc6).2 ?_
      show OwnG p e below T2 m 27 #[vI (Int32.ofNat j1), vR kk, vR oo, vI nk, vI no] [] tgt
      refine XS.bipush X2.here hx rfl (hb hby d36_27) ?_
      exact kgo
    refine og T2 m 29 #[vI (Int32.ofNat j1), vR kk, vR oo, vI nk, vI no] [(.int ((OwnR csk cso).getD j1 0))] (fun tgt kgo => castTop (by rw [← (own_e2 (o := cso) hok hj6 cc6)]) kgo) ?_
    refine own_leave X2 hlk (v := some (.int ((OwnR csk cso).getD j1 0))) (fun h => by rw [Bd.returns] at h; cases h) (fun fs hr => retN X2 hx (t := .char) Bd.returns (by simp) (hb hby d36_29) (by rw [hnr]; exact hr)) (by decide) (by decide) ?_
    show Q_expd Z j1 kk tk kk1 nk vk oo to ko1 no vo csk cso h0 n0 _ T2.heap _
    rw [eq2]
    exact ⟨rfl, N2, rfl⟩
  refine og T2 m 34 #[vI (Int32.ofNat j1), vR kk, vR oo, vI nk, vI no] [(.int (nk + (1 : Int32))), (.int (Int32.ofNat j1))] (fun tgt kgo => ?_) ?_
  · refine XS.icmpYes X2.here hx rfl (pc0 := 24) (pc' := 30) rfl (hb hby d36_24) rfl (feq cc6).2 (by decide) (by decide) ?_
    show OwnG p e below T2 m 30 #[vI (Int32.ofNat j1), vR kk, vR oo, vI nk, vI no] [] tgt
    refine XS.iloadN X2.here hx rfl (hb hby d36_30) rfl ?_
    show OwnG p e below T2 m 31 #[vI (Int32.ofNat j1), vR kk, vR oo, vI nk, vI no] [(.int (Int32.ofNat j1))] tgt
    refine XS.iloadN X2.here hx rfl (hb hby d36_31) rfl ?_
    show OwnG p e below T2 m 32 #[vI (Int32.ofNat j1), vR kk, vR oo, vI nk, vI no] [(.int nk), (.int (Int32.ofNat j1))] tgt
    refine XS.iconst X2.here hx rfl (hb hby d36_32) ?_
    show OwnG p e below T2 m 33 #[vI (Int32.ofNat j1), vR kk, vR oo, vI nk, vI no] [(.int 1), (.int nk), (.int (Int32.ofNat j1))] tgt
    refine XS.iadd X2.here hx rfl (hb hby d36_33) rfl ?_
    exact kgo
  by_cases cc8 : (Int32.ofNat j1) = (nk + (1 : Int32))
  · skip
    refine og T2 m 39 #[vI (Int32.ofNat j1), vR kk, vR oo, vI nk, vI no] [(.int 40)] (fun tgt kgo => ?_) ?_
    · refine XS.icmpNo X2.here hx rfl (hb hby d36_34) rfl (teq cc8).2 ?_
      show OwnG p e below T2 m 37 #[vI (Int32.ofNat j1), vR kk, vR oo, vI nk, vI no] [] tgt
      refine XS.bipush X2.here hx rfl (hb hby d36_37) ?_
      exact kgo
    refine og T2 m 39 #[vI (Int32.ofNat j1), vR kk, vR oo, vI nk, vI no] [(.int ((OwnR csk cso).getD j1 0))] (fun tgt kgo => castTop (by rw [← (own_e3 (o := cso) hok hk2 hj6 cc8)]) kgo) ?_
    refine own_leave X2 hlk (v := some (.int ((OwnR csk cso).getD j1 0))) (fun h => by rw [Bd.returns] at h; cases h) (fun fs hr => retN X2 hx (t := .char) Bd.returns (by simp) (hb hby d36_39) (by rw [hnr]; exact hr)) (by decide) (by decide) ?_
    show Q_expd Z j1 kk tk kk1 nk vk oo to ko1 no vo csk cso h0 n0 _ T2.heap _
    rw [eq2]
    exact ⟨rfl, N2, rfl⟩
  refine og T2 m 47 #[vI (Int32.ofNat j1), vR kk, vR oo, vI nk, vI no] [(.int ((nk + (2 : Int32)) + no)), (.int (Int32.ofNat j1))] (fun tgt kgo => ?_) ?_
  · refine XS.icmpYes X2.here hx rfl (pc0 := 34) (pc' := 40) rfl (hb hby d36_34) rfl (feq cc8).2 (by decide) (by decide) ?_
    show OwnG p e below T2 m 40 #[vI (Int32.ofNat j1), vR kk, vR oo, vI nk, vI no] [] tgt
    refine XS.iloadN X2.here hx rfl (hb hby d36_40) rfl ?_
    show OwnG p e below T2 m 41 #[vI (Int32.ofNat j1), vR kk, vR oo, vI nk, vI no] [(.int (Int32.ofNat j1))] tgt
    refine XS.iloadN X2.here hx rfl (hb hby d36_41) rfl ?_
    show OwnG p e below T2 m 42 #[vI (Int32.ofNat j1), vR kk, vR oo, vI nk, vI no] [(.int nk), (.int (Int32.ofNat j1))] tgt
    refine XS.iconst X2.here hx rfl (hb hby d36_42) ?_
    show OwnG p e below T2 m 43 #[vI (Int32.ofNat j1), vR kk, vR oo, vI nk, vI no] [(.int 2), (.int nk), (.int (Int32.ofNat j1))] tgt
    refine XS.iadd X2.here hx rfl (hb hby d36_43) rfl ?_
    show OwnG p e below T2 m 44 #[vI (Int32.ofNat j1), vR kk, vR oo, vI nk, vI no] [(.int (nk + (2 : Int32))), (.int (Int32.ofNat j1))] tgt
    refine XS.iload X2.here hx rfl (hb hby d36_44) rfl ?_
    show OwnG p e below T2 m 46 #[vI (Int32.ofNat j1), vR kk, vR oo, vI nk, vI no] [(.int no), (.int (nk + (2 : Int32))), (.int (Int32.ofNat j1))] tgt
    refine XS.iadd X2.here hx rfl (hb hby d36_46) rfl ?_
    exact kgo
  by_cases cc10 : (Int32.ofNat j1) < ((nk + (2 : Int32)) + no)
  · skip
    refine og T2 m 56 #[vI (Int32.ofNat j1), vR kk, vR oo, vI nk, vI no] [(.int (((Int32.ofNat j1) - nk) - (2 : Int32))), (.ref oo)] (fun tgt kgo => ?_) ?_
    · refine XS.icmpNo X2.here hx rfl (hb hby d36_47) rfl (tlt cc10).2.1 ?_
      show OwnG p e below T2 m 50 #[vI (Int32.ofNat j1), vR kk, vR oo, vI nk, vI no] [] tgt
      refine XS.aloadN X2.here hx rfl (hb hby d36_50) rfl rfl ?_
      show OwnG p e below T2 m 51 #[vI (Int32.ofNat j1), vR kk, vR oo, vI nk, vI no] [(.ref oo)] tgt
      refine XS.iloadN X2.here hx rfl (hb hby d36_51) rfl ?_
      show OwnG p e below T2 m 52 #[vI (Int32.ofNat j1), vR kk, vR oo, vI nk, vI no] [(.int (Int32.ofNat j1)), (.ref oo)] tgt
      refine XS.iloadN X2.here hx rfl (hb hby d36_52) rfl ?_
      show OwnG p e below T2 m 53 #[vI (Int32.ofNat j1), vR kk, vR oo, vI nk, vI no] [(.int nk), (.int (Int32.ofNat j1)), (.ref oo)] tgt
      refine XS.isub X2.here hx rfl (hb hby d36_53) rfl ?_
      show OwnG p e below T2 m 54 #[vI (Int32.ofNat j1), vR kk, vR oo, vI nk, vI no] [(.int ((Int32.ofNat j1) - nk)), (.ref oo)] tgt
      refine XS.iconst X2.here hx rfl (hb hby d36_54) ?_
      show OwnG p e below T2 m 55 #[vI (Int32.ofNat j1), vR kk, vR oo, vI nk, vI no] [(.int 2), (.int ((Int32.ofNat j1) - nk)), (.ref oo)] tgt
      refine XS.isub X2.here hx rfl (hb hby d36_55) rfl ?_
      exact kgo
    refine og T2 m 56 #[vI (Int32.ofNat j1), vR kk, vR oo, vI nk, vI no] [(.int (Int32.ofNat (j1 - csk.length - 2))), (.ref oo)] (fun tgt kgo => castTop (by rw [(own_e4 hok hoo hk2 ho2 hj6 cc3 cc6 cc8 cc10).2.1]) kgo) ?_
    obtain ⟨cq11, kq11, q11a, q11b, q11c⟩ := isOf (s := s) hZ eq2 f4
    obtain ⟨_, _, ⟨T11, L11, k11, n11⟩, -, X11, ⟨Lc11, hQ11, l11, y11, z11⟩, st11⟩ := X2.virtualBack hx (y := mN35) (z := mN35) hown (mvT hZ (own_w hw 190 rfl)) (mvT hZ (own_w hw 191 rfl)) (notFace_of_selects (args := #[]) (mvT hZ (own_w hw 193 rfl))) (mvT hZ (own_w hw 193 rfl)) (mvT hZ (own_w hw 192 rfl)) (by decide) (backOf (W := 0) (rm_chL l Z a0 hw [] wG1 wG3 cx hEL h0 n0 X00 oo to ko1 no vo (Int32.ofNat (j1 - csk.length - 2)) (cso.getD (j1 - csk.length - 2) 0) f4 f5 f6 f7 (own_chL hoo (own_e4 hok hoo hk2 ho2 hj6 cc3 cc6 cc8 cc10).2.2)) hZ (own_w hw 194 rfl) (own_w hw 6 rfl) (by decide) (by decide)) q11a q11c (g := (mkF m 56 #[vI (Int32.ofNat j1), vR kk, vR oo, vI nk, vI no] [(.int (Int32.ofNat (j1 - csk.length - 2))), (.ref oo)])) rfl (by rw [hml]; rfl) (Steps.refl _) (argsL := [(.int (Int32.ofNat (j1 - csk.length - 2)))]) (rest := []) (lenOf pd_17647939 rfl) rfl (Nat.le_of_eq rfl) (hb hby d36_56) (fun _ _ => ⟨rfl, eq2, (by decide : 0 + 0 ≤ _), (by decide : 0 + 0 ≤ _)⟩)
    dsimp only [Pt.U, Pt.locs, Pt.cells, Pt.slots] at X11 l11 y11 z11 st11 hQ11
    subst l11 y11 z11
    obtain ⟨rfl, Nq11, eq11⟩ := hQ11
    refine OwnGoes.tr (T' := T11) (g' := (mkF m 59 #[vI (Int32.ofNat j1), vR kk, vR oo, vI nk, vI no] [(.int (cso.getD (j1 - csk.length - 2) 0))])) st11 ?_
    have N11 := Fr.app N2 Nq11
    refine og T11 m 59 #[vI (Int32.ofNat j1), vR kk, vR oo, vI nk, vI no] [(.int ((OwnR csk cso).getD j1 0))] (fun tgt kgo => castTop (by rw [← (own_e4 hok hoo hk2 ho2 hj6 cc3 cc6 cc8 cc10).1]) kgo) ?_
    refine own_leave X11 hlk (v := some (.int ((OwnR csk cso).getD j1 0))) (fun h => by rw [Bd.returns] at h; cases h) (fun fs hr => retN X11 hx (t := .char) Bd.returns (by simp) (hb hby d36_59) (by rw [hnr]; exact hr)) (by decide) (by decide) ?_
    show Q_expd Z j1 kk tk kk1 nk vk oo to ko1 no vo csk cso h0 n0 _ T11.heap _
    rw [eq11]
    exact ⟨rfl, N11, rfl⟩
  refine og T2 m 62 #[vI (Int32.ofNat j1), vR kk, vR oo, vI nk, vI no] [(.int 41)] (fun tgt kgo => ?_) ?_
  · refine XS.icmpYes X2.here hx rfl (pc0 := 47) (pc' := 60) rfl (hb hby d36_47) rfl (flt cc10).2.1 (by decide) (by decide) ?_
    show OwnG p e below T2 m 60 #[vI (Int32.ofNat j1), vR kk, vR oo, vI nk, vI no] [] tgt
    refine XS.bipush X2.here hx rfl (hb hby d36_60) ?_
    exact kgo
  refine og T2 m 62 #[vI (Int32.ofNat j1), vR kk, vR oo, vI nk, vI no] [(.int ((OwnR csk cso).getD j1 0))] (fun tgt kgo => castTop (by rw [← (own_e5 hok hoo hk2 ho2 hj6 hjl cc10)]) kgo) ?_
  refine own_leave X2 hlk (v := some (.int ((OwnR csk cso).getD j1 0))) (fun h => by rw [Bd.returns] at h; cases h) (fun fs hr => retN X2 hx (t := .char) Bd.returns (by simp) (hb hby d36_62) (by rw [hnr]; exact hr)) (by decide) (by decide) ?_
  show Q_expd Z j1 kk tk kk1 nk vk oo to ko1 no vo csk cso h0 n0 _ T2.heap _
  rw [eq2]
  exact ⟨rfl, N2, rfl⟩
theorem ef_at (m : MethodId) (x0 : Addr) (x1 : Int32) (x2 : Addr) (x3 : Addr) (x4 : Int32) : entryFrame m #[(.ref x0), (.int x1), (.ref x2), (.ref x3), (.int x4)] 5 = mkF m 0 #[vR x0, vI x1, vR x2, vR x3, vI x4] [] := by
  first | (simp [entryFrame, mkF, argsToLocals, Value.category]; done) | rfl
def Q_at (Z : State) (j1 : Nat) (nn1 : Int32) (rr : Addr) (tr : Addr) (kr1 : ClassId) (nr : Int32) (vr : List Value) (kk : Addr) (tk : Addr) (kk1 : ClassId) (nk : Int32) (vk : List Value) (oo : Addr) (to : Addr) (ko1 : ClassId) (no : Int32) (vo : List Value) (csk : List Int32) (cso : List Int32) (h0 : Heap) (n0 : Nat) (v : Option Value) (h : Heap) (L : List Loc) : Prop := v = some (.int 1) ∧ Fr n0 L ∧ h = h0
theorem d37_0 : decode method_4_code 0 = .ok (.iload_n 1, 1) := by decide +kernel
theorem d37_1 : decode method_4_code 1 = .ok (.iload 4, 2) := by decide +kernel
theorem d37_3 : decode method_4_code 3 = .ok (.if_icmp .lt 5, 3) := by decide +kernel
theorem d37_8 : decode method_4_code 8 = .ok (.aload_n 0, 1) := by decide +kernel
theorem d37_9 : decode method_4_code 9 = .ok (.iload_n 1, 1) := by decide +kernel
theorem d37_10 : decode method_4_code 10 = .ok (.invokevirtual 39, 3) := by decide +kernel
theorem d37_13 : decode method_4_code 13 = .ok (.iload_n 1, 1) := by decide +kernel
theorem d37_14 : decode method_4_code 14 = .ok (.aload_n 2, 1) := by decide +kernel
theorem d37_15 : decode method_4_code 15 = .ok (.aload_n 3, 1) := by decide +kernel
theorem d37_16 : decode method_4_code 16 = .ok (.invokestatic 43, 3) := by decide +kernel
theorem pd_90722713 : parseMethodDescriptor "(ILjava/lang/String;Ljava/lang/String;)C" = some ⟨[.int, (.object "java/lang/String"), (.object "java/lang/String")], some .char⟩ := by decide +kernel
theorem d37_19 : decode method_4_code 19 = .ok (.if_icmp .ne 7, 3) := by decide +kernel
theorem d37_22 : decode method_4_code 22 = .ok (.iconst 1, 1) := by decide +kernel
theorem d37_23 : decode method_4_code 23 = .ok (.goto 4, 3) := by decide +kernel
theorem d37_27 : decode method_4_code 27 = .ok (.ireturn, 1) := by decide +kernel
theorem d37_6 : decode method_4_code 6 = .ok (.iconst 1, 1) := by decide +kernel
theorem d37_7 : decode method_4_code 7 = .ok (.ireturn, 1) := by decide +kernel
set_option maxRecDepth 65536 in
set_option maxHeartbeats 40000000 in
theorem rm_at (l : Launch) (Z : State) (a0 : Array Value) (hw : ∀ d ∈ tables_1, d.before a0 Z = true) (ws : List Jvm.Cond) (wG1 : Int32) (wG3 : Value) (cx : OwnCx Z a0 wG1 wG3) (hEL : EW Z a0 consts_1) (h0 : Heap) (n0 : Nat) (X00 : Old Z n0 h0) (j1 : Nat) (nn1 : Int32) (rr : Addr) (tr : Addr) (kr1 : ClassId) (nr : Int32) (vr : List Value) (kk : Addr) (tk : Addr) (kk1 : ClassId) (nk : Int32) (vk : List Value) (oo : Addr) (to : Addr) (ko1 : ClassId) (no : Int32) (vo : List Value) (csk : List Int32) (cso : List Int32) (f0 : Exa Z h0 rr "java/lang/String") (f1 : Fld Z h0 rr "java/lang/String" "value" "[B" (.ref tr)) (f2 : Fld Z h0 rr "java/lang/String" "coder" "B" (.int 0)) (f3 : Arv Z h0 tr kr1 .byte nr vr (.int 0)) (f4 : Exa Z h0 kk "java/lang/String") (f5 : Fld Z h0 kk "java/lang/String" "value" "[B" (.ref tk)) (f6 : Fld Z h0 kk "java/lang/String" "coder" "B" (.int 0)) (f7 : Arv Z h0 tk kk1 .byte nk vk (.int 0)) (f8 : Exa Z h0 oo "java/lang/String") (f9 : Fld Z h0 oo "java/lang/String" "value" "[B" (.ref to)) (f10 : Fld Z h0 oo "java/lang/String" "coder" "B" (.int 0)) (f11 : Arv Z h0 to ko1 .byte no vo (.int 0)) (hok : OwnStr csk (0 : Int32) nk vk) (hoo : OwnStr cso (0 : Int32) no vo) (hk2 : csk.length ≤ 2) (ho2 : cso.length ≤ 2) (hor : OwnStr (OwnR csk cso) (0 : Int32) nr vr) (hj6 : j1 ≤ 6) (hn : nn1 = Int32.ofNat (csk.length + cso.length + 3)) :
    MetFree l mN37 (head1 (Jvm.Cond.code mN37 method_4_code 5 (some .boolean) :: ws) (oR 5 0 0 70)) (fun a U => a = #[(.ref rr), (.int (Int32.ofNat j1)), (.ref kk), (.ref oo), (.int nn1)] ∧ Z.Warmed39 U.vm ∧ U.heap = h0) (fun _ _ _ _ _ => True) (fun _ U o U' => ∃ v L, o = .returned v ∧ Q_at Z j1 nn1 rr tr kr1 nr vr kk tk kk1 nk vk oo to ko1 no vo csk cso h0 n0 v U'.heap L ∧ FrameEnd U o U' L (oR 5 0 0 70).cells (oR 5 0 0 70).slots) := by
  refine MetFree.of_bodySF (plainFor_of_name pn_42314677) hisR ?_
  intro p e s m args below meth c s₁ Bd hml0 hP hK
  obtain ⟨rfl, hZ, hh⟩ := hP
  obtain ⟨wO2, wP5, wO4, wrG3, hstr⟩ := id cx
  have hx := Bd.exec
  have hby := Bd.bytes
  have hlk := Bd.notSynchronized
  have hml : c.maxLocals = 5 := hml0
  have hown : s.vm.findClass "com/example/kindling/kindling/config/SettingKeyAndOriginPinLaw" = some m.cls := findClass_of_methodNamed Bd.named
  have hnm := (name_of_methodNamed Bd.named Bd.method).1
  have X0 : Stand p l e (oR 5 0 0 70) s m #[(.ref rr), (.int (Int32.ofNat j1)), (.ref kk), (.ref oo), (.int nn1)] below meth c s₁ [] 0 0 := Stand.of_body Bd
  have e0 : s₁.heap = h0 := by rw [← hh, Bd.state]; rfl
  have N0 := Fr.nil n0
  have Z0 : n0 ≤ h0.size := X00.1 ▸ X00.2.1
  have K0 : Keep h0 h0 ([] : List Addr) := Keep.refl _ _
  show OwnGoes p e below _ s₁ (entryFrame m _ _)
  refine og s₁ m 0 #[vR rr, vI (Int32.ofNat j1), vR kk, vR oo, vI nn1] [] (fun tgt kgo => castTop (ef_at m rr (Int32.ofNat j1) kk oo nn1) kgo) ?_
  refine og s₁ m 3 #[vR rr, vI (Int32.ofNat j1), vR kk, vR oo, vI nn1] [(.int nn1), (.int (Int32.ofNat j1))] (fun tgt kgo => ?_) ?_
  · refine XS.iloadN X0.here hx rfl (hb hby d37_0) rfl ?_
    show OwnG p e below s₁ m 1 #[vR rr, vI (Int32.ofNat j1), vR kk, vR oo, vI nn1] [(.int (Int32.ofNat j1))] tgt
    refine XS.iload X0.here hx rfl (hb hby d37_1) rfl ?_
    exact kgo
  by_cases cc1 : (Int32.ofNat j1) < nn1
  · skip
    refine og s₁ m 10 #[vR rr, vI (Int32.ofNat j1), vR kk, vR oo, vI nn1] [(.int (Int32.ofNat j1)), (.ref rr)] (fun tgt kgo => ?_) ?_
    · refine XS.icmpYes X0.here hx rfl (pc0 := 3) (pc' := 8) rfl (hb hby d37_3) rfl (tlt cc1).1 (by decide) (by decide) ?_
      show OwnG p e below s₁ m 8 #[vR rr, vI (Int32.ofNat j1), vR kk, vR oo, vI nn1] [] tgt
      refine XS.aloadN X0.here hx rfl (hb hby d37_8) rfl rfl ?_
      show OwnG p e below s₁ m 9 #[vR rr, vI (Int32.ofNat j1), vR kk, vR oo, vI nn1] [(.ref rr)] tgt
      refine XS.iloadN X0.here hx rfl (hb hby d37_9) rfl ?_
      exact kgo
    have hjl : j1 < csk.length + cso.length + 3 := (own_jn hk2 ho2 hj6 hn cc1)
    have hjr : j1 < (OwnR csk cso).length := (own_rlen csk cso).symm ▸ hjl
    obtain ⟨cq2, kq2, q2a, q2b, q2c⟩ := isOf (s := s) hZ e0 f0
    obtain ⟨_, _, ⟨T2, L2, k2, n2⟩, -, X2, ⟨Lc2, hQ2, l2, y2, z2⟩, st2⟩ := X0.virtualBack hx (y := mN35) (z := mN35) hown (mvT hZ (own_w hw 190 rfl)) (mvT hZ (own_w hw 191 rfl)) (notFace_of_selects (args := #[]) (mvT hZ (own_w hw 193 rfl))) (mvT hZ (own_w hw 193 rfl)) (mvT hZ (own_w hw 192 rfl)) (by decide) (backOf (W := 0) (rm_chL l Z a0 hw [] wG1 wG3 cx hEL h0 n0 X00 rr tr kr1 nr vr (Int32.ofNat j1) ((OwnR csk cso).getD j1 0) f0 f1 f2 f3 (own_chL hor hjr)) hZ (own_w hw 194 rfl) (own_w hw 6 rfl) (by decide) (by decide)) q2a q2c (g := (mkF m 10 #[vR rr, vI (Int32.ofNat j1), vR kk, vR oo, vI nn1] [(.int (Int32.ofNat j1)), (.ref rr)])) rfl (by rw [hml]; rfl) (Steps.refl _) (argsL := [(.int (Int32.ofNat j1))]) (rest := []) (lenOf pd_17647939 rfl) rfl (Nat.le_of_eq rfl) (hb hby d37_10) (fun _ _ => ⟨rfl, e0, (by decide : 0 + 0 ≤ _), (by decide : 0 + 0 ≤ _)⟩)
    dsimp only [Pt.U, Pt.locs, Pt.cells, Pt.slots] at X2 l2 y2 z2 st2 hQ2
    subst l2 y2 z2
    obtain ⟨rfl, Nq2, eq2⟩ := hQ2
    refine OwnGoes.tr (T' := T2) (g' := (mkF m 13 #[vR rr, vI (Int32.ofNat j1), vR kk, vR oo, vI nn1] [(.int ((OwnR csk cso).getD j1 0))])) st2 ?_
    have N2 := Fr.app N0 Nq2
    refine og T2 m 16 #[vR rr, vI (Int32.ofNat j1), vR kk, vR oo, vI nn1] [(.ref oo), (.ref kk), (.int (Int32.ofNat j1)), (.int ((OwnR csk cso).getD j1 0))] (fun tgt kgo => ?_) ?_
    · refine XS.iloadN X2.here hx rfl (hb hby d37_13) rfl ?_
      show OwnG p e below T2 m 14 #[vR rr, vI (Int32.ofNat j1), vR kk, vR oo, vI nn1] [(.int (Int32.ofNat j1)), (.int ((OwnR csk cso).getD j1 0))] tgt
      refine XS.aloadN X2.here hx rfl (hb hby d37_14) rfl rfl ?_
      show OwnG p e below T2 m 15 #[vR rr, vI (Int32.ofNat j1), vR kk, vR oo, vI nn1] [(.ref kk), (.int (Int32.ofNat j1)), (.int ((OwnR csk cso).getD j1 0))] tgt
      refine XS.aloadN X2.here hx rfl (hb hby d37_15) rfl rfl ?_
      exact kgo
    obtain ⟨_, _, ⟨T3, L3, k3, n3⟩, -, X3, ⟨Lc3, hQ3, l3, y3, z3⟩, st3⟩ := Jvm.LawKit.callS X2 hx (y := mN36) hown (mvT hZ (own_w hw 211 rfl)) (mvT hZ (own_w hw 212 rfl)) (mvT hZ (own_w hw 2 rfl)) (mvT hZ (own_w hw 213 rfl)) (by decide) (backOf (W := 1) (rm_expd l Z a0 hw [] wG1 wG3 cx hEL h0 n0 X00 j1 kk tk kk1 nk vk oo to ko1 no vo csk cso f4 f5 f6 f7 f8 f9 f10 f11 hok hoo hk2 ho2 hj6 hjl (own_rg hor hjr)) hZ (own_w hw 213 rfl) (own_w hw 2 rfl) (by decide) (by decide)) (g := (mkF m 16 #[vR rr, vI (Int32.ofNat j1), vR kk, vR oo, vI nn1] [(.ref oo), (.ref kk), (.int (Int32.ofNat j1)), (.int ((OwnR csk cso).getD j1 0))])) rfl (by rw [hml]; rfl) (argsL := [(.int (Int32.ofNat j1)), (.ref kk), (.ref oo)]) (rest := [(.int ((OwnR csk cso).getD j1 0))]) (lenOf pd_90722713 rfl) rfl (Nat.le_of_eq rfl) (hb hby d37_16) (fun _ _ => ⟨rfl, eq2, (by decide : 0 + 0 ≤ _), (by decide : 0 + 0 ≤ _)⟩)
    dsimp only [Pt.U, Pt.locs, Pt.cells, Pt.slots] at X3 l3 y3 z3 st3 hQ3
    subst l3 y3 z3
    obtain ⟨rfl, Nq3, eq3⟩ := hQ3
    refine og T3 m 19 #[vR rr, vI (Int32.ofNat j1), vR kk, vR oo, vI nn1] [(.int ((OwnR csk cso).getD j1 0)), (.int ((OwnR csk cso).getD j1 0))] st3 ?_
    have N3 := Fr.app N2 Nq3
    refine og T3 m 27 #[vR rr, vI (Int32.ofNat j1), vR kk, vR oo, vI nn1] [(.int 1)] (fun tgt kgo => ?_) ?_
    · refine XS.icmpNo X3.here hx rfl (hb hby d37_19) rfl (teq (rfl : ((OwnR csk cso).getD j1 0) = ((OwnR csk cso).getD j1 0))).2 ?_
      show OwnG p e below T3 m 22 #[vR rr, vI (Int32.ofNat j1), vR kk, vR oo, vI nn1] [] tgt
      refine XS.iconst X3.here hx rfl (hb hby d37_22) ?_
      show OwnG p e below T3 m 23 #[vR rr, vI (Int32.ofNat j1), vR kk, vR oo, vI nn1] [(.int 1)] tgt
      refine XS.goto X3.here hx rfl (pc0 := 23) (pc' := 27) rfl (hb hby d37_23) (by decide) (by decide) ?_
      exact kgo
    refine own_leave X3 hlk (v := some (.int 1)) (fun h => by rw [Bd.returns] at h; cases h) (fun fs hr => retN X3 hx (t := .boolean) Bd.returns (by simp) (hb hby d37_27) (by rw [(by decide : nar .boolean (1 : Int32) = (1 : Int32))]; exact hr)) (by decide) (by decide) ?_
    show Q_at Z j1 nn1 rr tr kr1 nr vr kk tk kk1 nk vk oo to ko1 no vo csk cso h0 n0 _ T3.heap _
    rw [eq3]
    exact ⟨rfl, N3, rfl⟩
  refine og s₁ m 7 #[vR rr, vI (Int32.ofNat j1), vR kk, vR oo, vI nn1] [(.int 1)] (fun tgt kgo => ?_) ?_
  · refine XS.icmpNo X0.here hx rfl (hb hby d37_3) rfl (flt cc1).1 ?_
    show OwnG p e below s₁ m 6 #[vR rr, vI (Int32.ofNat j1), vR kk, vR oo, vI nn1] [] tgt
    refine XS.iconst X0.here hx rfl (hb hby d37_6) ?_
    exact kgo
  refine own_leave X0 hlk (v := some (.int 1)) (fun h => by rw [Bd.returns] at h; cases h) (fun fs hr => retN X0 hx (t := .boolean) Bd.returns (by simp) (hb hby d37_7) (by rw [(by decide : nar .boolean (1 : Int32) = (1 : Int32))]; exact hr)) (by decide) (by decide) ?_
  show Q_at Z j1 nn1 rr tr kr1 nr vr kk tk kk1 nk vk oo to ko1 no vo csk cso h0 n0 _ s₁.heap _
  rw [e0]
  exact ⟨rfl, N0, rfl⟩
theorem ef_law (m : MethodId) (x0 : Int32) (x1 : Int32) (x2 : Int32) (x3 : Int32) : entryFrame m #[(.int x0), (.int x1), (.int x2), (.int x3)] maxLocals = mkF m 0 #[vI x0, vI x1, vI x2, vI x3, vU, vU, vU, vU, vU, vU, vU, vU] [] := by
  first | (simp [entryFrame, mkF, argsToLocals, Value.category, maxLocals]; done) | rfl
def Q_law (Z : State) (p1 : Int32) (p2 : Int32) (p3 : Int32) (p4 : Int32) (h0 : Heap) (n0 : Nat) (v : Option Value) (h : Heap) (L : List Loc) : Prop := v = some (.int 1) ∧ Fr n0 L
theorem pd_14721152 : parseMethodDescriptor "(ICC)Ljava/lang/String;" = some ⟨[.int, .char, .char], some (.object "java/lang/String")⟩ := by decide +kernel
theorem pd_44149578 : parseMethodDescriptor "(C)Ljava/lang/String;" = some ⟨[.char], some (.object "java/lang/String")⟩ := by decide +kernel
theorem pd_47962633 : parseMethodDescriptor "(Ljava/lang/String;Ljava/lang/String;Ljava/lang/String;)V" = some ⟨[(.object "java/lang/String"), (.object "java/lang/String"), (.object "java/lang/String")], none⟩ := by decide +kernel
theorem pd_40694476 : parseMethodDescriptor "(Ljava/lang/String;ILjava/lang/String;Ljava/lang/String;I)Z" = some ⟨[(.object "java/lang/String"), .int, (.object "java/lang/String"), (.object "java/lang/String"), .int], some .boolean⟩ := by decide +kernel
set_option maxRecDepth 65536 in
set_option maxHeartbeats 40000000 in
theorem rm_law (l : Launch) (Z : State) (a0 : Array Value) (hw : ∀ d ∈ tables_1, d.before a0 Z = true) (ws : List Jvm.Cond) (wG1 : Int32) (wG3 : Value) (cx : OwnCx Z a0 wG1 wG3) (hEL : EW Z a0 consts_1) (h0 : Heap) (n0 : Nat) (X00 : Old Z n0 h0) (p1 : Int32) (p2 : Int32) (p3 : Int32) (p4 : Int32) :
    MetFree l x (head1 (Jvm.Cond.code x code maxLocals ret :: ws) room_1) (fun a U => a = #[(.int p1), (.int p2), (.int p3), (.int p4)] ∧ Z.Warmed39 U.vm ∧ U.heap = h0 ∧ CHv Z consts_1 U.vm h0) (fun _ _ _ _ _ => True) (fun _ U o U' => ∃ v L, o = .returned v ∧ Q_law Z p1 p2 p3 p4 h0 n0 v U'.heap L ∧ CHr Z consts_1 U.vm U.heap U'.vm U'.heap ∧ ReturnedEndW U o U' L room_1.cells room_1.slots) := by
  refine MetFree.of_bodySF (plainFor_of_name pn_42314677) hisR ?_
  intro p e s m args below meth c s₁ Bd hml0 hP hK
  obtain ⟨rfl, hZ, hh, hH⟩ := hP
  obtain ⟨wO2, wP5, wO4, wrG3, hstr⟩ := id cx
  have hx := Bd.exec
  have hby := Bd.bytes
  have hlk := Bd.notSynchronized
  have hml : c.maxLocals = 12 := hml0
  have hown : s.vm.findClass "com/example/kindling/kindling/config/SettingKeyAndOriginPinLaw" = some m.cls := findClass_of_methodNamed Bd.named
  have hnm := (name_of_methodNamed Bd.named Bd.method).1
  have X0 : Stand p l e room_1 (s.setVm s.vm) m #[(.int p1), (.int p2), (.int p3), (.int p4)] below meth c s₁ [] 0 0 := Stand.of_body Bd
  have e0 : s₁.heap = h0 := by rw [← hh, Bd.state]; rfl
  have N0 := Fr.nil n0
  have Z0 : n0 ≤ h0.size := X00.1 ▸ X00.2.1
  have K0 : Keep h0 h0 ([] : List Addr) := Keep.refl _ _
  have R0 : CHr Z consts_1 s.vm h0 s.vm h0 := CHr.refl hH
  have hS0 : s.Since s.vm h0.size := State.WarmedH.since (State.WarmedH.refl s) _
  have hk0 : h0.size ≤ h0.size := Nat.le_refl _
  show OwnGoes p e below _ s₁ (entryFrame m _ _)
  refine og s₁ m 0 #[vI p1, vI p2, vI p3, vI p4, vU, vU, vU, vU, vU, vU, vU, vU] [] (fun tgt kgo => castTop (ef_law m p1 p2 p3 p4) kgo) ?_
  refine og s₁ m 5 #[vI p1, vI p2, vI p3, vI p4, vU, vU, vU, vU, vU, vU, vU, vU] [(.int ((p3 &&& (3 : Int32)) % (3 : Int32)))] (fun tgt kgo => ?_) ?_
  · refine XS.iloadN X0.here hx rfl (hb hby at_0) rfl ?_
    show OwnG p e below s₁ m 1 #[vI p1, vI p2, vI p3, vI p4, vU, vU, vU, vU, vU, vU, vU, vU] [(.int p3)] tgt
    refine XS.iconst X0.here hx rfl (hb hby at_1) ?_
    show OwnG p e below s₁ m 2 #[vI p1, vI p2, vI p3, vI p4, vU, vU, vU, vU, vU, vU, vU, vU] [(.int 3), (.int p3)] tgt
    refine XS.iand X0.here hx rfl (hb hby at_2) rfl ?_
    show OwnG p e below s₁ m 3 #[vI p1, vI p2, vI p3, vI p4, vU, vU, vU, vU, vU, vU, vU, vU] [(.int (p3 &&& (3 : Int32)))] tgt
    refine XS.iconst X0.here hx rfl (hb hby at_3) ?_
    show OwnG p e below s₁ m 4 #[vI p1, vI p2, vI p3, vI p4, vU, vU, vU, vU, vU, vU, vU, vU] [(.int 3), (.int (p3 &&& (3 : Int32)))] tgt
    refine iremM X0 hx rfl (hb hby at_4) rfl (by decide) ?_
    exact kgo
  have h3kl := own_and3 p3
  obtain ⟨kl, hkl⟩ : ∃ z : Int32, ((p3 &&& (3 : Int32)) % (3 : Int32)) = z := ⟨_, rfl⟩
  refine og s₁ m 5 #[vI p1, vI p2, vI p3, vI p4, vU, vU, vU, vU, vU, vU, vU, vU] [(.int kl)] (fun tgt kgo => castTop (by rw [hkl]) kgo) ?_
  rw [hkl] at h3kl
  refine og s₁ m 14 #[vI p1, vI p2, vI p3, vI p4, vI kl, vU, vU, vU, vU, vU, vU, vU] [(.int ((((p3.toUInt32 >>> ((2 : Int32) &&& 31).toUInt32).toInt32) &&& (3 : Int32)) % (3 : Int32)))] (fun tgt kgo => ?_) ?_
  · refine XS.istore X0.here hx rfl (hb hby at_5) rfl (l' := #[vI p1, vI p2, vI p3, vI p4, vI kl, vU, vU, vU, vU, vU, vU, vU]) rfl ?_
    show OwnG p e below s₁ m 7 #[vI p1, vI p2, vI p3, vI p4, vI kl, vU, vU, vU, vU, vU, vU, vU] [] tgt
    refine XS.iloadN X0.here hx rfl (hb hby at_7) rfl ?_
    show OwnG p e below s₁ m 8 #[vI p1, vI p2, vI p3, vI p4, vI kl, vU, vU, vU, vU, vU, vU, vU] [(.int p3)] tgt
    refine XS.iconst X0.here hx rfl (hb hby at_8) ?_
    show OwnG p e below s₁ m 9 #[vI p1, vI p2, vI p3, vI p4, vI kl, vU, vU, vU, vU, vU, vU, vU] [(.int 2), (.int p3)] tgt
    refine XS.iushr X0.here hx rfl (hb hby at_9) rfl ?_
    show OwnG p e below s₁ m 10 #[vI p1, vI p2, vI p3, vI p4, vI kl, vU, vU, vU, vU, vU, vU, vU] [(.int ((p3.toUInt32 >>> ((2 : Int32) &&& 31).toUInt32).toInt32))] tgt
    refine XS.iconst X0.here hx rfl (hb hby at_10) ?_
    show OwnG p e below s₁ m 11 #[vI p1, vI p2, vI p3, vI p4, vI kl, vU, vU, vU, vU, vU, vU, vU] [(.int 3), (.int ((p3.toUInt32 >>> ((2 : Int32) &&& 31).toUInt32).toInt32))] tgt
    refine XS.iand X0.here hx rfl (hb hby at_11) rfl ?_
    show OwnG p e below s₁ m 12 #[vI p1, vI p2, vI p3, vI p4, vI kl, vU, vU, vU, vU, vU, vU, vU] [(.int (((p3.toUInt32 >>> ((2 : Int32) &&& 31).toUInt32).toInt32) &&& (3 : Int32)))] tgt
    refine XS.iconst X0.here hx rfl (hb hby at_12) ?_
    show OwnG p e below s₁ m 13 #[vI p1, vI p2, vI p3, vI p4, vI kl, vU, vU, vU, vU, vU, vU, vU] [(.int 3), (.int (((p3.toUInt32 >>> ((2 : Int32) &&& 31).toUInt32).toInt32) &&& (3 : Int32)))] tgt
    refine iremM X0 hx rfl (hb hby at_13) rfl (by decide) ?_
    exact kgo
  have h3ol := own_and3 ((p3.toUInt32 >>> ((2 : Int32) &&& 31).toUInt32).toInt32)
  obtain ⟨ol, hol⟩ : ∃ z : Int32, ((((p3.toUInt32 >>> ((2 : Int32) &&& 31).toUInt32).toInt32) &&& (3 : Int32)) % (3 : Int32)) = z := ⟨_, rfl⟩
  refine og s₁ m 14 #[vI p1, vI p2, vI p3, vI p4, vI kl, vU, vU, vU, vU, vU, vU, vU] [(.int ol)] (fun tgt kgo => castTop (by rw [hol]) kgo) ?_
  rw [hol] at h3ol
  refine og s₁ m 33 #[vI p1, vI p2, vI p3, vI p4, vI kl, vI ol, vU, vU, vU, vU, vU, vU] [(.int (nar .char (((p1.toUInt32 >>> ((8 : Int32) &&& 31).toUInt32).toInt32) &&& (255 : Int32)))), (.int (nar .char (p1 &&& (255 : Int32)))), (.int kl)] (fun tgt kgo => ?_) ?_
  · refine XS.istore X0.here hx rfl (hb hby at_14) rfl (l' := #[vI p1, vI p2, vI p3, vI p4, vI kl, vI ol, vU, vU, vU, vU, vU, vU]) rfl ?_
    show OwnG p e below s₁ m 16 #[vI p1, vI p2, vI p3, vI p4, vI kl, vI ol, vU, vU, vU, vU, vU, vU] [] tgt
    refine XS.iload X0.here hx rfl (hb hby at_16) rfl ?_
    show OwnG p e below s₁ m 18 #[vI p1, vI p2, vI p3, vI p4, vI kl, vI ol, vU, vU, vU, vU, vU, vU] [(.int kl)] tgt
    refine XS.iloadN X0.here hx rfl (hb hby at_18) rfl ?_
    show OwnG p e below s₁ m 19 #[vI p1, vI p2, vI p3, vI p4, vI kl, vI ol, vU, vU, vU, vU, vU, vU] [(.int p1), (.int kl)] tgt
    refine XS.sipush X0.here hx rfl (hb hby at_19) ?_
    show OwnG p e below s₁ m 22 #[vI p1, vI p2, vI p3, vI p4, vI kl, vI ol, vU, vU, vU, vU, vU, vU] [(.int 255), (.int p1), (.int kl)] tgt
    refine XS.iand X0.here hx rfl (hb hby at_22) rfl ?_
    show OwnG p e below s₁ m 23 #[vI p1, vI p2, vI p3, vI p4, vI kl, vI ol, vU, vU, vU, vU, vU, vU] [(.int (p1 &&& (255 : Int32))), (.int kl)] tgt
    refine XS.i2c X0.here hx rfl (hb hby at_23) rfl ?_
    show OwnG p e below s₁ m 24 #[vI p1, vI p2, vI p3, vI p4, vI kl, vI ol, vU, vU, vU, vU, vU, vU] [(.int (nar .char (p1 &&& (255 : Int32)))), (.int kl)] tgt
    refine XS.iloadN X0.here hx rfl (hb hby at_24) rfl ?_
    show OwnG p e below s₁ m 25 #[vI p1, vI p2, vI p3, vI p4, vI kl, vI ol, vU, vU, vU, vU, vU, vU] [(.int p1), (.int (nar .char (p1 &&& (255 : Int32)))), (.int kl)] tgt
    refine XS.bipush X0.here hx rfl (hb hby at_25) ?_
    show OwnG p e below s₁ m 27 #[vI p1, vI p2, vI p3, vI p4, vI kl, vI ol, vU, vU, vU, vU, vU, vU] [(.int 8), (.int p1), (.int (nar .char (p1 &&& (255 : Int32)))), (.int kl)] tgt
    refine XS.iushr X0.here hx rfl (hb hby at_27) rfl ?_
    show OwnG p e below s₁ m 28 #[vI p1, vI p2, vI p3, vI p4, vI kl, vI ol, vU, vU, vU, vU, vU, vU] [(.int ((p1.toUInt32 >>> ((8 : Int32) &&& 31).toUInt32).toInt32)), (.int (nar .char (p1 &&& (255 : Int32)))), (.int kl)] tgt
    refine XS.sipush X0.here hx rfl (hb hby at_28) ?_
    show OwnG p e below s₁ m 31 #[vI p1, vI p2, vI p3, vI p4, vI kl, vI ol, vU, vU, vU, vU, vU, vU] [(.int 255), (.int ((p1.toUInt32 >>> ((8 : Int32) &&& 31).toUInt32).toInt32)), (.int (nar .char (p1 &&& (255 : Int32)))), (.int kl)] tgt
    refine XS.iand X0.here hx rfl (hb hby at_31) rfl ?_
    show OwnG p e below s₁ m 32 #[vI p1, vI p2, vI p3, vI p4, vI kl, vI ol, vU, vU, vU, vU, vU, vU] [(.int (((p1.toUInt32 >>> ((8 : Int32) &&& 31).toUInt32).toInt32) &&& (255 : Int32))), (.int (nar .char (p1 &&& (255 : Int32)))), (.int kl)] tgt
    refine XS.i2c X0.here hx rfl (hb hby at_32) rfl ?_
    exact kgo
  obtain ⟨_, _, ⟨T1, L1, k1, n1⟩, -, X1, Si1, Gr1, ⟨Lc1, hQ1, l1, y1, z1, Rc1⟩, st1⟩ := callSS X0 hx (y := mN30) hown (mvT hZ (own_w hw 0 rfl)) (mvT hZ (own_w hw 1 rfl)) (mvT hZ (own_w hw 2 rfl)) (mvT hZ (own_w hw 3 rfl)) (by decide) (backOfSH (W := 0) (rm_mk l Z a0 hw [] wG1 wG3 cx hEL h0 n0 X00 kl (nar .char (p1 &&& (255 : Int32))) (nar .char (((p1.toUInt32 >>> ((8 : Int32) &&& 31).toUInt32).toInt32) &&& (255 : Int32))) (own_lat255 p1) (own_lat255 ((p1.toUInt32 >>> ((8 : Int32) &&& 31).toUInt32).toInt32)) h3kl) hZ (own_w hw 3 rfl) (own_w hw 2 rfl) (by decide) (by decide) hEL R0.1) (g := (mkF m 33 #[vI p1, vI p2, vI p3, vI p4, vI kl, vI ol, vU, vU, vU, vU, vU, vU] [(.int (nar .char (((p1.toUInt32 >>> ((8 : Int32) &&& 31).toUInt32).toInt32) &&& (255 : Int32)))), (.int (nar .char (p1 &&& (255 : Int32)))), (.int kl)])) rfl (by rw [hml]; rfl) (argsL := [(.int kl), (.int (nar .char (p1 &&& (255 : Int32)))), (.int (nar .char (((p1.toUInt32 >>> ((8 : Int32) &&& 31).toUInt32).toInt32) &&& (255 : Int32))))]) (rest := []) (lenOf pd_14721152 rfl) rfl (Nat.le_of_eq rfl) (hb hby at_33) (fun _ _ => ⟨rfl, e0, (by decide : 0 + 6 ≤ _), (by decide : 0 + 12 ≤ _)⟩)
  dsimp only [Pt.U, Pt.locs, Pt.cells, Pt.slots] at X1 l1 y1 z1 st1 hQ1 Si1 Gr1 Rc1
  subst l1 y1 z1
  obtain ⟨x_1, t_1, k_1, N_1, vs_1, cs_1, rfl, Nq1, Kq1, fq1_0, fq1_1, fq1_2, fq1_3, pq1_0, pq1_1, pq1_2⟩ := hQ1
  refine OwnGoes.tr (T' := T1) (g' := (mkF m 36 #[vI p1, vI p2, vI p3, vI p4, vI kl, vI ol, vU, vU, vU, vU, vU, vU] [(.ref x_1)])) st1 ?_
  have N1 := Fr.app N0 Nq1
  have gz1 : h0.size ≤ T1.heap.size := Rc1.2.1
  obtain ⟨X1, hS1, hZ1, ho1⟩ := rebS hS0 hk0 X1 Si1 gz1 hZ hown
  have Ol1 := X00.keep Kq1 all0
  have K1 : Keep h0 T1.heap ([] : List Addr) := K0.trans Kq1 all0
  have R1 := R0.trans Rc1
  refine og T1 m 55 #[vI p1, vI p2, vI p3, vI p4, vI kl, vI ol, vR x_1, vU, vU, vU, vU, vU] [(.int (nar .char (((p2.toUInt32 >>> ((8 : Int32) &&& 31).toUInt32).toInt32) &&& (255 : Int32)))), (.int (nar .char (p2 &&& (255 : Int32)))), (.int ol)] (fun tgt kgo => ?_) ?_
  · refine XS.astore X1.here hx rfl (hb hby at_36) rfl rfl (l' := #[vI p1, vI p2, vI p3, vI p4, vI kl, vI ol, vR x_1, vU, vU, vU, vU, vU]) rfl ?_
    show OwnG p e below T1 m 38 #[vI p1, vI p2, vI p3, vI p4, vI kl, vI ol, vR x_1, vU, vU, vU, vU, vU] [] tgt
    refine XS.iload X1.here hx rfl (hb hby at_38) rfl ?_
    show OwnG p e below T1 m 40 #[vI p1, vI p2, vI p3, vI p4, vI kl, vI ol, vR x_1, vU, vU, vU, vU, vU] [(.int ol)] tgt
    refine XS.iloadN X1.here hx rfl (hb hby at_40) rfl ?_
    show OwnG p e below T1 m 41 #[vI p1, vI p2, vI p3, vI p4, vI kl, vI ol, vR x_1, vU, vU, vU, vU, vU] [(.int p2), (.int ol)] tgt
    refine XS.sipush X1.here hx rfl (hb hby at_41) ?_
    show OwnG p e below T1 m 44 #[vI p1, vI p2, vI p3, vI p4, vI kl, vI ol, vR x_1, vU, vU, vU, vU, vU] [(.int 255), (.int p2), (.int ol)] tgt
    refine XS.iand X1.here hx rfl (hb hby at_44) rfl ?_
    show OwnG p e below T1 m 45 #[vI p1, vI p2, vI p3, vI p4, vI kl, vI ol, vR x_1, vU, vU, vU, vU, vU] [(.int (p2 &&& (255 : Int32))), (.int ol)] tgt
    refine XS.i2c X1.here hx rfl (hb hby at_45) rfl ?_
    show OwnG p e below T1 m 46 #[vI p1, vI p2, vI p3, vI p4, vI kl, vI ol, vR x_1, vU, vU, vU, vU, vU] [(.int (nar .char (p2 &&& (255 : Int32)))), (.int ol)] tgt
    refine XS.iloadN X1.here hx rfl (hb hby at_46) rfl ?_
    show OwnG p e below T1 m 47 #[vI p1, vI p2, vI p3, vI p4, vI kl, vI ol, vR x_1, vU, vU, vU, vU, vU] [(.int p2), (.int (nar .char (p2 &&& (255 : Int32)))), (.int ol)] tgt
    refine XS.bipush X1.here hx rfl (hb hby at_47) ?_
    show OwnG p e below T1 m 49 #[vI p1, vI p2, vI p3, vI p4, vI kl, vI ol, vR x_1, vU, vU, vU, vU, vU] [(.int 8), (.int p2), (.int (nar .char (p2 &&& (255 : Int32)))), (.int ol)] tgt
    refine XS.iushr X1.here hx rfl (hb hby at_49) rfl ?_
    show OwnG p e below T1 m 50 #[vI p1, vI p2, vI p3, vI p4, vI kl, vI ol, vR x_1, vU, vU, vU, vU, vU] [(.int ((p2.toUInt32 >>> ((8 : Int32) &&& 31).toUInt32).toInt32)), (.int (nar .char (p2 &&& (255 : Int32)))), (.int ol)] tgt
    refine XS.sipush X1.here hx rfl (hb hby at_50) ?_
    show OwnG p e below T1 m 53 #[vI p1, vI p2, vI p3, vI p4, vI kl, vI ol, vR x_1, vU, vU, vU, vU, vU] [(.int 255), (.int ((p2.toUInt32 >>> ((8 : Int32) &&& 31).toUInt32).toInt32)), (.int (nar .char (p2 &&& (255 : Int32)))), (.int ol)] tgt
    refine XS.iand X1.here hx rfl (hb hby at_53) rfl ?_
    show OwnG p e below T1 m 54 #[vI p1, vI p2, vI p3, vI p4, vI kl, vI ol, vR x_1, vU, vU, vU, vU, vU] [(.int (((p2.toUInt32 >>> ((8 : Int32) &&& 31).toUInt32).toInt32) &&& (255 : Int32))), (.int (nar .char (p2 &&& (255 : Int32)))), (.int ol)] tgt
    refine XS.i2c X1.here hx rfl (hb hby at_54) rfl ?_
    exact kgo
  obtain ⟨_, _, ⟨T2, L2, k2, n2⟩, -, X2, Si2, Gr2, ⟨Lc2, hQ2, l2, y2, z2, Rc2⟩, st2⟩ := callSS X1 hx (y := mN30) ho1 (mvT hZ1 (own_w hw 0 rfl)) (mvT hZ1 (own_w hw 1 rfl)) (mvT hZ1 (own_w hw 2 rfl)) (mvT hZ1 (own_w hw 3 rfl)) (by decide) (backOfSH (W := 0) (rm_mk l Z a0 hw [] wG1 wG3 cx hEL T1.heap n0 Ol1 ol (nar .char (p2 &&& (255 : Int32))) (nar .char (((p2.toUInt32 >>> ((8 : Int32) &&& 31).toUInt32).toInt32) &&& (255 : Int32))) (own_lat255 p2) (own_lat255 ((p2.toUInt32 >>> ((8 : Int32) &&& 31).toUInt32).toInt32)) h3ol) hZ1 (own_w hw 3 rfl) (own_w hw 2 rfl) (by decide) (by decide) hEL R1.1) (g := (mkF m 55 #[vI p1, vI p2, vI p3, vI p4, vI kl, vI ol, vR x_1, vU, vU, vU, vU, vU] [(.int (nar .char (((p2.toUInt32 >>> ((8 : Int32) &&& 31).toUInt32).toInt32) &&& (255 : Int32)))), (.int (nar .char (p2 &&& (255 : Int32)))), (.int ol)])) rfl (by rw [hml]; rfl) (argsL := [(.int ol), (.int (nar .char (p2 &&& (255 : Int32)))), (.int (nar .char (((p2.toUInt32 >>> ((8 : Int32) &&& 31).toUInt32).toInt32) &&& (255 : Int32))))]) (rest := []) (lenOf pd_14721152 rfl) rfl (Nat.le_of_eq rfl) (hb hby at_55) (fun _ _ => ⟨rfl, rfl, (by decide : 6 + 6 ≤ _), (by decide : 12 + 12 ≤ _)⟩)
  dsimp only [Pt.U, Pt.locs, Pt.cells, Pt.slots] at X2 l2 y2 z2 st2 hQ2 Si2 Gr2 Rc2
  subst l2 y2 z2
  obtain ⟨x_2, t_2, k_2, N_2, vs_2, cs_2, rfl, Nq2, Kq2, fq2_0, fq2_1, fq2_2, fq2_3, pq2_0, pq2_1, pq2_2⟩ := hQ2
  refine OwnGoes.tr (T' := T2) (g' := (mkF m 58 #[vI p1, vI p2, vI p3, vI p4, vI kl, vI ol, vR x_1, vU, vU, vU, vU, vU] [(.ref x_2)])) st2 ?_
  have N2 := Fr.app N1 Nq2
  have gz2 : T1.heap.size ≤ T2.heap.size := Rc2.2.1
  obtain ⟨X2, hS2, hZ2, ho2⟩ := rebS hS1 (Nat.le_refl _) X2 Si2 gz2 hZ1 ho1
  have F2_1 := fq1_0.keep Kq2
  have F2_2 := fq1_1.keep Kq2 nin0
  have F2_3 := fq1_2.keep Kq2 nin0
  have F2_4 := fq1_3.keep Kq2 nin0
  have Ol2 := Ol1.keep Kq2 all0
  have K2 : Keep h0 T2.heap ([] : List Addr) := K1.trans Kq2 all0
  have R2 := R1.trans Rc2
  refine og T2 m 66 #[vI p1, vI p2, vI p3, vI p4, vI kl, vI ol, vR x_1, vR x_2, vU, vU, vU, vU] [(.int (nar .char (p4 &&& (255 : Int32))))] (fun tgt kgo => ?_) ?_
  · refine XS.astore X2.here hx rfl (hb hby at_58) rfl rfl (l' := #[vI p1, vI p2, vI p3, vI p4, vI kl, vI ol, vR x_1, vR x_2, vU, vU, vU, vU]) rfl ?_
    show OwnG p e below T2 m 60 #[vI p1, vI p2, vI p3, vI p4, vI kl, vI ol, vR x_1, vR x_2, vU, vU, vU, vU] [] tgt
    refine XS.iloadN X2.here hx rfl (hb hby at_60) rfl ?_
    show OwnG p e below T2 m 61 #[vI p1, vI p2, vI p3, vI p4, vI kl, vI ol, vR x_1, vR x_2, vU, vU, vU, vU] [(.int p4)] tgt
    refine XS.sipush X2.here hx rfl (hb hby at_61) ?_
    show OwnG p e below T2 m 64 #[vI p1, vI p2, vI p3, vI p4, vI kl, vI ol, vR x_1, vR x_2, vU, vU, vU, vU] [(.int 255), (.int p4)] tgt
    refine XS.iand X2.here hx rfl (hb hby at_64) rfl ?_
    show OwnG p e below T2 m 65 #[vI p1, vI p2, vI p3, vI p4, vI kl, vI ol, vR x_1, vR x_2, vU, vU, vU, vU] [(.int (p4 &&& (255 : Int32)))] tgt
    refine XS.i2c X2.here hx rfl (hb hby at_65) rfl ?_
    exact kgo
  obtain ⟨_, _, ⟨T3, L3, k3, n3⟩, -, X3, ⟨Lc3, hQ3, l3, y3, z3⟩, st3⟩ := Jvm.LawKit.callS X2 hx (y := mN5) ho2 (mvT hZ2 (own_w hw 37 rfl)) (mvT hZ2 (own_w hw 38 rfl)) (mvT hZ2 (own_w hw 6 rfl)) (mvT hZ2 (own_w hw 39 rfl)) (by decide) (backOf (W := 0) (rm_valueOf l Z a0 hw [] wG1 wG3 cx hEL T2.heap n0 Ol2 (nar .char (p4 &&& (255 : Int32))) (own_lat255 p4).2) hZ2 (own_w hw 39 rfl) (own_w hw 6 rfl) (by decide) (by decide)) (g := (mkF m 66 #[vI p1, vI p2, vI p3, vI p4, vI kl, vI ol, vR x_1, vR x_2, vU, vU, vU, vU] [(.int (nar .char (p4 &&& (255 : Int32))))])) rfl (by rw [hml]; rfl) (argsL := [(.int (nar .char (p4 &&& (255 : Int32))))]) (rest := []) (lenOf pd_44149578 rfl) rfl (Nat.le_of_eq rfl) (hb hby at_66) (fun _ _ => ⟨rfl, rfl, (by decide : 12 + 2 ≤ _), (by decide : 24 + 5 ≤ _)⟩)
  dsimp only [Pt.U, Pt.locs, Pt.cells, Pt.slots] at X3 l3 y3 z3 st3 hQ3
  subst l3 y3 z3
  obtain ⟨x_3, t_3, k_3, rfl, Nq3, Kq3, zq3_0, zq3_1, fq3_0, fq3_1, fq3_2, fq3_3⟩ := hQ3
  refine og T3 m 69 #[vI p1, vI p2, vI p3, vI p4, vI kl, vI ol, vR x_1, vR x_2, vU, vU, vU, vU] [(.ref x_3)] st3 ?_
  have N3 := Fr.app N2 Nq3
  have ne_x_1_x_3 : x_1 ≠ x_3 := Nat.ne_of_lt (Nat.lt_of_lt_of_le F2_1.lt zq3_0)
  have ne_t_1_x_3 : t_1 ≠ x_3 := Nat.ne_of_lt (Nat.lt_of_lt_of_le F2_4.lt zq3_0)
  have ne_x_2_x_3 : x_2 ≠ x_3 := Nat.ne_of_lt (Nat.lt_of_lt_of_le fq2_0.lt zq3_0)
  have ne_t_2_x_3 : t_2 ≠ x_3 := Nat.ne_of_lt (Nat.lt_of_lt_of_le fq2_3.lt zq3_0)
  have g_x_3 : n0 ≤ x_3 := Nat.le_trans (Nat.le_trans Z0 K2.1) zq3_0
  have s_x_3 : h0.size ≤ x_3 := Nat.le_trans K2.1 zq3_0
  have ne_x_1_t_3 : x_1 ≠ t_3 := Nat.ne_of_lt (Nat.lt_of_lt_of_le F2_1.lt zq3_1)
  have ne_t_1_t_3 : t_1 ≠ t_3 := Nat.ne_of_lt (Nat.lt_of_lt_of_le F2_4.lt zq3_1)
  have ne_x_2_t_3 : x_2 ≠ t_3 := Nat.ne_of_lt (Nat.lt_of_lt_of_le fq2_0.lt zq3_1)
  have ne_t_2_t_3 : t_2 ≠ t_3 := Nat.ne_of_lt (Nat.lt_of_lt_of_le fq2_3.lt zq3_1)
  have g_t_3 : n0 ≤ t_3 := Nat.le_trans (Nat.le_trans Z0 K2.1) zq3_1
  have s_t_3 : h0.size ≤ t_3 := Nat.le_trans K2.1 zq3_1
  have Sn3_0 : Safe Z consts_1 T2.vm T3.heap x_3 := Safe.keep Kq3 sf0 R2.1 (Safe.new zq3_0)
  have Sn3_1 : Safe Z consts_1 T2.vm T3.heap t_3 := Safe.keep Kq3 sf0 R2.1 (Safe.new zq3_1)
  have F3_5 := F2_1.keep Kq3
  have F3_6 := F2_2.keep Kq3 nin0
  have F3_7 := F2_3.keep Kq3 nin0
  have F3_8 := F2_4.keep Kq3 nin0
  have F3_9 := fq2_0.keep Kq3
  have F3_10 := fq2_1.keep Kq3 nin0
  have F3_11 := fq2_2.keep Kq3 nin0
  have F3_12 := fq2_3.keep Kq3 nin0
  have Ol3 := Ol2.keep Kq3 all0
  have K3 : Keep h0 T3.heap ([] : List Addr) := K2.trans Kq3 all0
  have R3 := R2.trans (CHr.keep Kq3 sf0 R2.1)
  have hk3 := Nat.le_trans (Nat.le_refl _) Kq3.1
  refine og T3 m 71 #[vI p1, vI p2, vI p3, vI p4, vI kl, vI ol, vR x_1, vR x_2, vR x_3, vU, vU, vU] [] (fun tgt kgo => ?_) ?_
  · refine XS.astore X3.here hx rfl (hb hby at_69) rfl rfl (l' := #[vI p1, vI p2, vI p3, vI p4, vI kl, vI ol, vR x_1, vR x_2, vR x_3, vU, vU, vU]) rfl ?_
    exact kgo
  obtain ⟨T4, h4, X4, e4, E4, A4, D4, U4, st4⟩ := newO X3 hx hZ2 ho2 (own_w hw 51 rfl) (own_w hw 52 rfl) (own_w hw 53 rfl) rfl (g := (mkF m 71 #[vI p1, vI p2, vI p3, vI p4, vI kl, vI ol, vR x_1, vR x_2, vR x_3, vU, vU, vU] [])) rfl (hb hby at_71) (by decide) (by decide)
  obtain ⟨b4, g4⟩ : ∃ z, z = T3.heap.size := ⟨_, rfl⟩
  rw [← g4] at A4 D4 U4 st4
  refine og T4 m 74 #[vI p1, vI p2, vI p3, vI p4, vI kl, vI ol, vR x_1, vR x_2, vR x_3, vU, vU, vU] [(.ref b4)] st4 ?_
  have ne_x_1_b4 : x_1 ≠ b4 := Nat.ne_of_lt (Nat.lt_of_lt_of_le F3_5.lt (Nat.le_of_eq g4.symm))
  have ne_t_1_b4 : t_1 ≠ b4 := Nat.ne_of_lt (Nat.lt_of_lt_of_le F3_8.lt (Nat.le_of_eq g4.symm))
  have ne_x_2_b4 : x_2 ≠ b4 := Nat.ne_of_lt (Nat.lt_of_lt_of_le F3_9.lt (Nat.le_of_eq g4.symm))
  have ne_t_2_b4 : t_2 ≠ b4 := Nat.ne_of_lt (Nat.lt_of_lt_of_le F3_12.lt (Nat.le_of_eq g4.symm))
  have ne_x_3_b4 : x_3 ≠ b4 := Nat.ne_of_lt (Nat.lt_of_lt_of_le fq3_0.lt (Nat.le_of_eq g4.symm))
  have ne_t_3_b4 : t_3 ≠ b4 := Nat.ne_of_lt (Nat.lt_of_lt_of_le fq3_3.lt (Nat.le_of_eq g4.symm))
  have g_b4 : n0 ≤ b4 := Nat.le_trans (Nat.le_trans Z0 K3.1) (Nat.le_of_eq g4.symm)
  have s_b4 : h0.size ≤ b4 := Nat.le_trans K3.1 (Nat.le_of_eq g4.symm)
  have Sf4 : Safe Z consts_1 T2.vm h4 b4 := Safe.ext E4 R3.1 (Safe.new (Nat.le_of_eq g4.symm))
  have F4_13 := F3_5.ext E4
  have F4_14 := F3_6.ext E4
  have F4_15 := F3_7.ext E4
  have F4_16 := F3_8.ext E4
  have F4_17 := F3_9.ext E4
  have F4_18 := F3_10.ext E4
  have F4_19 := F3_11.ext E4
  have F4_20 := F3_12.ext E4
  have F4_21 := Safe.ext E4 R3.1 Sn3_0
  have F4_22 := Safe.ext E4 R3.1 Sn3_1
  have F4_23 := fq3_0.ext E4
  have F4_24 := fq3_1.ext E4
  have F4_25 := fq3_2.ext E4
  have F4_26 := fq3_3.ext E4
  have Ol4 := Ol3.ext E4
  have K4 : Keep h0 h4 ([] : List Addr) := K3.ext E4
  have R4 := R3.trans (CHr.ext E4 R3.1)
  have hk4 := Nat.le_trans hk3 E4.1
  have F4_27 : Fld Z h4 b4 "com/example/kindling/kindling/config/Setting" "key" "Ljava/lang/String;" .null := D4 (Or.inr (own_w hw 64 rfl)) (ty := (.object "java/lang/String")) (by decide)
  have F4_28 : Fld Z h4 b4 "com/example/kindling/kindling/config/Setting" "value" "Ljava/lang/String;" .null := D4 (Or.inr (own_w hw 66 rfl)) (ty := (.object "java/lang/String")) (by decide)
  have F4_29 : Fld Z h4 b4 "com/example/kindling/kindling/config/Setting" "origin" "Ljava/lang/String;" .null := D4 (Or.inr (own_w hw 68 rfl)) (ty := (.object "java/lang/String")) (by decide)
  refine og T4 m 81 #[vI p1, vI p2, vI p3, vI p4, vI kl, vI ol, vR x_1, vR x_2, vR x_3, vU, vU, vU] [(.ref x_2), (.ref x_3), (.ref x_1), (.ref b4), (.ref b4)] (fun tgt kgo => ?_) ?_
  · refine XS.dup X4.here hx rfl (hb hby at_74) rfl rfl ?_
    show OwnG p e below T4 m 75 #[vI p1, vI p2, vI p3, vI p4, vI kl, vI ol, vR x_1, vR x_2, vR x_3, vU, vU, vU] [(.ref b4), (.ref b4)] tgt
    refine XS.aload X4.here hx rfl (hb hby at_75) rfl rfl ?_
    show OwnG p e below T4 m 77 #[vI p1, vI p2, vI p3, vI p4, vI kl, vI ol, vR x_1, vR x_2, vR x_3, vU, vU, vU] [(.ref x_1), (.ref b4), (.ref b4)] tgt
    refine XS.aload X4.here hx rfl (hb hby at_77) rfl rfl ?_
    show OwnG p e below T4 m 79 #[vI p1, vI p2, vI p3, vI p4, vI kl, vI ol, vR x_1, vR x_2, vR x_3, vU, vU, vU] [(.ref x_3), (.ref x_1), (.ref b4), (.ref b4)] tgt
    refine XS.aload X4.here hx rfl (hb hby at_79) rfl rfl ?_
    exact kgo
  obtain ⟨_, _, ⟨T5, L5, k5, n5⟩, -, X5, ⟨Lc5, hQ5, l5, y5, z5⟩, st5⟩ := X4.specialBack hx (y := mN28) rfl ho2 (mvT hZ2 (own_w hw 54 rfl)) (mvT hZ2 (own_w hw 55 rfl)) (mvT hZ2 (own_w hw 56 rfl)) (by decide) (backOf (W := 1) (rm_seti l Z a0 hw [] wG1 wG3 cx hEL h4 n0 Ol4 b4 x_1 x_3 x_2 A4 F4_27 F4_28 F4_29 g_b4) hZ2 (own_w hw 56 rfl) (own_w hw 53 rfl) (by decide) (by decide)) (g := (mkF m 81 #[vI p1, vI p2, vI p3, vI p4, vI kl, vI ol, vR x_1, vR x_2, vR x_3, vU, vU, vU] [(.ref x_2), (.ref x_3), (.ref x_1), (.ref b4), (.ref b4)])) rfl (by rw [hml]; rfl) (Steps.refl _) (a := b4) (argsL := [(.ref x_1), (.ref x_3), (.ref x_2)]) (rest := [(.ref b4)]) (lenOf pd_47962633 rfl) rfl (Nat.le_of_eq rfl) (hb hby at_81) (fun _ _ => ⟨rfl, e4, (by decide : 15 + 0 ≤ _), (by decide : 32 + 0 ≤ _)⟩)
  dsimp only [Pt.U, Pt.locs, Pt.cells, Pt.slots] at X5 l5 y5 z5 st5 hQ5
  subst l5 y5 z5
  obtain ⟨rfl, Nq5, Kq5, fq5_0, fq5_1, fq5_2⟩ := hQ5
  refine OwnGoes.tr (T' := T5) (g' := (mkF m 84 #[vI p1, vI p2, vI p3, vI p4, vI kl, vI ol, vR x_1, vR x_2, vR x_3, vU, vU, vU] [(.ref b4)])) st5 ?_
  have N5 := Fr.app N3 Nq5
  have F5_30 := F4_13.keep Kq5
  have F5_31 := F4_14.keep Kq5 (ninS ne_x_1_b4 nin0)
  have F5_32 := F4_15.keep Kq5 (ninS ne_x_1_b4 nin0)
  have F5_33 := F4_16.keep Kq5 (ninS ne_t_1_b4 nin0)
  have F5_34 := F4_17.keep Kq5
  have F5_35 := F4_18.keep Kq5 (ninS ne_x_2_b4 nin0)
  have F5_36 := F4_19.keep Kq5 (ninS ne_x_2_b4 nin0)
  have F5_37 := F4_20.keep Kq5 (ninS ne_t_2_b4 nin0)
  have F5_38 := Safe.keep Kq5 (sfS Sf4 sf0) R4.1 F4_21
  have F5_39 := Safe.keep Kq5 (sfS Sf4 sf0) R4.1 F4_22
  have F5_40 := F4_23.keep Kq5
  have F5_41 := F4_24.keep Kq5 (ninS ne_x_3_b4 nin0)
  have F5_42 := F4_25.keep Kq5 (ninS ne_x_3_b4 nin0)
  have F5_43 := F4_26.keep Kq5 (ninS ne_t_3_b4 nin0)
  have F5_44 := Safe.keep Kq5 (sfS Sf4 sf0) R4.1 Sf4
  have F5_45 := A4.keep Kq5
  have Ol5 := Ol4.keep Kq5 (allS g_b4 all0)
  have K5 : Keep h0 T5.heap ([] : List Addr) := K4.trans Kq5 (allS (Or.inr s_b4) all0)
  have R5 := R4.trans (CHr.keep Kq5 (sfS Sf4 sf0) R4.1)
  have hk5 := Nat.le_trans hk4 Kq5.1
  refine og T5 m 88 #[vI p1, vI p2, vI p3, vI p4, vI kl, vI ol, vR x_1, vR x_2, vR x_3, vR b4, vU, vU] [(.ref b4)] (fun tgt kgo => ?_) ?_
  · refine XS.astore X5.here hx rfl (hb hby at_84) rfl rfl (l' := #[vI p1, vI p2, vI p3, vI p4, vI kl, vI ol, vR x_1, vR x_2, vR x_3, vR b4, vU, vU]) rfl ?_
    show OwnG p e below T5 m 86 #[vI p1, vI p2, vI p3, vI p4, vI kl, vI ol, vR x_1, vR x_2, vR x_3, vR b4, vU, vU] [] tgt
    refine XS.aload X5.here hx rfl (hb hby at_86) rfl rfl ?_
    exact kgo
  obtain ⟨cq6, kq6, q6a, q6b, q6c⟩ := isOf (s := (s.setVm T2.vm)) hZ2 rfl fq5_0
  obtain ⟨_, _, ⟨T6, L6, k6, n6⟩, -, X6, Si6, Gr6, ⟨Lc6, hQ6, l6, y6, z6, Rc6⟩, st6⟩ := X5.virtualBackS hx (y := mN29) (z := mN29) ho2 (mvT hZ2 (own_w hw 69 rfl)) (mvT hZ2 (own_w hw 70 rfl)) (notFace_of_selects (args := #[]) (mvT hZ2 (own_w hw 72 rfl))) (mvT hZ2 (own_w hw 72 rfl)) (mvT hZ2 (own_w hw 71 rfl)) (by decide) (backOfSH (W := 0) (rm_kao l Z a0 hw [] wG1 wG3 cx hEL T5.heap n0 Ol5 b4 x_1 t_1 k_1 N_1 vs_1 x_2 t_2 k_2 N_2 vs_2 cs_1 cs_2 fq5_0 fq5_1 fq5_2 F5_30 F5_31 F5_32 F5_33 F5_34 F5_35 F5_36 F5_37 pq1_0 pq2_0 pq1_2 pq2_2) hZ2 (own_w hw 73 rfl) (own_w hw 53 rfl) (by decide) (by decide) hEL R5.1) q6a q6c (g := (mkF m 88 #[vI p1, vI p2, vI p3, vI p4, vI kl, vI ol, vR x_1, vR x_2, vR x_3, vR b4, vU, vU] [(.ref b4)])) rfl (by rw [hml]; rfl) (Steps.refl _) (argsL := []) (rest := []) (lenOf pd_24953479 rfl) rfl (Nat.le_of_eq rfl) (hb hby at_88) (fun _ _ => ⟨rfl, rfl, (by decide : 15 + 8 ≤ _), (by decide : 32 + 60 ≤ _)⟩)
  dsimp only [Pt.U, Pt.locs, Pt.cells, Pt.slots] at X6 l6 y6 z6 st6 hQ6 Si6 Gr6 Rc6
  subst l6 y6 z6
  obtain ⟨x_6, t_6, k_6, N_6, vs_6, rfl, Nq6, Kq6, fq6_0, fq6_1, fq6_2, fq6_3, pq6_0⟩ := hQ6
  refine OwnGoes.tr (T' := T6) (g' := (mkF m 91 #[vI p1, vI p2, vI p3, vI p4, vI kl, vI ol, vR x_1, vR x_2, vR x_3, vR b4, vU, vU] [(.ref x_6)])) st6 ?_
  have N6 := Fr.app N5 Nq6
  have gz6 : T5.heap.size ≤ T6.heap.size := Rc6.2.1
  obtain ⟨X6, hS6, hZ6, ho6⟩ := rebS hS2 hk5 X6 Si6 gz6 hZ2 ho2
  have F6_46 := F5_30.keep Kq6
  have F6_47 := F5_31.keep Kq6 nin0
  have F6_48 := F5_32.keep Kq6 nin0
  have F6_49 := F5_33.keep Kq6 nin0
  have F6_50 := F5_34.keep Kq6
  have F6_51 := F5_35.keep Kq6 nin0
  have F6_52 := F5_36.keep Kq6 nin0
  have F6_53 := F5_37.keep Kq6 nin0
  have F6_54 := Rc6.safe F5_40.lt F5_38
  have F6_55 := Rc6.safe F5_43.lt F5_39
  have F6_56 := F5_40.keep Kq6
  have F6_57 := F5_41.keep Kq6 nin0
  have F6_58 := F5_42.keep Kq6 nin0
  have F6_59 := F5_43.keep Kq6 nin0
  have F6_60 := Rc6.safe fq5_0.lt F5_44
  have F6_61 := fq5_0.keep Kq6
  have F6_62 := fq5_1.keep Kq6 nin0
  have F6_63 := fq5_2.keep Kq6 nin0
  have Ol6 := Ol5.keep Kq6 all0
  have K6 : Keep h0 T6.heap ([] : List Addr) := K5.trans Kq6 all0
  have R6 := R5.trans Rc6
  refine og T6 m 111 #[vI p1, vI p2, vI p3, vI p4, vI kl, vI ol, vR x_1, vR x_2, vR x_3, vR b4, vR x_6, vI ((kl + ol) + (3 : Int32))] [(.ref x_6)] (fun tgt kgo => ?_) ?_
  · refine XS.astore X6.here hx rfl (hb hby at_91) rfl rfl (l' := #[vI p1, vI p2, vI p3, vI p4, vI kl, vI ol, vR x_1, vR x_2, vR x_3, vR b4, vR x_6, vU]) rfl ?_
    show OwnG p e below T6 m 93 #[vI p1, vI p2, vI p3, vI p4, vI kl, vI ol, vR x_1, vR x_2, vR x_3, vR b4, vR x_6, vU] [] tgt
    refine XS.aload X6.here hx rfl (hb hby at_93) rfl rfl ?_
    show OwnG p e below T6 m 95 #[vI p1, vI p2, vI p3, vI p4, vI kl, vI ol, vR x_1, vR x_2, vR x_3, vR b4, vR x_6, vU] [(.ref x_6)] tgt
    refine XS.ifnonnullYes X6.here hx rfl (pc0 := 95) (pc' := 100) rfl (hb hby at_95) rfl (by decide) (by decide) ?_
    show OwnG p e below T6 m 100 #[vI p1, vI p2, vI p3, vI p4, vI kl, vI ol, vR x_1, vR x_2, vR x_3, vR b4, vR x_6, vU] [] tgt
    refine XS.iload X6.here hx rfl (hb hby at_100) rfl ?_
    show OwnG p e below T6 m 102 #[vI p1, vI p2, vI p3, vI p4, vI kl, vI ol, vR x_1, vR x_2, vR x_3, vR b4, vR x_6, vU] [(.int kl)] tgt
    refine XS.iload X6.here hx rfl (hb hby at_102) rfl ?_
    show OwnG p e below T6 m 104 #[vI p1, vI p2, vI p3, vI p4, vI kl, vI ol, vR x_1, vR x_2, vR x_3, vR b4, vR x_6, vU] [(.int ol), (.int kl)] tgt
    refine XS.iadd X6.here hx rfl (hb hby at_104) rfl ?_
    show OwnG p e below T6 m 105 #[vI p1, vI p2, vI p3, vI p4, vI kl, vI ol, vR x_1, vR x_2, vR x_3, vR b4, vR x_6, vU] [(.int (kl + ol))] tgt
    refine XS.iconst X6.here hx rfl (hb hby at_105) ?_
    show OwnG p e below T6 m 106 #[vI p1, vI p2, vI p3, vI p4, vI kl, vI ol, vR x_1, vR x_2, vR x_3, vR b4, vR x_6, vU] [(.int 3), (.int (kl + ol))] tgt
    refine XS.iadd X6.here hx rfl (hb hby at_106) rfl ?_
    show OwnG p e below T6 m 107 #[vI p1, vI p2, vI p3, vI p4, vI kl, vI ol, vR x_1, vR x_2, vR x_3, vR b4, vR x_6, vU] [(.int ((kl + ol) + (3 : Int32)))] tgt
    refine XS.istore X6.here hx rfl (hb hby at_107) rfl (l' := #[vI p1, vI p2, vI p3, vI p4, vI kl, vI ol, vR x_1, vR x_2, vR x_3, vR b4, vR x_6, vI ((kl + ol) + (3 : Int32))]) rfl ?_
    show OwnG p e below T6 m 109 #[vI p1, vI p2, vI p3, vI p4, vI kl, vI ol, vR x_1, vR x_2, vR x_3, vR b4, vR x_6, vI ((kl + ol) + (3 : Int32))] [] tgt
    refine XS.aload X6.here hx rfl (hb hby at_109) rfl rfl ?_
    exact kgo
  obtain ⟨cq7, kq7, q7a, q7b, q7c⟩ := isOf (s := (s.setVm T6.vm)) hZ6 rfl fq6_0
  obtain ⟨_, _, ⟨T7, L7, k7, n7⟩, -, X7, ⟨Lc7, hQ7, l7, y7, z7⟩, st7⟩ := X6.virtualBack hx (y := mN7) (z := mN7) ho6 (mvT hZ6 (own_w hw 186 rfl)) (mvT hZ6 (own_w hw 103 rfl)) (notFace_of_selects (args := #[]) (mvT hZ6 (own_w hw 105 rfl))) (mvT hZ6 (own_w hw 105 rfl)) (mvT hZ6 (own_w hw 104 rfl)) (by decide) (backOf (W := 0) (rm_len l Z a0 hw [] wG1 wG3 cx hEL T6.heap n0 Ol6 x_6 t_6 k_6 N_6 vs_6 fq6_0 fq6_1 fq6_2 fq6_3) hZ6 (own_w hw 106 rfl) (own_w hw 6 rfl) (by decide) (by decide)) q7a q7c (g := (mkF m 111 #[vI p1, vI p2, vI p3, vI p4, vI kl, vI ol, vR x_1, vR x_2, vR x_3, vR b4, vR x_6, vI ((kl + ol) + (3 : Int32))] [(.ref x_6)])) rfl (by rw [hml]; rfl) (Steps.refl _) (argsL := []) (rest := []) (lenOf pd_86913941 rfl) rfl (Nat.le_of_eq rfl) (hb hby at_111) (fun _ _ => ⟨rfl, rfl, (by decide : 23 + 0 ≤ _), (by decide : 92 + 0 ≤ _)⟩)
  dsimp only [Pt.U, Pt.locs, Pt.cells, Pt.slots] at X7 l7 y7 z7 st7 hQ7
  subst l7 y7 z7
  obtain ⟨rfl, Nq7, eq7⟩ := hQ7
  refine OwnGoes.tr (T' := T7) (g' := (mkF m 114 #[vI p1, vI p2, vI p3, vI p4, vI kl, vI ol, vR x_1, vR x_2, vR x_3, vR b4, vR x_6, vI ((kl + ol) + (3 : Int32))] [(.int N_6)])) st7 ?_
  have N7 := Fr.app N6 Nq7
  refine og T7 m 130 #[vI p1, vI p2, vI p3, vI p4, vI kl, vI ol, vR x_1, vR x_2, vR x_3, vR b4, vR x_6, vI ((kl + ol) + (3 : Int32))] [(.int ((kl + ol) + (3 : Int32))), (.ref x_2), (.ref x_1), (.int 0), (.ref x_6)] (fun tgt kgo => ?_) ?_
  · refine XS.iload X7.here hx rfl (hb hby at_114) rfl ?_
    show OwnG p e below T7 m 116 #[vI p1, vI p2, vI p3, vI p4, vI kl, vI ol, vR x_1, vR x_2, vR x_3, vR b4, vR x_6, vI ((kl + ol) + (3 : Int32))] [(.int ((kl + ol) + (3 : Int32))), (.int N_6)] tgt
    refine XS.icmpYes X7.here hx rfl (pc0 := 116) (pc' := 121) rfl (hb hby at_116) rfl (teq ((own_l0 pq6_0).1.trans ((congrArg Int32.ofNat (own_rlen cs_1 cs_2)).trans (own_nn pq1_0 pq2_0 pq1_1 pq2_1).symm))).1 (by decide) (by decide) ?_
    show OwnG p e below T7 m 121 #[vI p1, vI p2, vI p3, vI p4, vI kl, vI ol, vR x_1, vR x_2, vR x_3, vR b4, vR x_6, vI ((kl + ol) + (3 : Int32))] [] tgt
    refine XS.aload X7.here hx rfl (hb hby at_121) rfl rfl ?_
    show OwnG p e below T7 m 123 #[vI p1, vI p2, vI p3, vI p4, vI kl, vI ol, vR x_1, vR x_2, vR x_3, vR b4, vR x_6, vI ((kl + ol) + (3 : Int32))] [(.ref x_6)] tgt
    refine XS.iconst X7.here hx rfl (hb hby at_123) ?_
    show OwnG p e below T7 m 124 #[vI p1, vI p2, vI p3, vI p4, vI kl, vI ol, vR x_1, vR x_2, vR x_3, vR b4, vR x_6, vI ((kl + ol) + (3 : Int32))] [(.int 0), (.ref x_6)] tgt
    refine XS.aload X7.here hx rfl (hb hby at_124) rfl rfl ?_
    show OwnG p e below T7 m 126 #[vI p1, vI p2, vI p3, vI p4, vI kl, vI ol, vR x_1, vR x_2, vR x_3, vR b4, vR x_6, vI ((kl + ol) + (3 : Int32))] [(.ref x_1), (.int 0), (.ref x_6)] tgt
    refine XS.aload X7.here hx rfl (hb hby at_126) rfl rfl ?_
    show OwnG p e below T7 m 128 #[vI p1, vI p2, vI p3, vI p4, vI kl, vI ol, vR x_1, vR x_2, vR x_3, vR b4, vR x_6, vI ((kl + ol) + (3 : Int32))] [(.ref x_2), (.ref x_1), (.int 0), (.ref x_6)] tgt
    refine XS.iload X7.here hx rfl (hb hby at_128) rfl ?_
    exact kgo
  obtain ⟨_, _, ⟨T8, L8, k8, n8⟩, -, X8, ⟨Lc8, hQ8, l8, y8, z8⟩, st8⟩ := Jvm.LawKit.callS X7 hx (y := mN37) ho6 (mvT hZ6 (own_w hw 187 rfl)) (mvT hZ6 (own_w hw 188 rfl)) (mvT hZ6 (own_w hw 2 rfl)) (mvT hZ6 (own_w hw 189 rfl)) (by decide) (backOf (W := 0) (rm_at l Z a0 hw [] wG1 wG3 cx hEL T6.heap n0 Ol6 0 ((kl + ol) + (3 : Int32)) x_6 t_6 k_6 N_6 vs_6 x_1 t_1 k_1 N_1 vs_1 x_2 t_2 k_2 N_2 vs_2 cs_1 cs_2 fq6_0 fq6_1 fq6_2 fq6_3 F6_46 F6_47 F6_48 F6_49 F6_50 F6_51 F6_52 F6_53 pq1_0 pq2_0 pq1_2 pq2_2 pq6_0 (by decide) (own_nn pq1_0 pq2_0 pq1_1 pq2_1)) hZ6 (own_w hw 189 rfl) (own_w hw 2 rfl) (by decide) (by decide)) (g := (mkF m 130 #[vI p1, vI p2, vI p3, vI p4, vI kl, vI ol, vR x_1, vR x_2, vR x_3, vR b4, vR x_6, vI ((kl + ol) + (3 : Int32))] [(.int ((kl + ol) + (3 : Int32))), (.ref x_2), (.ref x_1), (.int 0), (.ref x_6)])) rfl (by rw [hml]; rfl) (argsL := [(.ref x_6), (.int 0), (.ref x_1), (.ref x_2), (.int ((kl + ol) + (3 : Int32)))]) (rest := []) (lenOf pd_40694476 rfl) rfl (Nat.le_of_eq rfl) (hb hby at_130) (fun _ _ => ⟨rfl, eq7, (by decide : 23 + 0 ≤ _), (by decide : 92 + 0 ≤ _)⟩)
  dsimp only [Pt.U, Pt.locs, Pt.cells, Pt.slots] at X8 l8 y8 z8 st8 hQ8
  subst l8 y8 z8
  obtain ⟨rfl, Nq8, eq8⟩ := hQ8
  refine og T8 m 133 #[vI p1, vI p2, vI p3, vI p4, vI kl, vI ol, vR x_1, vR x_2, vR x_3, vR b4, vR x_6, vI ((kl + ol) + (3 : Int32))] [(.int 1)] st8 ?_
  have N8 := Fr.app N7 Nq8
  refine og T8 m 145 #[vI p1, vI p2, vI p3, vI p4, vI kl, vI ol, vR x_1, vR x_2, vR x_3, vR b4, vR x_6, vI ((kl + ol) + (3 : Int32))] [(.int ((kl + ol) + (3 : Int32))), (.ref x_2), (.ref x_1), (.int 1), (.ref x_6)] (fun tgt kgo => ?_) ?_
  · refine XS.ifNo X8.here hx rfl (hb hby at_133) rfl ((if0 _ _).trans (feq (by decide : ¬ ((1 : Int32) = (0 : Int32)))).1) ?_
    show OwnG p e below T8 m 136 #[vI p1, vI p2, vI p3, vI p4, vI kl, vI ol, vR x_1, vR x_2, vR x_3, vR b4, vR x_6, vI ((kl + ol) + (3 : Int32))] [] tgt
    refine XS.aload X8.here hx rfl (hb hby at_136) rfl rfl ?_
    show OwnG p e below T8 m 138 #[vI p1, vI p2, vI p3, vI p4, vI kl, vI ol, vR x_1, vR x_2, vR x_3, vR b4, vR x_6, vI ((kl + ol) + (3 : Int32))] [(.ref x_6)] tgt
    refine XS.iconst X8.here hx rfl (hb hby at_138) ?_
    show OwnG p e below T8 m 139 #[vI p1, vI p2, vI p3, vI p4, vI kl, vI ol, vR x_1, vR x_2, vR x_3, vR b4, vR x_6, vI ((kl + ol) + (3 : Int32))] [(.int 1), (.ref x_6)] tgt
    refine XS.aload X8.here hx rfl (hb hby at_139) rfl rfl ?_
    show OwnG p e below T8 m 141 #[vI p1, vI p2, vI p3, vI p4, vI kl, vI ol, vR x_1, vR x_2, vR x_3, vR b4, vR x_6, vI ((kl + ol) + (3 : Int32))] [(.ref x_1), (.int 1), (.ref x_6)] tgt
    refine XS.aload X8.here hx rfl (hb hby at_141) rfl rfl ?_
    show OwnG p e below T8 m 143 #[vI p1, vI p2, vI p3, vI p4, vI kl, vI ol, vR x_1, vR x_2, vR x_3, vR b4, vR x_6, vI ((kl + ol) + (3 : Int32))] [(.ref x_2), (.ref x_1), (.int 1), (.ref x_6)] tgt
    refine XS.iload X8.here hx rfl (hb hby at_143) rfl ?_
    exact kgo
  obtain ⟨_, _, ⟨T9, L9, k9, n9⟩, -, X9, ⟨Lc9, hQ9, l9, y9, z9⟩, st9⟩ := Jvm.LawKit.callS X8 hx (y := mN37) ho6 (mvT hZ6 (own_w hw 187 rfl)) (mvT hZ6 (own_w hw 188 rfl)) (mvT hZ6 (own_w hw 2 rfl)) (mvT hZ6 (own_w hw 189 rfl)) (by decide) (backOf (W := 0) (rm_at l Z a0 hw [] wG1 wG3 cx hEL T6.heap n0 Ol6 1 ((kl + ol) + (3 : Int32)) x_6 t_6 k_6 N_6 vs_6 x_1 t_1 k_1 N_1 vs_1 x_2 t_2 k_2 N_2 vs_2 cs_1 cs_2 fq6_0 fq6_1 fq6_2 fq6_3 F6_46 F6_47 F6_48 F6_49 F6_50 F6_51 F6_52 F6_53 pq1_0 pq2_0 pq1_2 pq2_2 pq6_0 (by decide) (own_nn pq1_0 pq2_0 pq1_1 pq2_1)) hZ6 (own_w hw 189 rfl) (own_w hw 2 rfl) (by decide) (by decide)) (g := (mkF m 145 #[vI p1, vI p2, vI p3, vI p4, vI kl, vI ol, vR x_1, vR x_2, vR x_3, vR b4, vR x_6, vI ((kl + ol) + (3 : Int32))] [(.int ((kl + ol) + (3 : Int32))), (.ref x_2), (.ref x_1), (.int 1), (.ref x_6)])) rfl (by rw [hml]; rfl) (argsL := [(.ref x_6), (.int 1), (.ref x_1), (.ref x_2), (.int ((kl + ol) + (3 : Int32)))]) (rest := []) (lenOf pd_40694476 rfl) rfl (Nat.le_of_eq rfl) (hb hby at_145) (fun _ _ => ⟨rfl, eq8, (by decide : 23 + 0 ≤ _), (by decide : 92 + 0 ≤ _)⟩)
  dsimp only [Pt.U, Pt.locs, Pt.cells, Pt.slots] at X9 l9 y9 z9 st9 hQ9
  subst l9 y9 z9
  obtain ⟨rfl, Nq9, eq9⟩ := hQ9
  refine og T9 m 148 #[vI p1, vI p2, vI p3, vI p4, vI kl, vI ol, vR x_1, vR x_2, vR x_3, vR b4, vR x_6, vI ((kl + ol) + (3 : Int32))] [(.int 1)] st9 ?_
  have N9 := Fr.app N8 Nq9
  refine og T9 m 160 #[vI p1, vI p2, vI p3, vI p4, vI kl, vI ol, vR x_1, vR x_2, vR x_3, vR b4, vR x_6, vI ((kl + ol) + (3 : Int32))] [(.int ((kl + ol) + (3 : Int32))), (.ref x_2), (.ref x_1), (.int 2), (.ref x_6)] (fun tgt kgo => ?_) ?_
  · refine XS.ifNo X9.here hx rfl (hb hby at_148) rfl ((if0 _ _).trans (feq (by decide : ¬ ((1 : Int32) = (0 : Int32)))).1) ?_
    show OwnG p e below T9 m 151 #[vI p1, vI p2, vI p3, vI p4, vI kl, vI ol, vR x_1, vR x_2, vR x_3, vR b4, vR x_6, vI ((kl + ol) + (3 : Int32))] [] tgt
    refine XS.aload X9.here hx rfl (hb hby at_151) rfl rfl ?_
    show OwnG p e below T9 m 153 #[vI p1, vI p2, vI p3, vI p4, vI kl, vI ol, vR x_1, vR x_2, vR x_3, vR b4, vR x_6, vI ((kl + ol) + (3 : Int32))] [(.ref x_6)] tgt
    refine XS.iconst X9.here hx rfl (hb hby at_153) ?_
    show OwnG p e below T9 m 154 #[vI p1, vI p2, vI p3, vI p4, vI kl, vI ol, vR x_1, vR x_2, vR x_3, vR b4, vR x_6, vI ((kl + ol) + (3 : Int32))] [(.int 2), (.ref x_6)] tgt
    refine XS.aload X9.here hx rfl (hb hby at_154) rfl rfl ?_
    show OwnG p e below T9 m 156 #[vI p1, vI p2, vI p3, vI p4, vI kl, vI ol, vR x_1, vR x_2, vR x_3, vR b4, vR x_6, vI ((kl + ol) + (3 : Int32))] [(.ref x_1), (.int 2), (.ref x_6)] tgt
    refine XS.aload X9.here hx rfl (hb hby at_156) rfl rfl ?_
    show OwnG p e below T9 m 158 #[vI p1, vI p2, vI p3, vI p4, vI kl, vI ol, vR x_1, vR x_2, vR x_3, vR b4, vR x_6, vI ((kl + ol) + (3 : Int32))] [(.ref x_2), (.ref x_1), (.int 2), (.ref x_6)] tgt
    refine XS.iload X9.here hx rfl (hb hby at_158) rfl ?_
    exact kgo
  obtain ⟨_, _, ⟨T10, L10, k10, n10⟩, -, X10, ⟨Lc10, hQ10, l10, y10, z10⟩, st10⟩ := Jvm.LawKit.callS X9 hx (y := mN37) ho6 (mvT hZ6 (own_w hw 187 rfl)) (mvT hZ6 (own_w hw 188 rfl)) (mvT hZ6 (own_w hw 2 rfl)) (mvT hZ6 (own_w hw 189 rfl)) (by decide) (backOf (W := 0) (rm_at l Z a0 hw [] wG1 wG3 cx hEL T6.heap n0 Ol6 2 ((kl + ol) + (3 : Int32)) x_6 t_6 k_6 N_6 vs_6 x_1 t_1 k_1 N_1 vs_1 x_2 t_2 k_2 N_2 vs_2 cs_1 cs_2 fq6_0 fq6_1 fq6_2 fq6_3 F6_46 F6_47 F6_48 F6_49 F6_50 F6_51 F6_52 F6_53 pq1_0 pq2_0 pq1_2 pq2_2 pq6_0 (by decide) (own_nn pq1_0 pq2_0 pq1_1 pq2_1)) hZ6 (own_w hw 189 rfl) (own_w hw 2 rfl) (by decide) (by decide)) (g := (mkF m 160 #[vI p1, vI p2, vI p3, vI p4, vI kl, vI ol, vR x_1, vR x_2, vR x_3, vR b4, vR x_6, vI ((kl + ol) + (3 : Int32))] [(.int ((kl + ol) + (3 : Int32))), (.ref x_2), (.ref x_1), (.int 2), (.ref x_6)])) rfl (by rw [hml]; rfl) (argsL := [(.ref x_6), (.int 2), (.ref x_1), (.ref x_2), (.int ((kl + ol) + (3 : Int32)))]) (rest := []) (lenOf pd_40694476 rfl) rfl (Nat.le_of_eq rfl) (hb hby at_160) (fun _ _ => ⟨rfl, eq9, (by decide : 23 + 0 ≤ _), (by decide : 92 + 0 ≤ _)⟩)
  dsimp only [Pt.U, Pt.locs, Pt.cells, Pt.slots] at X10 l10 y10 z10 st10 hQ10
  subst l10 y10 z10
  obtain ⟨rfl, Nq10, eq10⟩ := hQ10
  refine og T10 m 163 #[vI p1, vI p2, vI p3, vI p4, vI kl, vI ol, vR x_1, vR x_2, vR x_3, vR b4, vR x_6, vI ((kl + ol) + (3 : Int32))] [(.int 1)] st10 ?_
  have N10 := Fr.app N9 Nq10
  refine og T10 m 175 #[vI p1, vI p2, vI p3, vI p4, vI kl, vI ol, vR x_1, vR x_2, vR x_3, vR b4, vR x_6, vI ((kl + ol) + (3 : Int32))] [(.int ((kl + ol) + (3 : Int32))), (.ref x_2), (.ref x_1), (.int 3), (.ref x_6)] (fun tgt kgo => ?_) ?_
  · refine XS.ifNo X10.here hx rfl (hb hby at_163) rfl ((if0 _ _).trans (feq (by decide : ¬ ((1 : Int32) = (0 : Int32)))).1) ?_
    show OwnG p e below T10 m 166 #[vI p1, vI p2, vI p3, vI p4, vI kl, vI ol, vR x_1, vR x_2, vR x_3, vR b4, vR x_6, vI ((kl + ol) + (3 : Int32))] [] tgt
    refine XS.aload X10.here hx rfl (hb hby at_166) rfl rfl ?_
    show OwnG p e below T10 m 168 #[vI p1, vI p2, vI p3, vI p4, vI kl, vI ol, vR x_1, vR x_2, vR x_3, vR b4, vR x_6, vI ((kl + ol) + (3 : Int32))] [(.ref x_6)] tgt
    refine XS.iconst X10.here hx rfl (hb hby at_168) ?_
    show OwnG p e below T10 m 169 #[vI p1, vI p2, vI p3, vI p4, vI kl, vI ol, vR x_1, vR x_2, vR x_3, vR b4, vR x_6, vI ((kl + ol) + (3 : Int32))] [(.int 3), (.ref x_6)] tgt
    refine XS.aload X10.here hx rfl (hb hby at_169) rfl rfl ?_
    show OwnG p e below T10 m 171 #[vI p1, vI p2, vI p3, vI p4, vI kl, vI ol, vR x_1, vR x_2, vR x_3, vR b4, vR x_6, vI ((kl + ol) + (3 : Int32))] [(.ref x_1), (.int 3), (.ref x_6)] tgt
    refine XS.aload X10.here hx rfl (hb hby at_171) rfl rfl ?_
    show OwnG p e below T10 m 173 #[vI p1, vI p2, vI p3, vI p4, vI kl, vI ol, vR x_1, vR x_2, vR x_3, vR b4, vR x_6, vI ((kl + ol) + (3 : Int32))] [(.ref x_2), (.ref x_1), (.int 3), (.ref x_6)] tgt
    refine XS.iload X10.here hx rfl (hb hby at_173) rfl ?_
    exact kgo
  obtain ⟨_, _, ⟨T11, L11, k11, n11⟩, -, X11, ⟨Lc11, hQ11, l11, y11, z11⟩, st11⟩ := Jvm.LawKit.callS X10 hx (y := mN37) ho6 (mvT hZ6 (own_w hw 187 rfl)) (mvT hZ6 (own_w hw 188 rfl)) (mvT hZ6 (own_w hw 2 rfl)) (mvT hZ6 (own_w hw 189 rfl)) (by decide) (backOf (W := 0) (rm_at l Z a0 hw [] wG1 wG3 cx hEL T6.heap n0 Ol6 3 ((kl + ol) + (3 : Int32)) x_6 t_6 k_6 N_6 vs_6 x_1 t_1 k_1 N_1 vs_1 x_2 t_2 k_2 N_2 vs_2 cs_1 cs_2 fq6_0 fq6_1 fq6_2 fq6_3 F6_46 F6_47 F6_48 F6_49 F6_50 F6_51 F6_52 F6_53 pq1_0 pq2_0 pq1_2 pq2_2 pq6_0 (by decide) (own_nn pq1_0 pq2_0 pq1_1 pq2_1)) hZ6 (own_w hw 189 rfl) (own_w hw 2 rfl) (by decide) (by decide)) (g := (mkF m 175 #[vI p1, vI p2, vI p3, vI p4, vI kl, vI ol, vR x_1, vR x_2, vR x_3, vR b4, vR x_6, vI ((kl + ol) + (3 : Int32))] [(.int ((kl + ol) + (3 : Int32))), (.ref x_2), (.ref x_1), (.int 3), (.ref x_6)])) rfl (by rw [hml]; rfl) (argsL := [(.ref x_6), (.int 3), (.ref x_1), (.ref x_2), (.int ((kl + ol) + (3 : Int32)))]) (rest := []) (lenOf pd_40694476 rfl) rfl (Nat.le_of_eq rfl) (hb hby at_175) (fun _ _ => ⟨rfl, eq10, (by decide : 23 + 0 ≤ _), (by decide : 92 + 0 ≤ _)⟩)
  dsimp only [Pt.U, Pt.locs, Pt.cells, Pt.slots] at X11 l11 y11 z11 st11 hQ11
  subst l11 y11 z11
  obtain ⟨rfl, Nq11, eq11⟩ := hQ11
  refine og T11 m 178 #[vI p1, vI p2, vI p3, vI p4, vI kl, vI ol, vR x_1, vR x_2, vR x_3, vR b4, vR x_6, vI ((kl + ol) + (3 : Int32))] [(.int 1)] st11 ?_
  have N11 := Fr.app N10 Nq11
  refine og T11 m 190 #[vI p1, vI p2, vI p3, vI p4, vI kl, vI ol, vR x_1, vR x_2, vR x_3, vR b4, vR x_6, vI ((kl + ol) + (3 : Int32))] [(.int ((kl + ol) + (3 : Int32))), (.ref x_2), (.ref x_1), (.int 4), (.ref x_6)] (fun tgt kgo => ?_) ?_
  · refine XS.ifNo X11.here hx rfl (hb hby at_178) rfl ((if0 _ _).trans (feq (by decide : ¬ ((1 : Int32) = (0 : Int32)))).1) ?_
    show OwnG p e below T11 m 181 #[vI p1, vI p2, vI p3, vI p4, vI kl, vI ol, vR x_1, vR x_2, vR x_3, vR b4, vR x_6, vI ((kl + ol) + (3 : Int32))] [] tgt
    refine XS.aload X11.here hx rfl (hb hby at_181) rfl rfl ?_
    show OwnG p e below T11 m 183 #[vI p1, vI p2, vI p3, vI p4, vI kl, vI ol, vR x_1, vR x_2, vR x_3, vR b4, vR x_6, vI ((kl + ol) + (3 : Int32))] [(.ref x_6)] tgt
    refine XS.iconst X11.here hx rfl (hb hby at_183) ?_
    show OwnG p e below T11 m 184 #[vI p1, vI p2, vI p3, vI p4, vI kl, vI ol, vR x_1, vR x_2, vR x_3, vR b4, vR x_6, vI ((kl + ol) + (3 : Int32))] [(.int 4), (.ref x_6)] tgt
    refine XS.aload X11.here hx rfl (hb hby at_184) rfl rfl ?_
    show OwnG p e below T11 m 186 #[vI p1, vI p2, vI p3, vI p4, vI kl, vI ol, vR x_1, vR x_2, vR x_3, vR b4, vR x_6, vI ((kl + ol) + (3 : Int32))] [(.ref x_1), (.int 4), (.ref x_6)] tgt
    refine XS.aload X11.here hx rfl (hb hby at_186) rfl rfl ?_
    show OwnG p e below T11 m 188 #[vI p1, vI p2, vI p3, vI p4, vI kl, vI ol, vR x_1, vR x_2, vR x_3, vR b4, vR x_6, vI ((kl + ol) + (3 : Int32))] [(.ref x_2), (.ref x_1), (.int 4), (.ref x_6)] tgt
    refine XS.iload X11.here hx rfl (hb hby at_188) rfl ?_
    exact kgo
  obtain ⟨_, _, ⟨T12, L12, k12, n12⟩, -, X12, ⟨Lc12, hQ12, l12, y12, z12⟩, st12⟩ := Jvm.LawKit.callS X11 hx (y := mN37) ho6 (mvT hZ6 (own_w hw 187 rfl)) (mvT hZ6 (own_w hw 188 rfl)) (mvT hZ6 (own_w hw 2 rfl)) (mvT hZ6 (own_w hw 189 rfl)) (by decide) (backOf (W := 0) (rm_at l Z a0 hw [] wG1 wG3 cx hEL T6.heap n0 Ol6 4 ((kl + ol) + (3 : Int32)) x_6 t_6 k_6 N_6 vs_6 x_1 t_1 k_1 N_1 vs_1 x_2 t_2 k_2 N_2 vs_2 cs_1 cs_2 fq6_0 fq6_1 fq6_2 fq6_3 F6_46 F6_47 F6_48 F6_49 F6_50 F6_51 F6_52 F6_53 pq1_0 pq2_0 pq1_2 pq2_2 pq6_0 (by decide) (own_nn pq1_0 pq2_0 pq1_1 pq2_1)) hZ6 (own_w hw 189 rfl) (own_w hw 2 rfl) (by decide) (by decide)) (g := (mkF m 190 #[vI p1, vI p2, vI p3, vI p4, vI kl, vI ol, vR x_1, vR x_2, vR x_3, vR b4, vR x_6, vI ((kl + ol) + (3 : Int32))] [(.int ((kl + ol) + (3 : Int32))), (.ref x_2), (.ref x_1), (.int 4), (.ref x_6)])) rfl (by rw [hml]; rfl) (argsL := [(.ref x_6), (.int 4), (.ref x_1), (.ref x_2), (.int ((kl + ol) + (3 : Int32)))]) (rest := []) (lenOf pd_40694476 rfl) rfl (Nat.le_of_eq rfl) (hb hby at_190) (fun _ _ => ⟨rfl, eq11, (by decide : 23 + 0 ≤ _), (by decide : 92 + 0 ≤ _)⟩)
  dsimp only [Pt.U, Pt.locs, Pt.cells, Pt.slots] at X12 l12 y12 z12 st12 hQ12
  subst l12 y12 z12
  obtain ⟨rfl, Nq12, eq12⟩ := hQ12
  refine og T12 m 193 #[vI p1, vI p2, vI p3, vI p4, vI kl, vI ol, vR x_1, vR x_2, vR x_3, vR b4, vR x_6, vI ((kl + ol) + (3 : Int32))] [(.int 1)] st12 ?_
  have N12 := Fr.app N11 Nq12
  refine og T12 m 205 #[vI p1, vI p2, vI p3, vI p4, vI kl, vI ol, vR x_1, vR x_2, vR x_3, vR b4, vR x_6, vI ((kl + ol) + (3 : Int32))] [(.int ((kl + ol) + (3 : Int32))), (.ref x_2), (.ref x_1), (.int 5), (.ref x_6)] (fun tgt kgo => ?_) ?_
  · refine XS.ifNo X12.here hx rfl (hb hby at_193) rfl ((if0 _ _).trans (feq (by decide : ¬ ((1 : Int32) = (0 : Int32)))).1) ?_
    show OwnG p e below T12 m 196 #[vI p1, vI p2, vI p3, vI p4, vI kl, vI ol, vR x_1, vR x_2, vR x_3, vR b4, vR x_6, vI ((kl + ol) + (3 : Int32))] [] tgt
    refine XS.aload X12.here hx rfl (hb hby at_196) rfl rfl ?_
    show OwnG p e below T12 m 198 #[vI p1, vI p2, vI p3, vI p4, vI kl, vI ol, vR x_1, vR x_2, vR x_3, vR b4, vR x_6, vI ((kl + ol) + (3 : Int32))] [(.ref x_6)] tgt
    refine XS.iconst X12.here hx rfl (hb hby at_198) ?_
    show OwnG p e below T12 m 199 #[vI p1, vI p2, vI p3, vI p4, vI kl, vI ol, vR x_1, vR x_2, vR x_3, vR b4, vR x_6, vI ((kl + ol) + (3 : Int32))] [(.int 5), (.ref x_6)] tgt
    refine XS.aload X12.here hx rfl (hb hby at_199) rfl rfl ?_
    show OwnG p e below T12 m 201 #[vI p1, vI p2, vI p3, vI p4, vI kl, vI ol, vR x_1, vR x_2, vR x_3, vR b4, vR x_6, vI ((kl + ol) + (3 : Int32))] [(.ref x_1), (.int 5), (.ref x_6)] tgt
    refine XS.aload X12.here hx rfl (hb hby at_201) rfl rfl ?_
    show OwnG p e below T12 m 203 #[vI p1, vI p2, vI p3, vI p4, vI kl, vI ol, vR x_1, vR x_2, vR x_3, vR b4, vR x_6, vI ((kl + ol) + (3 : Int32))] [(.ref x_2), (.ref x_1), (.int 5), (.ref x_6)] tgt
    refine XS.iload X12.here hx rfl (hb hby at_203) rfl ?_
    exact kgo
  obtain ⟨_, _, ⟨T13, L13, k13, n13⟩, -, X13, ⟨Lc13, hQ13, l13, y13, z13⟩, st13⟩ := Jvm.LawKit.callS X12 hx (y := mN37) ho6 (mvT hZ6 (own_w hw 187 rfl)) (mvT hZ6 (own_w hw 188 rfl)) (mvT hZ6 (own_w hw 2 rfl)) (mvT hZ6 (own_w hw 189 rfl)) (by decide) (backOf (W := 0) (rm_at l Z a0 hw [] wG1 wG3 cx hEL T6.heap n0 Ol6 5 ((kl + ol) + (3 : Int32)) x_6 t_6 k_6 N_6 vs_6 x_1 t_1 k_1 N_1 vs_1 x_2 t_2 k_2 N_2 vs_2 cs_1 cs_2 fq6_0 fq6_1 fq6_2 fq6_3 F6_46 F6_47 F6_48 F6_49 F6_50 F6_51 F6_52 F6_53 pq1_0 pq2_0 pq1_2 pq2_2 pq6_0 (by decide) (own_nn pq1_0 pq2_0 pq1_1 pq2_1)) hZ6 (own_w hw 189 rfl) (own_w hw 2 rfl) (by decide) (by decide)) (g := (mkF m 205 #[vI p1, vI p2, vI p3, vI p4, vI kl, vI ol, vR x_1, vR x_2, vR x_3, vR b4, vR x_6, vI ((kl + ol) + (3 : Int32))] [(.int ((kl + ol) + (3 : Int32))), (.ref x_2), (.ref x_1), (.int 5), (.ref x_6)])) rfl (by rw [hml]; rfl) (argsL := [(.ref x_6), (.int 5), (.ref x_1), (.ref x_2), (.int ((kl + ol) + (3 : Int32)))]) (rest := []) (lenOf pd_40694476 rfl) rfl (Nat.le_of_eq rfl) (hb hby at_205) (fun _ _ => ⟨rfl, eq12, (by decide : 23 + 0 ≤ _), (by decide : 92 + 0 ≤ _)⟩)
  dsimp only [Pt.U, Pt.locs, Pt.cells, Pt.slots] at X13 l13 y13 z13 st13 hQ13
  subst l13 y13 z13
  obtain ⟨rfl, Nq13, eq13⟩ := hQ13
  refine og T13 m 208 #[vI p1, vI p2, vI p3, vI p4, vI kl, vI ol, vR x_1, vR x_2, vR x_3, vR b4, vR x_6, vI ((kl + ol) + (3 : Int32))] [(.int 1)] st13 ?_
  have N13 := Fr.app N12 Nq13
  refine og T13 m 221 #[vI p1, vI p2, vI p3, vI p4, vI kl, vI ol, vR x_1, vR x_2, vR x_3, vR b4, vR x_6, vI ((kl + ol) + (3 : Int32))] [(.int ((kl + ol) + (3 : Int32))), (.ref x_2), (.ref x_1), (.int 6), (.ref x_6)] (fun tgt kgo => ?_) ?_
  · refine XS.ifNo X13.here hx rfl (hb hby at_208) rfl ((if0 _ _).trans (feq (by decide : ¬ ((1 : Int32) = (0 : Int32)))).1) ?_
    show OwnG p e below T13 m 211 #[vI p1, vI p2, vI p3, vI p4, vI kl, vI ol, vR x_1, vR x_2, vR x_3, vR b4, vR x_6, vI ((kl + ol) + (3 : Int32))] [] tgt
    refine XS.aload X13.here hx rfl (hb hby at_211) rfl rfl ?_
    show OwnG p e below T13 m 213 #[vI p1, vI p2, vI p3, vI p4, vI kl, vI ol, vR x_1, vR x_2, vR x_3, vR b4, vR x_6, vI ((kl + ol) + (3 : Int32))] [(.ref x_6)] tgt
    refine XS.bipush X13.here hx rfl (hb hby at_213) ?_
    show OwnG p e below T13 m 215 #[vI p1, vI p2, vI p3, vI p4, vI kl, vI ol, vR x_1, vR x_2, vR x_3, vR b4, vR x_6, vI ((kl + ol) + (3 : Int32))] [(.int 6), (.ref x_6)] tgt
    refine XS.aload X13.here hx rfl (hb hby at_215) rfl rfl ?_
    show OwnG p e below T13 m 217 #[vI p1, vI p2, vI p3, vI p4, vI kl, vI ol, vR x_1, vR x_2, vR x_3, vR b4, vR x_6, vI ((kl + ol) + (3 : Int32))] [(.ref x_1), (.int 6), (.ref x_6)] tgt
    refine XS.aload X13.here hx rfl (hb hby at_217) rfl rfl ?_
    show OwnG p e below T13 m 219 #[vI p1, vI p2, vI p3, vI p4, vI kl, vI ol, vR x_1, vR x_2, vR x_3, vR b4, vR x_6, vI ((kl + ol) + (3 : Int32))] [(.ref x_2), (.ref x_1), (.int 6), (.ref x_6)] tgt
    refine XS.iload X13.here hx rfl (hb hby at_219) rfl ?_
    exact kgo
  obtain ⟨_, _, ⟨T14, L14, k14, n14⟩, -, X14, ⟨Lc14, hQ14, l14, y14, z14⟩, st14⟩ := Jvm.LawKit.callS X13 hx (y := mN37) ho6 (mvT hZ6 (own_w hw 187 rfl)) (mvT hZ6 (own_w hw 188 rfl)) (mvT hZ6 (own_w hw 2 rfl)) (mvT hZ6 (own_w hw 189 rfl)) (by decide) (backOf (W := 0) (rm_at l Z a0 hw [] wG1 wG3 cx hEL T6.heap n0 Ol6 6 ((kl + ol) + (3 : Int32)) x_6 t_6 k_6 N_6 vs_6 x_1 t_1 k_1 N_1 vs_1 x_2 t_2 k_2 N_2 vs_2 cs_1 cs_2 fq6_0 fq6_1 fq6_2 fq6_3 F6_46 F6_47 F6_48 F6_49 F6_50 F6_51 F6_52 F6_53 pq1_0 pq2_0 pq1_2 pq2_2 pq6_0 (by decide) (own_nn pq1_0 pq2_0 pq1_1 pq2_1)) hZ6 (own_w hw 189 rfl) (own_w hw 2 rfl) (by decide) (by decide)) (g := (mkF m 221 #[vI p1, vI p2, vI p3, vI p4, vI kl, vI ol, vR x_1, vR x_2, vR x_3, vR b4, vR x_6, vI ((kl + ol) + (3 : Int32))] [(.int ((kl + ol) + (3 : Int32))), (.ref x_2), (.ref x_1), (.int 6), (.ref x_6)])) rfl (by rw [hml]; rfl) (argsL := [(.ref x_6), (.int 6), (.ref x_1), (.ref x_2), (.int ((kl + ol) + (3 : Int32)))]) (rest := []) (lenOf pd_40694476 rfl) rfl (Nat.le_of_eq rfl) (hb hby at_221) (fun _ _ => ⟨rfl, eq13, (by decide : 23 + 0 ≤ _), (by decide : 92 + 0 ≤ _)⟩)
  dsimp only [Pt.U, Pt.locs, Pt.cells, Pt.slots] at X14 l14 y14 z14 st14 hQ14
  subst l14 y14 z14
  obtain ⟨rfl, Nq14, eq14⟩ := hQ14
  refine og T14 m 224 #[vI p1, vI p2, vI p3, vI p4, vI kl, vI ol, vR x_1, vR x_2, vR x_3, vR b4, vR x_6, vI ((kl + ol) + (3 : Int32))] [(.int 1)] st14 ?_
  have N14 := Fr.app N13 Nq14
  refine og T14 m 232 #[vI p1, vI p2, vI p3, vI p4, vI kl, vI ol, vR x_1, vR x_2, vR x_3, vR b4, vR x_6, vI ((kl + ol) + (3 : Int32))] [(.int 1)] (fun tgt kgo => ?_) ?_
  · refine XS.ifNo X14.here hx rfl (hb hby at_224) rfl ((if0 _ _).trans (feq (by decide : ¬ ((1 : Int32) = (0 : Int32)))).1) ?_
    show OwnG p e below T14 m 227 #[vI p1, vI p2, vI p3, vI p4, vI kl, vI ol, vR x_1, vR x_2, vR x_3, vR b4, vR x_6, vI ((kl + ol) + (3 : Int32))] [] tgt
    refine XS.iconst X14.here hx rfl (hb hby at_227) ?_
    show OwnG p e below T14 m 228 #[vI p1, vI p2, vI p3, vI p4, vI kl, vI ol, vR x_1, vR x_2, vR x_3, vR b4, vR x_6, vI ((kl + ol) + (3 : Int32))] [(.int 1)] tgt
    refine XS.goto X14.here hx rfl (pc0 := 228) (pc' := 232) rfl (hb hby at_228) (by decide) (by decide) ?_
    exact kgo
  refine own_leaveW (Z := Z) (EL := consts_1) X14 hS6 (eq14 ▸ (Nat.le_refl _)) hlk (v := some (.int 1)) (fun h => by rw [Bd.returns] at h; cases h) (fun fs hr => retN X14 hx (t := .boolean) Bd.returns (by simp) (hb hby at_232) (by rw [(by decide : nar .boolean (1 : Int32) = (1 : Int32))]; exact hr)) (by decide) (by decide) ?_ ?_
  · rw [hh, eq14]
    exact R6.trans (CHv.at X14 hZ6 hEL R6.1)
  show Q_law Z p1 p2 p3 p4 h0 n0 _ T14.heap _
  rw [eq14]
  exact ⟨rfl, N14⟩
set_option maxRecDepth 65536 in
set_option maxHeartbeats 40000000 in
theorem comes_1 {Post : Tables → Env → Array Value → State → Outcome → State → Prop} (hpost : ∀ tb e args s v u, (limb_1_1.after args s (.returned v) u = true ∧ limb_1_2.after args s (.returned v) u = true ∧ True) → ReturnedEndW s (.returned v) u (Jvm.fieldLocs frame_1_writes args s ++ Jvm.arrayLocs frame_1_arrays args s ++ Jvm.staticLocs frame_1_statics s) 40 3264 → Post tb e args s (.returned v) u) :
    ArmFor flags0 classFile x code maxLocals ret World_1 tables_1 room_1 Calls_1 rest_1 Pre_1 Post := by
  intro l hfl _ _ p e ha hc hk s m args below hf hA hF happ hP
  obtain ⟨hcalls, hrest, hpre⟩ := hP
  obtain ⟨-, -, -, hnamed, -, -, -, hat⟩ := (Spec.applies_iff hf).mp happ
  obtain ⟨hg, hn⟩ := and_e (Cond.before_iff.mp (show (Jvm.Cond.and given_1 narrow_1).before args s = true from hpre))
  obtain ⟨gc, gr0⟩ := and_e hg
  obtain ⟨ga0, gr1⟩ := and_e gr0
  obtain ⟨ga1, gr2⟩ := and_e gr1
  obtain ⟨ga2, gr3⟩ := and_e gr2
  obtain ⟨w0, w1, w2, w3, rfl⟩ : ∃ w0 w1 w2 w3 : Value, args = #[w0, w1, w2, w3] := by
    have hs : args.size = 4 := by simpa [Cond.value, given_1] using gc
    obtain ⟨L⟩ := args
    match L, hs with
    | [w0, w1, w2, w3], _ => exact ⟨w0, w1, w2, w3, rfl⟩
  have hw := fun d (hd : d ∈ tables_1) => atoms_spec (ws := Jvm.Cond.code x code maxLocals ret :: tables_1) hat d (List.mem_cons_of_mem _ hd)
  have hfit : Fit s := fun {y c} hc i hi => by
    obtain ⟨ha, rfl⟩ := Array.getElem?_eq_some_iff.mp hc
    have q := List.all_eq_true.mp ((Array.all_eq_true_iff_forall_mem.mp hF) _ (Array.getElem_mem ha)) i (List.mem_range.mpr hi)
    simpa [Array.getElem?_eq_getElem hi] using q
  obtain ⟨hsets, hown0⟩ := atoms_of _ (rest_1_c_eq ▸ (show rest_1_c.before _ s = true from hrest))
  obtain ⟨i0, ei0⟩ := is_v ga0
  obtain rfl : w0 = (.int i0) := Option.some.inj ei0
  obtain ⟨i1, ei1⟩ := is_v ga1
  obtain rfl : w1 = (.int i1) := Option.some.inj ei1
  obtain ⟨i2, ei2⟩ := is_v ga2
  obtain rfl : w2 = (.int i2) := Option.some.inj ei2
  obtain ⟨i3, ei3⟩ := is_v gr3
  obtain rfl : w3 = (.int i3) := Option.some.inj ei3
  obtain ⟨wG1, e10⟩ := is_v (Cond.before_iff.mp (hsets _ (List.mem_of_getElem? (i := 1) rfl)))
  have wO2 : Sta s s.heap "java/lang/String" "COMPACT_STRINGS" "Z" (.int wG1) := Sta.start e10 (Or.inl (hsets _ (List.mem_of_getElem? (i := 0) rfl)))
  have wP5 : ¬ (wG1 = (0 : Int32)) := gotF (Cond.eq_ints e10 (Term.int_eval (0))) (not_v (Cond.before_iff.mp (hsets _ (List.mem_of_getElem? (i := 2) rfl))))
  obtain ⟨wG3, e14, wrG3⟩ := isR_v (Cond.before_iff.mp (hsets _ (List.mem_of_getElem? (i := 8) rfl)))
  have wO4 : Sta s s.heap "jdk/internal/util/Preconditions" "SIOOBE_FORMATTER" "Ljava/util/function/BiFunction;" wG3 := Sta.start e14 (Or.inl (hsets _ (List.mem_of_getElem? (i := 7) rfl)))
  have hstr : ∀ a ∈ Bundle.stringAtoms, a.before _ s = true := fun d hd => hw d ((by decide +kernel : ∀ d ∈ Bundle.stringAtoms, d ∈ tables_1) d hd)
  have hEL : EW s #[(.int i0), (.int i1), (.int i2), (.int i3)] consts_1 := (EW.cons (own_w hw 139 rfl) (by decide) (EW.cons (own_w hw 140 rfl) (by decide) (EW.cons (own_w hw 34 rfl) (by decide) EW.nil)))
  have hcw : Jvm.Lit.compactW.before _ s = true := (hsets _ (List.mem_of_getElem? (i := 2) rfl))
  have hH : CHv s consts_1 s.vm s.heap := CHv.start hEL (fun p hp => hcalls.1 p hp) hcw (hstr _ (by simp [Bundle.stringAtoms])) (hstr _ (by simp [Bundle.stringAtoms, Bundle.sN]))
  obtain ⟨n, o, h1, h2, h3, _, L, rfl, ⟨rfl, N⟩, -, hq⟩ := rm_law l s _ hw tables_1 wG1 wG3 ⟨wO2, wP5, wO4, wrG3, hstr⟩ hEL s.heap s.heap.size (Old.start s) i0 i1 i2 i3 p e ha hc hk s m _ below hf ((Spec.applies_iff_loose hf).mp happ).1 ⟨rfl, State.Warmed39.refl s, rfl, hH⟩ trivial
  refine ⟨n, _, h1, h2, h3, hpost _ _ _ _ _ _ ⟨Cond.after_iff.mpr rfl, Cond.after_iff.mpr (eq_i res_at (Term.int_eval (1)) rfl), trivial⟩ ⟨hq.1, hq.2.1, hq.2.2.1, (hq.2.2.2.sift fun y hy => Or.inr (N y hy)).mono (by decide) (by decide)⟩⟩
theorem main_1_1 : Claimed_1_1 := comes_1 fun _ _ _ _ _ _ h hF => ⟨h.1, hF⟩
theorem main_1_2 : Claimed_1_2 := comes_1 fun _ _ _ _ _ _ h hF => ⟨h.2.1, hF⟩
end Jvm.Pilot.@@N@@
namespace Jvm.Pilot.@@N@@
open Jvm Jvm.ClassFile Sem Op Lib Jvm.Free Jvm.Stand Jvm.Pilot.@@N@@.Jvm.D
/-! MADE BY PROGRAM (witnessworld.py) out of the Statement's table words and the real class files: 27 classes; the members and pool entries that the words name. The judged class is class 1, her method 1. -/
namespace start1
open Jvm.ClassFile
def u (s : String) : CpInfo := .utf8 (stringToUtf16 s)
/-- a pool by its gaps: so many unusable entries, then the entry; so many at the end -/
def gap : Nat → List CpInfo → List CpInfo
  | 0, r => r
  | n + 1, r => .unusable :: gap n r
def poolList (es : List (Nat × CpInfo)) (last : Nat) : List CpInfo := es.foldr (fun e r => gap e.1 (e.2 :: r)) (gap last [])
def pool (es : List (Nat × CpInfo)) (last : Nat) : Array CpInfo := ⟨poolList es last⟩
def fileOf (pool : Array CpInfo) (this : Nat) (attrs : Array Attribute := #[]) (ms : Array MethodInfo := #[]) (fl : Nat := 33) (sup : Nat := 0) (ifs : Array Nat := #[]) (fds : Array FieldInfo := #[]) : ClassFile where
  minorVersion := 0
  majorVersion := 65
  constantPool := pool
  accessFlags := fl
  thisClass := this
  superClass := sup
  interfaces := ifs
  fields := fds
  methods := ms
  attributes := attrs
def plain (name : String) (sup : Option ClassId) : Class where
  name := name
  kind := .ordinary
  loader := none
  accessFlags := 33
  super := sup
  interfaces := #[]
  cf := none
  fields := #[]
  methods := #[]
  instanceTypes := #[]
  staticTypes := #[]
  resolved := #[]
  callSites := []
  init := .initialized
  statics := none
  mirror := none

def pool0 : Array CpInfo := pool [(5, u "<init>"), (0, u "()V"), (1, .class_ 10), (1, u "java/lang/Object")] 113

def k0c0 : Code := { maxStack := 0, maxLocals := 1, code := object_method_1_code, exceptionTable := #[], attributes := #[] }
def k0m0 : Method := { name := "<init>", desc := "()V", sig := { parameters := [], returnType := none }, accessFlags := 1, code := some k0c0 }
/-- java/lang/Object -/
def k0 : Class := { plain "java/lang/Object" none with
  accessFlags := 33
  interfaces := #[]
  cf := some (fileOf pool0 8 #[] #[{ accessFlags := 1, nameIndex := 5, descriptorIndex := 6, attributes := #[] }] 33 0 #[] #[])
  fields := #[]
  methods := #[k0m0]
  instanceTypes := #[]
  staticTypes := #[]
  resolved := Array.replicate 124 none
  statics := none }

def pool1 : Array CpInfo := pool [(2, .class_ 4), (1, u "java/lang/Object"), (0, u "<init>"), (0, u "()V"), (0, .methodref 8 9), (0, .class_ 10), (0, .nameAndType 11 12), (0, u "com/example/kindling/kindling/config/SettingKeyAndOriginPinLaw"), (0, u "mk"), (0, u "(ICC)Ljava/lang/String;"), (0, .methodref 14 15), (0, .class_ 16), (0, .nameAndType 17 18), (0, u "java/lang/String"), (0, u "valueOf"), (0, u "(C)Ljava/lang/String;"), (0, .class_ 20), (0, u "com/example/kindling/kindling/config/Setting"), (0, .methodref 19 22), (0, .nameAndType 5 23), (0, u "(Ljava/lang/String;Ljava/lang/String;Ljava/lang/String;)V"), (0, .methodref 19 25), (0, .nameAndType 26 27), (0, u "keyAndOrigin"), (0, u "()Ljava/lang/String;"), (0, .methodref 14 29), (0, .nameAndType 30 31), (0, u "length"), (0, u "()I"), (0, .methodref 8 33), (0, .nameAndType 34 35), (0, u "at"), (0, u "(Ljava/lang/String;ILjava/lang/String;Ljava/lang/String;I)Z"), (0, .methodref 14 37), (0, .nameAndType 5 38), (0, u "([C)V"), (0, .methodref 14 40), (0, .nameAndType 41 42), (0, u "charAt"), (0, u "(I)C"), (0, .methodref 8 44), (0, .nameAndType 45 46), (0, u "expected"), (0, u "(ILjava/lang/String;Ljava/lang/String;)C"), (2, u "law"), (0, u "(IIII)Z")] 3

def k1m0 : Method := { name := "<init>", desc := "()V", sig := { parameters := [], returnType := none }, accessFlags := 1, code := none }
def k1c1 : Code := { maxStack := 5, maxLocals := 12, code := code, exceptionTable := #[], attributes := #[] }
def k1m1 : Method := { name := "law", desc := "(IIII)Z", sig := { parameters := [.int, .int, .int, .int], returnType := some .boolean }, accessFlags := 9, code := some k1c1 }
def k1c2 : Code := { maxStack := 6, maxLocals := 3, code := method_3_code, exceptionTable := #[], attributes := #[] }
def k1m2 : Method := { name := "mk", desc := "(ICC)Ljava/lang/String;", sig := { parameters := [.int, .char, .char], returnType := some (.object "java/lang/String") }, accessFlags := 10, code := some k1c2 }
def k1c3 : Code := { maxStack := 4, maxLocals := 5, code := method_4_code, exceptionTable := #[], attributes := #[] }
def k1m3 : Method := { name := "at", desc := "(Ljava/lang/String;ILjava/lang/String;Ljava/lang/String;I)Z", sig := { parameters := [(.object "java/lang/String"), .int, (.object "java/lang/String"), (.object "java/lang/String"), .int], returnType := some .boolean }, accessFlags := 10, code := some k1c3 }
def k1c4 : Code := { maxStack := 3, maxLocals := 5, code := method_5_code, exceptionTable := #[], attributes := #[] }
def k1m4 : Method := { name := "expected", desc := "(ILjava/lang/String;Ljava/lang/String;)C", sig := { parameters := [.int, (.object "java/lang/String"), (.object "java/lang/String")], returnType := some .char }, accessFlags := 10, code := some k1c4 }
/-- com/example/kindling/kindling/config/SettingKeyAndOriginPinLaw -/
def k1 : Class := { plain "com/example/kindling/kindling/config/SettingKeyAndOriginPinLaw" (some 0) with
  accessFlags := 49
  interfaces := #[]
  cf := some (fileOf pool1 8 #[] #[{ accessFlags := 1, nameIndex := 5, descriptorIndex := 6, attributes := #[] }, { accessFlags := 9, nameIndex := 49, descriptorIndex := 50, attributes := #[] }, { accessFlags := 10, nameIndex := 11, descriptorIndex := 12, attributes := #[] }, { accessFlags := 10, nameIndex := 34, descriptorIndex := 35, attributes := #[] }, { accessFlags := 10, nameIndex := 45, descriptorIndex := 46, attributes := #[] }] 49 2 #[] #[])
  fields := #[]
  methods := #[k1m0, k1m1, k1m2, k1m3, k1m4]
  instanceTypes := #[]
  staticTypes := #[]
  resolved := Array.replicate 54 none
  statics := none }

def pool2 : Array CpInfo := pool [(1, .class_ 2), (0, u "java/io/Serializable"), (0, .class_ 4), (0, u "java/lang/Object")] 2

/-- java/io/Serializable -/
def k2 : Class := { plain "java/io/Serializable" (some 0) with
  accessFlags := 1537
  interfaces := #[]
  cf := some (fileOf pool2 1 #[] #[] 1537 3 #[] #[])
  fields := #[]
  methods := #[]
  instanceTypes := #[]
  staticTypes := #[]
  resolved := Array.replicate 7 none
  statics := none }

def pool3 : Array CpInfo := pool [(1, .class_ 2), (0, u "java/lang/Comparable"), (0, .class_ 4), (0, u "java/lang/Object")] 7

/-- java/lang/Comparable -/
def k3 : Class := { plain "java/lang/Comparable" (some 0) with
  accessFlags := 1537
  interfaces := #[]
  cf := some (fileOf pool3 1 #[] #[] 1537 3 #[] #[])
  fields := #[]
  methods := #[]
  instanceTypes := #[]
  staticTypes := #[]
  resolved := Array.replicate 12 none
  statics := none }

def pool4 : Array CpInfo := pool [(2, .class_ 4), (1, u "java/lang/CharSequence"), (42, .class_ 48), (0, u "java/lang/CharSequence$1CodePointIterator"), (10, .class_ 60), (0, u "java/lang/CharSequence$1CharIterator"), (5, .class_ 67), (0, u "java/lang/Object")] 63

/-- java/lang/CharSequence -/
def k4 : Class := { plain "java/lang/CharSequence" (some 0) with
  accessFlags := 1537
  interfaces := #[]
  cf := some (fileOf pool4 2 #[.nestMembers #[47, 59]] #[] 1537 66 #[] #[])
  fields := #[]
  methods := #[]
  instanceTypes := #[]
  staticTypes := #[]
  resolved := Array.replicate 131 none
  statics := none }

def pool5 : Array CpInfo := pool [(1, .class_ 2), (0, u "java/lang/constant/Constable"), (0, .class_ 4), (0, u "java/lang/Object")] 6

/-- java/lang/constant/Constable -/
def k5 : Class := { plain "java/lang/constant/Constable" (some 0) with
  accessFlags := 1537
  interfaces := #[]
  cf := some (fileOf pool5 1 #[] #[] 1537 3 #[] #[])
  fields := #[]
  methods := #[]
  instanceTypes := #[]
  staticTypes := #[]
  resolved := Array.replicate 11 none
  statics := none }

def pool6 : Array CpInfo := pool [(1, .class_ 2), (0, u "java/lang/constant/ConstantDesc"), (0, .class_ 4), (0, u "java/lang/Object")] 32

/-- java/lang/constant/ConstantDesc -/
def k6 : Class := { plain "java/lang/constant/ConstantDesc" (some 0) with
  accessFlags := 1537
  interfaces := #[]
  cf := some (fileOf pool6 1 #[] #[] 1537 3 #[] #[])
  fields := #[]
  methods := #[]
  instanceTypes := #[]
  staticTypes := #[]
  resolved := Array.replicate 37 none
  statics := none }

def pool7 : Array CpInfo := pool [(1, .methodref 2 3), (0, .class_ 4), (0, .nameAndType 5 6), (0, u "java/lang/Object"), (0, u "<init>"), (0, u "()V"), (0, .string 8), (0, u ""), (0, .fieldref 10 11), (0, .class_ 12), (0, .nameAndType 13 14), (0, u "java/lang/String"), (0, u "value"), (0, u "[B"), (0, .fieldref 10 16), (0, .nameAndType 17 18), (0, u "coder"), (0, u "B"), (2, u "hash"), (0, u "I"), (2, u "hashIsZero"), (0, u "Z"), (0, .methodref 10 28), (0, .nameAndType 5 29), (0, u "([CIILjava/lang/Void;)V"), (8, .fieldref 10 39), (0, .nameAndType 40 26), (0, u "COMPACT_STRINGS"), (1, .class_ 44), (1, u "java/lang/StringUTF16"), (0, u "compress"), (1, .methodref 42 48), (0, .nameAndType 49 50), (0, u "coderFromArrayLen"), (0, u "([BI)B"), (2, u "toBytes"), (0, .methodref 55 56), (0, .class_ 57), (0, .nameAndType 58 59), (0, u "java/util/Arrays"), (0, u "copyOfRange"), (0, u "([BII)[B"), (47, .class_ 109), (1, u "java/lang/StringLatin1"), (32, u "()Z"), (34, .methodref 42 178), (0, .nameAndType 45 179), (0, u "([CII)[B"), (13, .class_ 195), (1, u "java/lang/System"), (13, .methodref 10 210), (0, .nameAndType 5 211), (0, u "([BB)V"), (0, .methodref 193 213), (0, .nameAndType 214 215), (0, u "arraycopy"), (0, u "(Ljava/lang/Object;ILjava/lang/Object;II)V"), (118, u "()I"), (0, .methodref 10 336), (0, .nameAndType 17 337), (0, u "()B"), (2, u "()[B"), (22, u "([BI)C"), (5, u "(C)Z"), (21, u "(II)V"), (35, u "(I)C"), (61, .methodref 10 490), (0, .nameAndType 5 491), (0, u "(Ljava/lang/AbstractStringBuilder;Ljava/lang/Void;)V"), (0, .methodref 10 493), (0, .nameAndType 494 142), (0, u "isLatin1"), (0, .methodref 107 496), (0, .nameAndType 497 363), (0, u "charAt"), (3, u "checkIndex"), (4, .nameAndType 507 334), (0, u "length"), (24, u "getBytes"), (16, .methodref 550 506), (0, .class_ 551), (0, u "java/lang/AbstractStringBuilder"), (0, .methodref 550 553), (0, .nameAndType 554 340), (0, u "getValue"), (20, .class_ 576), (0, u "java/lang/CharSequence"), (22, u "CASE_INSENSITIVE_ORDER"), (0, u "Ljava/util/Comparator;"), (181, u "valueOf"), (0, u "(C)Ljava/lang/String;"), (37, u "([BIB)V"), (188, u "([C)V"), (4, .methodref 107 1016), (0, .nameAndType 1017 369), (0, u "canEncode"), (0, .methodref 107 1019), (0, .nameAndType 53 1020), (0, u "(C)[B"), (26, .methodref 550 493), (5, .fieldref 1054 1055), (0, .class_ 1056), (0, .nameAndType 1057 1058), (0, u "jdk/internal/util/Preconditions"), (0, u "SIOOBE_FORMATTER"), (0, u "Ljava/util/function/BiFunction;"), (0, .methodref 1054 1060), (0, .nameAndType 501 1061), (0, u "(IILjava/util/function/BiFunction;)I"), (39, u "serialPersistentFields"), (0, u "[Ljava/io/ObjectStreamField;"), (0, .class_ 1104), (0, u "java/lang/String$CaseInsensitiveComparator"), (1, .class_ 1107), (0, u "java/io/Serializable"), (0, .class_ 1109), (0, u "java/lang/Comparable"), (0, .class_ 1111), (0, u "java/lang/constant/Constable"), (0, .class_ 1113), (0, u "java/lang/constant/ConstantDesc"), (2, u "serialVersionUID"), (0, u "J"), (3, u "REPL"), (0, u "C"), (2, u "LATIN1"), (1, u "UTF16"), (105, u "(Ljava/lang/StringBuilder;)V")] 217

def k7m0 : Method := { name := "<init>", desc := "()V", sig := { parameters := [], returnType := none }, accessFlags := 1, code := none }
def k7c1 : Code := { maxStack := 5, maxLocals := 2, code := jdk_42_method_3_code, exceptionTable := #[], attributes := #[] }
def k7m1 : Method := { name := "<init>", desc := "([C)V", sig := { parameters := [(.array .char)], returnType := none }, accessFlags := 1, code := some k7c1 }
def k7c2 : Code := { maxStack := 3, maxLocals := 2, code := jdk_42_method_53_code, exceptionTable := #[], attributes := #[] }
def k7m2 : Method := { name := "<init>", desc := "(Ljava/lang/StringBuilder;)V", sig := { parameters := [(.object "java/lang/StringBuilder")], returnType := none }, accessFlags := 1, code := some k7c2 }
def k7c3 : Code := { maxStack := 2, maxLocals := 1, code := jdk_42_method_54_code, exceptionTable := #[], attributes := #[] }
def k7m3 : Method := { name := "length", desc := "()I", sig := { parameters := [], returnType := some .int }, accessFlags := 1, code := some k7c3 }
def k7c4 : Code := { maxStack := 2, maxLocals := 2, code := jdk_42_method_56_code, exceptionTable := #[], attributes := #[] }
def k7m4 : Method := { name := "charAt", desc := "(I)C", sig := { parameters := [.int], returnType := some .char }, accessFlags := 1, code := some k7c4 }
def k7c5 : Code := { maxStack := 4, maxLocals := 1, code := jdk_42_method_139_code, exceptionTable := #[], attributes := #[] }
def k7m5 : Method := { name := "valueOf", desc := "(C)Ljava/lang/String;", sig := { parameters := [.char], returnType := some (.object "java/lang/String") }, accessFlags := 9, code := some k7c5 }
def k7c6 : Code := { maxStack := 5, maxLocals := 4, code := jdk_42_method_147_code, exceptionTable := #[], attributes := #[] }
def k7m6 : Method := { name := "getBytes", desc := "([BIB)V", sig := { parameters := [(.array .byte), .int, .byte], returnType := none }, accessFlags := 0, code := some k7c6 }
def k7c7 : Code := { maxStack := 4, maxLocals := 6, code := jdk_42_method_149_code, exceptionTable := #[], attributes := #[] }
def k7m7 : Method := { name := "<init>", desc := "([CIILjava/lang/Void;)V", sig := { parameters := [(.array .char), .int, .int, (.object "java/lang/Void")], returnType := none }, accessFlags := 2, code := some k7c7 }
def k7c8 : Code := { maxStack := 5, maxLocals := 5, code := jdk_42_method_150_code, exceptionTable := #[], attributes := #[] }
def k7m8 : Method := { name := "<init>", desc := "(Ljava/lang/AbstractStringBuilder;Ljava/lang/Void;)V", sig := { parameters := [(.object "java/lang/AbstractStringBuilder"), (.object "java/lang/Void")], returnType := none }, accessFlags := 0, code := some k7c8 }
def k7c9 : Code := { maxStack := 2, maxLocals := 3, code := jdk_42_method_151_code, exceptionTable := #[], attributes := #[] }
def k7m9 : Method := { name := "<init>", desc := "([BB)V", sig := { parameters := [(.array .byte), .byte], returnType := none }, accessFlags := 0, code := some k7c9 }
def k7c10 : Code := { maxStack := 1, maxLocals := 1, code := jdk_42_method_152_code, exceptionTable := #[], attributes := #[] }
def k7m10 : Method := { name := "coder", desc := "()B", sig := { parameters := [], returnType := some .byte }, accessFlags := 0, code := some k7c10 }
def k7c11 : Code := { maxStack := 1, maxLocals := 1, code := jdk_42_method_154_code, exceptionTable := #[], attributes := #[] }
def k7m11 : Method := { name := "isLatin1", desc := "()Z", sig := { parameters := [], returnType := some .boolean }, accessFlags := 0, code := some k7c11 }
def k7c12 : Code := { maxStack := 3, maxLocals := 2, code := jdk_42_method_155_code, exceptionTable := #[], attributes := #[] }
def k7m12 : Method := { name := "checkIndex", desc := "(II)V", sig := { parameters := [.int, .int], returnType := none }, accessFlags := 8, code := some k7c12 }
/-- java/lang/String -/
def k7 : Class := { plain "java/lang/String" (some 0) with
  accessFlags := 49
  interfaces := #[2, 3, 4, 5, 6]
  cf := some (fileOf pool7 10 #[.nestMembers #[1103]] #[{ accessFlags := 1, nameIndex := 5, descriptorIndex := 6, attributes := #[] }, { accessFlags := 1, nameIndex := 5, descriptorIndex := 1010, attributes := #[] }, { accessFlags := 1, nameIndex := 5, descriptorIndex := 1233, attributes := #[] }, { accessFlags := 1, nameIndex := 507, descriptorIndex := 334, attributes := #[] }, { accessFlags := 1, nameIndex := 497, descriptorIndex := 427, attributes := #[] }, { accessFlags := 9, nameIndex := 782, descriptorIndex := 783, attributes := #[] }, { accessFlags := 0, nameIndex := 532, descriptorIndex := 821, attributes := #[] }, { accessFlags := 2, nameIndex := 5, descriptorIndex := 29, attributes := #[] }, { accessFlags := 0, nameIndex := 5, descriptorIndex := 491, attributes := #[] }, { accessFlags := 0, nameIndex := 5, descriptorIndex := 211, attributes := #[] }, { accessFlags := 0, nameIndex := 17, descriptorIndex := 337, attributes := #[] }, { accessFlags := 0, nameIndex := 494, descriptorIndex := 142, attributes := #[] }, { accessFlags := 8, nameIndex := 501, descriptorIndex := 391, attributes := #[] }] 49 2 #[1106, 1108, 575, 1110, 1112] #[{ accessFlags := 18, nameIndex := 13, descriptorIndex := 14, attributes := #[] }, { accessFlags := 18, nameIndex := 17, descriptorIndex := 18, attributes := #[] }, { accessFlags := 2, nameIndex := 21, descriptorIndex := 22, attributes := #[] }, { accessFlags := 2, nameIndex := 25, descriptorIndex := 26, attributes := #[] }, { accessFlags := 26, nameIndex := 1116, descriptorIndex := 1117, attributes := #[] }, { accessFlags := 24, nameIndex := 40, descriptorIndex := 26, attributes := #[] }, { accessFlags := 26, nameIndex := 1101, descriptorIndex := 1102, attributes := #[] }, { accessFlags := 26, nameIndex := 1121, descriptorIndex := 1122, attributes := #[] }, { accessFlags := 25, nameIndex := 599, descriptorIndex := 600, attributes := #[] }, { accessFlags := 24, nameIndex := 1125, descriptorIndex := 18, attributes := #[] }, { accessFlags := 24, nameIndex := 1127, descriptorIndex := 18, attributes := #[] }])
  fields := #[{ name := "value", type := (.array .byte), accessFlags := 18, slot := 0, constantValue := 0 }, { name := "coder", type := .byte, accessFlags := 18, slot := 1, constantValue := 0 }, { name := "hash", type := .int, accessFlags := 2, slot := 2, constantValue := 0 }, { name := "hashIsZero", type := .boolean, accessFlags := 2, slot := 3, constantValue := 0 }, { name := "serialVersionUID", type := .long, accessFlags := 26, slot := 0, constantValue := 0 }, { name := "COMPACT_STRINGS", type := .boolean, accessFlags := 24, slot := 1, constantValue := 0 }, { name := "serialPersistentFields", type := (.array (.object "java/io/ObjectStreamField")), accessFlags := 26, slot := 2, constantValue := 0 }, { name := "REPL", type := .char, accessFlags := 26, slot := 3, constantValue := 0 }, { name := "CASE_INSENSITIVE_ORDER", type := (.object "java/util/Comparator"), accessFlags := 25, slot := 4, constantValue := 0 }, { name := "LATIN1", type := .byte, accessFlags := 24, slot := 5, constantValue := 0 }, { name := "UTF16", type := .byte, accessFlags := 24, slot := 6, constantValue := 0 }]
  methods := #[k7m0, k7m1, k7m2, k7m3, k7m4, k7m5, k7m6, k7m7, k7m8, k7m9, k7m10, k7m11, k7m12]
  instanceTypes := #[(.array .byte), .byte, .int, .boolean]
  staticTypes := #[.long, .boolean, (.array (.object "java/io/ObjectStreamField")), .char, (.object "java/util/Comparator"), .byte, .byte]
  resolved := Array.replicate 1451 none
  statics := some 0 }

def pool8 : Array CpInfo := pool [(6, .class_ 8), (1, u "java/lang/Object"), (0, u "<init>"), (0, u "()V"), (1, .class_ 14), (1, u "java/lang/StringUTF16"), (31, u "$assertionsDisabled"), (0, u "Z"), (13, u "HI_BYTE_SHIFT"), (0, u "I"), (2, u "LO_BYTE_SHIFT"), (49, .methodref 12 116), (0, .nameAndType 117 118), (0, u "compress"), (0, u "([CI[BII)I"), (3, u "([CII)[B"), (138, u "coderFromArrayLen"), (0, u "([BI)B"), (106, .class_ 371), (1, u "java/lang/StringUTF16$LinesSpliterator"), (58, u "MAX_LENGTH"), (196, .class_ 628), (0, u "java/lang/StringUTF16$CodePointsSpliterator"), (0, .class_ 630), (0, u "java/lang/StringUTF16$CharsSpliterator")] 4

def k8m0 : Method := { name := "<init>", desc := "()V", sig := { parameters := [], returnType := none }, accessFlags := 0, code := none }
def k8c1 : Code := { maxStack := 2, maxLocals := 2, code := jdk_52_method_15_code, exceptionTable := #[], attributes := #[] }
def k8m1 : Method := { name := "coderFromArrayLen", desc := "([BI)B", sig := { parameters := [(.array .byte), .int], returnType := some .byte }, accessFlags := 8, code := some k8c1 }
def k8c2 : Code := { maxStack := 5, maxLocals := 6, code := jdk_52_method_16_code, exceptionTable := #[], attributes := #[] }
def k8m2 : Method := { name := "compress", desc := "([CII)[B", sig := { parameters := [(.array .char), .int, .int], returnType := some (.array .byte) }, accessFlags := 9, code := some k8c2 }
def k8c3 : Code := { maxStack := 3, maxLocals := 7, code := jdk_52_method_21_code, exceptionTable := #[], attributes := #[] }
def k8m3 : Method := { name := "compress", desc := "([CI[BII)I", sig := { parameters := [(.array .char), .int, (.array .byte), .int, .int], returnType := some .int }, accessFlags := 9, code := some k8c3 }
/-- java/lang/StringUTF16 -/
def k8 : Class := { plain "java/lang/StringUTF16" (some 0) with
  accessFlags := 48
  interfaces := #[]
  cf := some (fileOf pool8 12 #[.nestMembers #[627, 629, 369]] #[{ accessFlags := 0, nameIndex := 9, descriptorIndex := 10, attributes := #[] }, { accessFlags := 8, nameIndex := 261, descriptorIndex := 262, attributes := #[] }, { accessFlags := 9, nameIndex := 117, descriptorIndex := 122, attributes := #[] }, { accessFlags := 9, nameIndex := 117, descriptorIndex := 118, attributes := #[] }] 48 6 #[] #[{ accessFlags := 26, nameIndex := 61, descriptorIndex := 62, attributes := #[] }, { accessFlags := 26, nameIndex := 65, descriptorIndex := 62, attributes := #[] }, { accessFlags := 24, nameIndex := 430, descriptorIndex := 62, attributes := #[] }, { accessFlags := 4120, nameIndex := 46, descriptorIndex := 47, attributes := #[] }])
  fields := #[{ name := "HI_BYTE_SHIFT", type := .int, accessFlags := 26, slot := 0, constantValue := 0 }, { name := "LO_BYTE_SHIFT", type := .int, accessFlags := 26, slot := 1, constantValue := 0 }, { name := "MAX_LENGTH", type := .int, accessFlags := 24, slot := 2, constantValue := 0 }, { name := "$assertionsDisabled", type := .boolean, accessFlags := 4120, slot := 3, constantValue := 0 }]
  methods := #[k8m0, k8m1, k8m2, k8m3]
  instanceTypes := #[]
  staticTypes := #[.int, .int, .int, .boolean]
  resolved := Array.replicate 635 none
  statics := none }

def pool9 : Array CpInfo := pool [(1, .class_ 2), (0, u "java/lang/String"), (1, .class_ 6), (1, u "java/lang/Object"), (0, u "<init>"), (0, u "()V"), (0, .methodref 1 10), (0, .nameAndType 11 12), (0, u "checkIndex"), (0, u "(II)V"), (1, .class_ 16), (1, u "java/lang/StringLatin1"), (36, u "([BI)C"), (36, u "canEncode"), (14, u "(C)Z"), (15, u "$assertionsDisabled"), (0, u "Z"), (98, .class_ 223), (1, u "java/lang/StringLatin1$LinesSpliterator"), (28, u "charAt"), (127, u "toBytes"), (1, u "(C)[B"), (7, .class_ 391), (0, u "java/lang/StringLatin1$CharsSpliterator")] 3

def k9m0 : Method := { name := "<init>", desc := "()V", sig := { parameters := [], returnType := none }, accessFlags := 0, code := none }
def k9c1 : Code := { maxStack := 2, maxLocals := 2, code := jdk_43_method_2_code, exceptionTable := #[], attributes := #[] }
def k9m1 : Method := { name := "charAt", desc := "([BI)C", sig := { parameters := [(.array .byte), .int], returnType := some .char }, accessFlags := 9, code := some k9c1 }
def k9c2 : Code := { maxStack := 2, maxLocals := 1, code := jdk_43_method_3_code, exceptionTable := #[], attributes := #[] }
def k9m2 : Method := { name := "canEncode", desc := "(C)Z", sig := { parameters := [.char], returnType := some .boolean }, accessFlags := 9, code := some k9c2 }
def k9c3 : Code := { maxStack := 4, maxLocals := 1, code := jdk_43_method_46_code, exceptionTable := #[], attributes := #[] }
def k9m3 : Method := { name := "toBytes", desc := "(C)[B", sig := { parameters := [.char], returnType := some (.array .byte) }, accessFlags := 9, code := some k9c3 }
/-- java/lang/StringLatin1 -/
def k9 : Class := { plain "java/lang/StringLatin1" (some 0) with
  accessFlags := 48
  interfaces := #[]
  cf := some (fileOf pool9 14 #[.nestMembers #[390, 221]] #[{ accessFlags := 0, nameIndex := 7, descriptorIndex := 8, attributes := #[] }, { accessFlags := 9, nameIndex := 252, descriptorIndex := 53, attributes := #[] }, { accessFlags := 9, nameIndex := 90, descriptorIndex := 105, attributes := #[] }, { accessFlags := 9, nameIndex := 380, descriptorIndex := 382, attributes := #[] }] 48 4 #[] #[{ accessFlags := 4120, nameIndex := 121, descriptorIndex := 122, attributes := #[] }])
  fields := #[{ name := "$assertionsDisabled", type := .boolean, accessFlags := 4120, slot := 0, constantValue := 0 }]
  methods := #[k9m0, k9m1, k9m2, k9m3]
  instanceTypes := #[]
  staticTypes := #[.boolean]
  resolved := Array.replicate 395 none
  statics := none }

def pool10 : Array CpInfo := pool [(1, .methodref 2 3), (0, .class_ 4), (0, .nameAndType 5 6), (0, u "java/lang/Object"), (0, u "<init>"), (0, u "()V"), (0, .class_ 8), (0, u "java/lang/Record")] 13

def k10c0 : Code := { maxStack := 1, maxLocals := 1, code := jdk_30_method_1_code, exceptionTable := #[], attributes := #[] }
def k10m0 : Method := { name := "<init>", desc := "()V", sig := { parameters := [], returnType := none }, accessFlags := 4, code := some k10c0 }
/-- java/lang/Record -/
def k10 : Class := { plain "java/lang/Record" (some 0) with
  accessFlags := 1057
  interfaces := #[]
  cf := some (fileOf pool10 7 #[] #[{ accessFlags := 4, nameIndex := 5, descriptorIndex := 6, attributes := #[] }] 1057 2 #[] #[])
  fields := #[]
  methods := #[k10m0]
  instanceTypes := #[]
  staticTypes := #[]
  resolved := Array.replicate 22 none
  statics := none }

def pool11 : Array CpInfo := pool [(1, .methodref 2 3), (0, .class_ 4), (0, .nameAndType 5 6), (0, u "java/lang/Record"), (0, u "<init>"), (0, u "()V"), (0, .fieldref 8 9), (0, .class_ 10), (0, .nameAndType 11 12), (0, u "com/example/kindling/kindling/config/Setting"), (0, u "key"), (0, u "Ljava/lang/String;"), (0, .fieldref 8 14), (0, .nameAndType 15 12), (0, u "value"), (0, .fieldref 8 17), (0, .nameAndType 18 12), (0, u "origin"), (0, .class_ 20), (0, u "java/lang/StringBuilder"), (0, .methodref 19 3), (2, u "append"), (3, .methodref 19 29), (0, .nameAndType 24 30), (0, u "(Ljava/lang/String;)Ljava/lang/StringBuilder;"), (3, .methodref 19 35), (0, .nameAndType 36 37), (0, u "toString"), (0, u "()Ljava/lang/String;"), (0, .string 39), (0, u " ("), (0, .string 41), (0, u ")"), (11, u "(Ljava/lang/String;Ljava/lang/String;Ljava/lang/String;)V"), (4, u "keyAndOrigin")] 24

def k11c0 : Code := { maxStack := 2, maxLocals := 4, code := prog_28_method_1_code, exceptionTable := #[], attributes := #[] }
def k11m0 : Method := { name := "<init>", desc := "(Ljava/lang/String;Ljava/lang/String;Ljava/lang/String;)V", sig := { parameters := [(.object "java/lang/String"), (.object "java/lang/String"), (.object "java/lang/String")], returnType := none }, accessFlags := 1, code := some k11c0 }
def k11c1 : Code := { maxStack := 2, maxLocals := 1, code := prog_28_method_3_code, exceptionTable := #[], attributes := #[] }
def k11m1 : Method := { name := "keyAndOrigin", desc := "()Ljava/lang/String;", sig := { parameters := [], returnType := some (.object "java/lang/String") }, accessFlags := 1, code := some k11c1 }
/-- com/example/kindling/kindling/config/Setting -/
def k11 : Class := { plain "com/example/kindling/kindling/config/Setting" (some 10) with
  accessFlags := 49
  interfaces := #[]
  cf := some (fileOf pool11 8 #[] #[{ accessFlags := 1, nameIndex := 5, descriptorIndex := 53, attributes := #[] }, { accessFlags := 1, nameIndex := 58, descriptorIndex := 37, attributes := #[] }] 49 2 #[] #[{ accessFlags := 18, nameIndex := 11, descriptorIndex := 12, attributes := #[] }, { accessFlags := 18, nameIndex := 15, descriptorIndex := 12, attributes := #[] }, { accessFlags := 18, nameIndex := 18, descriptorIndex := 12, attributes := #[] }])
  fields := #[{ name := "key", type := (.object "java/lang/String"), accessFlags := 18, slot := 0, constantValue := 0 }, { name := "value", type := (.object "java/lang/String"), accessFlags := 18, slot := 1, constantValue := 0 }, { name := "origin", type := (.object "java/lang/String"), accessFlags := 18, slot := 2, constantValue := 0 }]
  methods := #[k11m0, k11m1]
  instanceTypes := #[(.object "java/lang/String"), (.object "java/lang/String"), (.object "java/lang/String")]
  staticTypes := #[]
  resolved := Array.replicate 83 none
  statics := none }

def pool12 : Array CpInfo := pool [(1, .class_ 2), (0, u "java/lang/Appendable"), (0, .class_ 4), (0, u "java/lang/Object")] 9

/-- java/lang/Appendable -/
def k12 : Class := { plain "java/lang/Appendable" (some 0) with
  accessFlags := 1537
  interfaces := #[]
  cf := some (fileOf pool12 1 #[] #[] 1537 3 #[] #[])
  fields := #[]
  methods := #[]
  instanceTypes := #[]
  staticTypes := #[]
  resolved := Array.replicate 14 none
  statics := none }

def pool13 : Array CpInfo := pool [(1, .class_ 2), (0, u "java/lang/String"), (0, .methodref 4 5), (0, .class_ 6), (0, .nameAndType 7 8), (0, u "java/lang/Object"), (0, u "<init>"), (0, u "()V"), (1, .class_ 12), (1, u "java/lang/AbstractStringBuilder"), (0, u "EMPTYVALUE"), (0, u "[B"), (0, .fieldref 10 16), (0, .nameAndType 17 14), (0, u "value"), (0, .fieldref 1 19), (0, .nameAndType 20 21), (0, u "COMPACT_STRINGS"), (0, u "Z"), (0, .fieldref 10 23), (0, .nameAndType 24 25), (0, u "coder"), (0, u "B"), (6, .methodref 1 33), (0, .nameAndType 34 35), (0, u "length"), (0, u "()I"), (4, .methodref 1 41), (0, .nameAndType 24 42), (0, u "()B"), (2, u "append"), (0, u "(Ljava/lang/String;)Ljava/lang/AbstractStringBuilder;"), (1, .class_ 49), (0, u "java/lang/CharSequence"), (19, u "(Ljava/lang/String;)V"), (5, u "maybeLatin1"), (3, .fieldref 10 80), (0, .nameAndType 81 82), (0, u "count"), (0, u "I"), (2, u "isLatin1"), (0, u "()Z"), (13, .methodref 10 101), (0, .nameAndType 102 103), (0, u "ensureCapacityInternal"), (0, u "(I)V"), (104, .methodref 10 209), (0, .nameAndType 210 211), (0, u "putStringAt"), (0, u "(ILjava/lang/String;)V"), (5, u "inflateIfNeededFor"), (2, .nameAndType 221 222), (0, u "getBytes"), (0, u "([BIB)V"), (174, .methodref 10 398), (0, .nameAndType 217 69), (0, .methodref 1 220), (3, u "()[B"), (40, .class_ 445), (0, u "java/lang/Appendable"), (106, u "getValue")] 56

def k13m0 : Method := { name := "<init>", desc := "()V", sig := { parameters := [], returnType := none }, accessFlags := 0, code := none }
def k13c1 : Code := { maxStack := 2, maxLocals := 2, code := jdk_68_method_2_code, exceptionTable := #[], attributes := #[] }
def k13m1 : Method := { name := "<init>", desc := "(I)V", sig := { parameters := [.int], returnType := none }, accessFlags := 0, code := some k13c1 }
def k13c2 : Code := { maxStack := 1, maxLocals := 1, code := jdk_68_method_6_code, exceptionTable := #[], attributes := #[] }
def k13m2 : Method := { name := "length", desc := "()I", sig := { parameters := [], returnType := some .int }, accessFlags := 1, code := some k13c2 }
def k13c3 : Code := { maxStack := 4, maxLocals := 3, code := jdk_68_method_9_code, exceptionTable := #[], attributes := #[] }
def k13m3 : Method := { name := "ensureCapacityInternal", desc := "(I)V", sig := { parameters := [.int], returnType := none }, accessFlags := 2, code := some k13c3 }
def k13c4 : Code := { maxStack := 3, maxLocals := 3, code := jdk_68_method_22_code, exceptionTable := #[], attributes := #[] }
def k13m4 : Method := { name := "append", desc := "(Ljava/lang/String;)Ljava/lang/AbstractStringBuilder;", sig := { parameters := [(.object "java/lang/String")], returnType := some (.object "java/lang/AbstractStringBuilder") }, accessFlags := 1, code := some k13c4 }
def k13c5 : Code := { maxStack := 1, maxLocals := 1, code := jdk_68_method_64_code, exceptionTable := #[], attributes := #[] }
def k13m5 : Method := { name := "getValue", desc := "()[B", sig := { parameters := [], returnType := some (.array .byte) }, accessFlags := 16, code := some k13c5 }
def k13c6 : Code := { maxStack := 1, maxLocals := 1, code := jdk_68_method_68_code, exceptionTable := #[], attributes := #[] }
def k13m6 : Method := { name := "isLatin1", desc := "()Z", sig := { parameters := [], returnType := some .boolean }, accessFlags := 16, code := some k13c6 }
def k13c7 : Code := { maxStack := 2, maxLocals := 2, code := jdk_68_method_71_code, exceptionTable := #[], attributes := #[] }
def k13m7 : Method := { name := "inflateIfNeededFor", desc := "(Ljava/lang/String;)V", sig := { parameters := [(.object "java/lang/String")], returnType := none }, accessFlags := 2, code := some k13c7 }
def k13c8 : Code := { maxStack := 4, maxLocals := 3, code := jdk_68_method_73_code, exceptionTable := #[], attributes := #[] }
def k13m8 : Method := { name := "putStringAt", desc := "(ILjava/lang/String;)V", sig := { parameters := [.int, (.object "java/lang/String")], returnType := none }, accessFlags := 2, code := some k13c8 }
/-- java/lang/AbstractStringBuilder -/
def k13 : Class := { plain "java/lang/AbstractStringBuilder" (some 0) with
  accessFlags := 1056
  interfaces := #[12, 4]
  cf := some (fileOf pool13 10 #[] #[{ accessFlags := 0, nameIndex := 7, descriptorIndex := 8, attributes := #[] }, { accessFlags := 0, nameIndex := 7, descriptorIndex := 103, attributes := #[] }, { accessFlags := 1, nameIndex := 34, descriptorIndex := 35, attributes := #[] }, { accessFlags := 2, nameIndex := 102, descriptorIndex := 103, attributes := #[] }, { accessFlags := 1, nameIndex := 45, descriptorIndex := 46, attributes := #[] }, { accessFlags := 16, nameIndex := 552, descriptorIndex := 403, attributes := #[] }, { accessFlags := 16, nameIndex := 85, descriptorIndex := 86, attributes := #[] }, { accessFlags := 2, nameIndex := 217, descriptorIndex := 69, attributes := #[] }, { accessFlags := 2, nameIndex := 210, descriptorIndex := 211, attributes := #[] }] 1056 4 #[444, 48] #[{ accessFlags := 0, nameIndex := 17, descriptorIndex := 14, attributes := #[] }, { accessFlags := 0, nameIndex := 24, descriptorIndex := 25, attributes := #[] }, { accessFlags := 0, nameIndex := 75, descriptorIndex := 21, attributes := #[] }, { accessFlags := 0, nameIndex := 81, descriptorIndex := 82, attributes := #[] }, { accessFlags := 26, nameIndex := 13, descriptorIndex := 14, attributes := #[] }])
  fields := #[{ name := "value", type := (.array .byte), accessFlags := 0, slot := 0, constantValue := 0 }, { name := "coder", type := .byte, accessFlags := 0, slot := 1, constantValue := 0 }, { name := "maybeLatin1", type := .boolean, accessFlags := 0, slot := 2, constantValue := 0 }, { name := "count", type := .int, accessFlags := 0, slot := 3, constantValue := 0 }, { name := "EMPTYVALUE", type := (.array .byte), accessFlags := 26, slot := 0, constantValue := 0 }]
  methods := #[k13m0, k13m1, k13m2, k13m3, k13m4, k13m5, k13m6, k13m7, k13m8]
  instanceTypes := #[(.array .byte), .byte, .boolean, .int]
  staticTypes := #[(.array .byte)]
  resolved := Array.replicate 609 none
  statics := none }

def pool14 : Array CpInfo := pool [(1, .methodref 2 3), (0, .class_ 4), (0, .nameAndType 5 6), (0, u "java/lang/AbstractStringBuilder"), (0, u "<init>"), (0, u "(I)V"), (11, .class_ 20), (1, u "java/lang/String"), (3, .class_ 26), (1, u "java/lang/StringBuilder"), (0, u "append"), (0, u "(Ljava/lang/String;)Ljava/lang/StringBuilder;"), (0, .methodref 2 30), (0, .nameAndType 27 31), (0, u "(Ljava/lang/String;)Ljava/lang/AbstractStringBuilder;"), (105, .methodref 18 138), (0, .nameAndType 5 139), (0, u "(Ljava/lang/StringBuilder;)V"), (5, u "()V"), (10, u "()I"), (186, .methodref 2 344), (0, .nameAndType 345 156), (0, u "length"), (3, .class_ 350), (0, u "java/lang/Appendable"), (0, .class_ 352), (0, u "java/io/Serializable"), (0, .class_ 354), (0, u "java/lang/Comparable"), (0, .class_ 356), (0, u "java/lang/CharSequence"), (0, u "serialVersionUID"), (0, u "J"), (40, u "toString"), (0, u "()Ljava/lang/String;")] 21

def k14c0 : Code := { maxStack := 2, maxLocals := 1, code := jdk_67_method_1_code, exceptionTable := #[], attributes := #[] }
def k14m0 : Method := { name := "<init>", desc := "()V", sig := { parameters := [], returnType := none }, accessFlags := 1, code := some k14c0 }
def k14c1 : Code := { maxStack := 2, maxLocals := 2, code := jdk_67_method_7_code, exceptionTable := #[], attributes := #[] }
def k14m1 : Method := { name := "append", desc := "(Ljava/lang/String;)Ljava/lang/StringBuilder;", sig := { parameters := [(.object "java/lang/String")], returnType := some (.object "java/lang/StringBuilder") }, accessFlags := 1, code := some k14c1 }
def k14c2 : Code := { maxStack := 3, maxLocals := 1, code := jdk_67_method_42_code, exceptionTable := #[], attributes := #[] }
def k14m2 : Method := { name := "toString", desc := "()Ljava/lang/String;", sig := { parameters := [], returnType := some (.object "java/lang/String") }, accessFlags := 1, code := some k14c2 }
def k14c3 : Code := { maxStack := 1, maxLocals := 1, code := jdk_67_method_93_code, exceptionTable := #[], attributes := #[] }
def k14m3 : Method := { name := "length", desc := "()I", sig := { parameters := [], returnType := some .int }, accessFlags := 4161, code := some k14c3 }
/-- java/lang/StringBuilder -/
def k14 : Class := { plain "java/lang/StringBuilder" (some 13) with
  accessFlags := 49
  interfaces := #[12, 2, 3, 4]
  cf := some (fileOf pool14 24 #[] #[{ accessFlags := 1, nameIndex := 5, descriptorIndex := 145, attributes := #[] }, { accessFlags := 1, nameIndex := 27, descriptorIndex := 28, attributes := #[] }, { accessFlags := 1, nameIndex := 399, descriptorIndex := 400, attributes := #[] }, { accessFlags := 4161, nameIndex := 345, descriptorIndex := 156, attributes := #[] }] 49 2 #[349, 351, 353, 355] #[{ accessFlags := 24, nameIndex := 357, descriptorIndex := 358, attributes := #[] }])
  fields := #[{ name := "serialVersionUID", type := .long, accessFlags := 24, slot := 0, constantValue := 0 }]
  methods := #[k14m0, k14m1, k14m2, k14m3]
  instanceTypes := #[(.array .byte), .byte, .boolean, .int]
  staticTypes := #[.long]
  resolved := Array.replicate 422 none
  statics := none }

def pool15 : Array CpInfo := pool [(2, .class_ 4), (1, u "java/lang/Object"), (0, u "<init>"), (0, u "()V"), (1, .class_ 10), (1, u "java/lang/System"), (0, u "allowSecurityManager"), (0, u "I"), (16, u "cons"), (0, u "Ljava/io/Console;"), (77, .class_ 110), (1, u "java/lang/System$CallersHolder"), (43, u "initialErrStream"), (0, u "Ljava/io/PrintStream;"), (19, u "security"), (0, u "Ljava/lang/SecurityManager;"), (31, .class_ 209), (0, u "java/lang/System$1"), (7, u "props"), (0, u "Ljava/util/Properties;"), (2, u "lineSeparator"), (0, u "Ljava/lang/String;"), (96, .class_ 321), (1, u "java/lang/System$LoggerFinder"), (5, .class_ 328), (0, u "java/lang/System$Logger"), (67, u "err"), (2, u "out"), (91, u "notSupportedJnuEncoding"), (15, u "in"), (17, u "initialIn"), (0, u "Ljava/io/InputStream;"), (35, u "bootLayer"), (0, u "Ljava/lang/ModuleLayer;"), (99, .class_ 664), (0, u "java/lang/System$2"), (9, u "NEVER"), (2, u "MAYBE"), (49, u "arraycopy"), (0, u "(Ljava/lang/Object;ILjava/lang/Object;II)V"), (72, .class_ 802), (0, u "java/lang/System$Logger$Level")] 31

def k15m0 : Method := { name := "<init>", desc := "()V", sig := { parameters := [], returnType := none }, accessFlags := 2, code := none }
def k15m1 : Method := { name := "arraycopy", desc := "(Ljava/lang/Object;ILjava/lang/Object;II)V", sig := { parameters := [(.object "java/lang/Object"), .int, (.object "java/lang/Object"), .int, .int], returnType := none }, accessFlags := 265, code := none }
/-- java/lang/System -/
def k15 : Class := { plain "java/lang/System" (some 0) with
  accessFlags := 49
  interfaces := #[]
  cf := some (fileOf pool15 8 #[.nestMembers #[319, 327, 801, 108, 663, 208]] #[{ accessFlags := 2, nameIndex := 5, descriptorIndex := 6, attributes := #[] }, { accessFlags := 265, nameIndex := 727, descriptorIndex := 728, attributes := #[] }] 49 2 #[] #[{ accessFlags := 25, nameIndex := 507, descriptorIndex := 526, attributes := #[] }, { accessFlags := 25, nameIndex := 399, descriptorIndex := 155, attributes := #[] }, { accessFlags := 25, nameIndex := 396, descriptorIndex := 155, attributes := #[] }, { accessFlags := 10, nameIndex := 525, descriptorIndex := 526, attributes := #[] }, { accessFlags := 26, nameIndex := 674, descriptorIndex := 12, attributes := #[] }, { accessFlags := 26, nameIndex := 677, descriptorIndex := 12, attributes := #[] }, { accessFlags := 10, nameIndex := 11, descriptorIndex := 12, attributes := #[] }, { accessFlags := 74, nameIndex := 175, descriptorIndex := 176, attributes := #[] }, { accessFlags := 10, nameIndex := 491, descriptorIndex := 222, attributes := #[] }, { accessFlags := 74, nameIndex := 29, descriptorIndex := 30, attributes := #[] }, { accessFlags := 74, nameIndex := 154, descriptorIndex := 155, attributes := #[] }, { accessFlags := 10, nameIndex := 217, descriptorIndex := 218, attributes := #[] }, { accessFlags := 10, nameIndex := 221, descriptorIndex := 222, attributes := #[] }, { accessFlags := 8, nameIndex := 562, descriptorIndex := 563, attributes := #[] }])
  fields := #[{ name := "in", type := (.object "java/io/InputStream"), accessFlags := 25, slot := 0, constantValue := 0 }, { name := "out", type := (.object "java/io/PrintStream"), accessFlags := 25, slot := 1, constantValue := 0 }, { name := "err", type := (.object "java/io/PrintStream"), accessFlags := 25, slot := 2, constantValue := 0 }, { name := "initialIn", type := (.object "java/io/InputStream"), accessFlags := 10, slot := 3, constantValue := 0 }, { name := "NEVER", type := .int, accessFlags := 26, slot := 4, constantValue := 0 }, { name := "MAYBE", type := .int, accessFlags := 26, slot := 5, constantValue := 0 }, { name := "allowSecurityManager", type := .int, accessFlags := 10, slot := 6, constantValue := 0 }, { name := "security", type := (.object "java/lang/SecurityManager"), accessFlags := 74, slot := 7, constantValue := 0 }, { name := "notSupportedJnuEncoding", type := (.object "java/lang/String"), accessFlags := 10, slot := 8, constantValue := 0 }, { name := "cons", type := (.object "java/io/Console"), accessFlags := 74, slot := 9, constantValue := 0 }, { name := "initialErrStream", type := (.object "java/io/PrintStream"), accessFlags := 74, slot := 10, constantValue := 0 }, { name := "props", type := (.object "java/util/Properties"), accessFlags := 10, slot := 11, constantValue := 0 }, { name := "lineSeparator", type := (.object "java/lang/String"), accessFlags := 10, slot := 12, constantValue := 0 }, { name := "bootLayer", type := (.object "java/lang/ModuleLayer"), accessFlags := 8, slot := 13, constantValue := 0 }]
  methods := #[k15m0, k15m1]
  instanceTypes := #[]
  staticTypes := #[(.object "java/io/InputStream"), (.object "java/io/PrintStream"), (.object "java/io/PrintStream"), (.object "java/io/InputStream"), .int, .int, .int, (.object "java/lang/SecurityManager"), (.object "java/lang/String"), (.object "java/io/Console"), (.object "java/io/PrintStream"), (.object "java/util/Properties"), (.object "java/lang/String"), (.object "java/lang/ModuleLayer")]
  resolved := Array.replicate 834 none
  statics := none }

def pool16 : Array CpInfo := pool [(2, .class_ 4), (1, u "java/lang/Object"), (0, u "<init>"), (0, u "()V"), (7, .class_ 16), (1, u "java/util/Arrays"), (57, .class_ 76), (1, u "java/util/Arrays$NaturalOrder"), (36, .class_ 115), (1, u "java/util/Arrays$LegacyMergeSort"), (1, u "Z"), (21, u "copyOfRange"), (10, .methodref 151 152), (0, .class_ 153), (0, .nameAndType 154 155), (0, u "java/lang/System"), (0, u "arraycopy"), (0, u "(Ljava/lang/Object;ILjava/lang/Object;II)V"), (148, .methodref 305 306), (0, .class_ 307), (0, .nameAndType 308 309), (0, u "java/lang/Math"), (0, u "min"), (0, u "(II)I"), (29, .methodref 14 340), (0, .nameAndType 341 342), (0, u "copyOfRangeByte"), (0, u "([BII)[B"), (0, .methodref 14 344), (0, .nameAndType 345 346), (0, u "checkLength"), (0, u "(II)V"), (28, .class_ 376), (0, u "java/util/Arrays$ArrayList"), (68, u "$assertionsDisabled"), (269, u "MIN_ARRAY_SORT_GRAN"), (0, u "I"), (2, u "INSERTIONSORT_THRESHOLD"), (255, .class_ 976), (0, u "java/util/Arrays$ArrayItr")] 52

def k16m0 : Method := { name := "<init>", desc := "()V", sig := { parameters := [], returnType := none }, accessFlags := 2, code := none }
def k16c1 : Code := { maxStack := 4, maxLocals := 2, code := jdk_65_method_131_code, exceptionTable := #[], attributes := #[] }
def k16m1 : Method := { name := "checkLength", desc := "(II)V", sig := { parameters := [.int, .int], returnType := none }, accessFlags := 10, code := some k16c1 }
def k16c2 : Code := { maxStack := 3, maxLocals := 3, code := jdk_65_method_132_code, exceptionTable := #[], attributes := #[] }
def k16m2 : Method := { name := "copyOfRange", desc := "([BII)[B", sig := { parameters := [(.array .byte), .int, .int], returnType := some (.array .byte) }, accessFlags := 9, code := some k16c2 }
def k16c3 : Code := { maxStack := 6, maxLocals := 5, code := jdk_65_method_133_code, exceptionTable := #[], attributes := #[] }
def k16m3 : Method := { name := "copyOfRangeByte", desc := "([BII)[B", sig := { parameters := [(.array .byte), .int, .int], returnType := some (.array .byte) }, accessFlags := 10, code := some k16c3 }
/-- java/util/Arrays -/
def k16 : Class := { plain "java/util/Arrays" (some 0) with
  accessFlags := 49
  interfaces := #[]
  cf := some (fileOf pool16 14 #[.nestMembers #[975, 375, 113, 74]] #[{ accessFlags := 2, nameIndex := 5, descriptorIndex := 6, attributes := #[] }, { accessFlags := 10, nameIndex := 345, descriptorIndex := 346, attributes := #[] }, { accessFlags := 9, nameIndex := 139, descriptorIndex := 342, attributes := #[] }, { accessFlags := 10, nameIndex := 341, descriptorIndex := 342, attributes := #[] }] 49 2 #[] #[{ accessFlags := 26, nameIndex := 715, descriptorIndex := 716, attributes := #[] }, { accessFlags := 26, nameIndex := 719, descriptorIndex := 716, attributes := #[] }, { accessFlags := 4120, nameIndex := 445, descriptorIndex := 117, attributes := #[] }])
  fields := #[{ name := "MIN_ARRAY_SORT_GRAN", type := .int, accessFlags := 26, slot := 0, constantValue := 0 }, { name := "INSERTIONSORT_THRESHOLD", type := .int, accessFlags := 26, slot := 1, constantValue := 0 }, { name := "$assertionsDisabled", type := .boolean, accessFlags := 4120, slot := 2, constantValue := 0 }]
  methods := #[k16m0, k16m1, k16m2, k16m3]
  instanceTypes := #[]
  staticTypes := #[.int, .int, .boolean]
  resolved := Array.replicate 1029 none
  statics := none }

def pool17 : Array CpInfo := pool [(1, .class_ 2), (0, u "java/lang/Math"), (1, .class_ 6), (1, u "java/lang/Object"), (0, u "<init>"), (0, u "()V"), (89, .class_ 100), (1, u "java/lang/Math$RandomNumberGeneratorHolder"), (71, u "negativeZeroFloatBits"), (0, u "J"), (2, u "negativeZeroDoubleBits"), (24, u "min"), (43, u "$assertionsDisabled"), (0, u "Z"), (88, u "(II)I"), (2, u "twoToTheDoubleScaleDown"), (0, u "D"), (4, u "twoToTheDoubleScaleUp"), (9, u "E"), (3, u "PI"), (2, u "TAU"), (2, u "DEGREES_TO_RADIANS"), (0, u "RADIANS_TO_DEGREES")] 94

def k17m0 : Method := { name := "<init>", desc := "()V", sig := { parameters := [], returnType := none }, accessFlags := 2, code := none }
def k17c1 : Code := { maxStack := 2, maxLocals := 2, code := jdk_29_method_69_code, exceptionTable := #[], attributes := #[] }
def k17m1 : Method := { name := "min", desc := "(II)I", sig := { parameters := [.int, .int], returnType := some .int }, accessFlags := 9, code := some k17c1 }
/-- java/lang/Math -/
def k17 : Class := { plain "java/lang/Math" (some 0) with
  accessFlags := 49
  interfaces := #[]
  cf := some (fileOf pool17 1 #[.nestMembers #[98]] #[{ accessFlags := 2, nameIndex := 7, descriptorIndex := 8, attributes := #[] }, { accessFlags := 9, nameIndex := 201, descriptorIndex := 335, attributes := #[] }] 49 4 #[] #[{ accessFlags := 25, nameIndex := 354, descriptorIndex := 339, attributes := #[] }, { accessFlags := 25, nameIndex := 358, descriptorIndex := 339, attributes := #[] }, { accessFlags := 25, nameIndex := 361, descriptorIndex := 339, attributes := #[] }, { accessFlags := 26, nameIndex := 364, descriptorIndex := 339, attributes := #[] }, { accessFlags := 26, nameIndex := 365, descriptorIndex := 339, attributes := #[] }, { accessFlags := 26, nameIndex := 172, descriptorIndex := 173, attributes := #[] }, { accessFlags := 26, nameIndex := 176, descriptorIndex := 173, attributes := #[] }, { accessFlags := 8, nameIndex := 344, descriptorIndex := 339, attributes := #[] }, { accessFlags := 8, nameIndex := 338, descriptorIndex := 339, attributes := #[] }, { accessFlags := 4120, nameIndex := 245, descriptorIndex := 246, attributes := #[] }])
  fields := #[{ name := "E", type := .double, accessFlags := 25, slot := 0, constantValue := 0 }, { name := "PI", type := .double, accessFlags := 25, slot := 1, constantValue := 0 }, { name := "TAU", type := .double, accessFlags := 25, slot := 2, constantValue := 0 }, { name := "DEGREES_TO_RADIANS", type := .double, accessFlags := 26, slot := 3, constantValue := 0 }, { name := "RADIANS_TO_DEGREES", type := .double, accessFlags := 26, slot := 4, constantValue := 0 }, { name := "negativeZeroFloatBits", type := .long, accessFlags := 26, slot := 5, constantValue := 0 }, { name := "negativeZeroDoubleBits", type := .long, accessFlags := 26, slot := 6, constantValue := 0 }, { name := "twoToTheDoubleScaleUp", type := .double, accessFlags := 8, slot := 7, constantValue := 0 }, { name := "twoToTheDoubleScaleDown", type := .double, accessFlags := 8, slot := 8, constantValue := 0 }, { name := "$assertionsDisabled", type := .boolean, accessFlags := 4120, slot := 9, constantValue := 0 }]
  methods := #[k17m0, k17m1]
  instanceTypes := #[]
  staticTypes := #[.double, .double, .double, .double, .double, .long, .long, .double, .double, .boolean]
  resolved := Array.replicate 460 none
  statics := none }

def pool18 : Array CpInfo := pool [(2, .class_ 4), (1, u "java/lang/Object"), (0, u "<init>"), (0, u "()V"), (17, .class_ 26), (1, u "jdk/internal/util/Preconditions"), (6, u "checkIndex"), (21, .class_ 56), (0, u "jdk/internal/util/Preconditions$4"), (57, .class_ 115), (0, u "jdk/internal/util/Preconditions$1"), (7, u "SIOOBE_FORMATTER"), (0, u "Ljava/util/function/BiFunction;"), (0, .class_ 126), (0, u "jdk/internal/util/Preconditions$2"), (3, u "AIOOBE_FORMATTER"), (0, .class_ 132), (0, u "jdk/internal/util/Preconditions$3"), (3, u "IOOBE_FORMATTER"), (41, u "(IILjava/util/function/BiFunction;)I")] 15

def k18m0 : Method := { name := "<init>", desc := "()V", sig := { parameters := [], returnType := none }, accessFlags := 1, code := none }
def k18c1 : Code := { maxStack := 3, maxLocals := 3, code := jdk_41_method_11_code, exceptionTable := #[], attributes := #[] }
def k18m1 : Method := { name := "checkIndex", desc := "(IILjava/util/function/BiFunction;)I", sig := { parameters := [.int, .int, (.object "java/util/function/BiFunction")], returnType := some .int }, accessFlags := 9, code := some k18c1 }
/-- jdk/internal/util/Preconditions -/
def k18 : Class := { plain "jdk/internal/util/Preconditions" (some 0) with
  accessFlags := 33
  interfaces := #[]
  cf := some (fileOf pool18 24 #[.nestMembers #[55, 131, 125, 114]] #[{ accessFlags := 1, nameIndex := 5, descriptorIndex := 6, attributes := #[] }, { accessFlags := 9, nameIndex := 33, descriptorIndex := 178, attributes := #[] }] 33 2 #[] #[{ accessFlags := 25, nameIndex := 123, descriptorIndex := 124, attributes := #[] }, { accessFlags := 25, nameIndex := 130, descriptorIndex := 124, attributes := #[] }, { accessFlags := 25, nameIndex := 136, descriptorIndex := 124, attributes := #[] }])
  fields := #[{ name := "SIOOBE_FORMATTER", type := (.object "java/util/function/BiFunction"), accessFlags := 25, slot := 0, constantValue := 0 }, { name := "AIOOBE_FORMATTER", type := (.object "java/util/function/BiFunction"), accessFlags := 25, slot := 1, constantValue := 0 }, { name := "IOOBE_FORMATTER", type := (.object "java/util/function/BiFunction"), accessFlags := 25, slot := 2, constantValue := 0 }]
  methods := #[k18m0, k18m1]
  instanceTypes := #[]
  staticTypes := #[(.object "java/util/function/BiFunction"), (.object "java/util/function/BiFunction"), (.object "java/util/function/BiFunction")]
  resolved := Array.replicate 194 none
  statics := some 1 }

def pool19 : Array CpInfo := pool [(9, u "<init>"), (6, .class_ 18), (1, u "java/lang/Object"), (0, u "()V"), (1, .class_ 23), (1, u "jdk/internal/util/ArraysSupport"), (0, u "LOG2_ARRAY_LONG_INDEX_SCALE"), (0, u "I"), (2, u "U"), (0, u "Ljdk/internal/misc/Unsafe;"), (8, u "BIG_ENDIAN"), (0, u "Z"), (8, u "LOG2_BYTE_BIT_SIZE"), (4, u "LOG2_ARRAY_INT_INDEX_SCALE"), (54, u "JLA"), (0, u "Ljdk/internal/access/JavaLangAccess;"), (11, u "LOG2_ARRAY_BOOLEAN_INDEX_SCALE"), (9, u "LOG2_ARRAY_BYTE_INDEX_SCALE"), (5, u "LOG2_ARRAY_CHAR_INDEX_SCALE"), (5, u "LOG2_ARRAY_SHORT_INDEX_SCALE"), (18, u "LOG2_ARRAY_FLOAT_INDEX_SCALE"), (24, u "LOG2_ARRAY_DOUBLE_INDEX_SCALE"), (89, u "T_BOOLEAN"), (2, u "T_CHAR"), (1, u "T_FLOAT"), (1, u "T_DOUBLE"), (1, u "T_BYTE"), (1, u "T_SHORT"), (1, u "T_INT"), (1, u "T_LONG"), (1, u "SOFT_MAX_ARRAY_LENGTH")] 83

def k19m0 : Method := { name := "<init>", desc := "()V", sig := { parameters := [], returnType := none }, accessFlags := 2, code := none }
/-- jdk/internal/util/ArraysSupport -/
def k19 : Class := { plain "jdk/internal/util/ArraysSupport" (some 0) with
  accessFlags := 33
  interfaces := #[]
  cf := some (fileOf pool19 21 #[] #[{ accessFlags := 2, nameIndex := 9, descriptorIndex := 19, attributes := #[] }] 33 16 #[] #[{ accessFlags := 24, nameIndex := 28, descriptorIndex := 29, attributes := #[] }, { accessFlags := 26, nameIndex := 38, descriptorIndex := 39, attributes := #[] }, { accessFlags := 25, nameIndex := 121, descriptorIndex := 25, attributes := #[] }, { accessFlags := 25, nameIndex := 131, descriptorIndex := 25, attributes := #[] }, { accessFlags := 25, nameIndex := 137, descriptorIndex := 25, attributes := #[] }, { accessFlags := 25, nameIndex := 143, descriptorIndex := 25, attributes := #[] }, { accessFlags := 25, nameIndex := 53, descriptorIndex := 25, attributes := #[] }, { accessFlags := 25, nameIndex := 24, descriptorIndex := 25, attributes := #[] }, { accessFlags := 25, nameIndex := 162, descriptorIndex := 25, attributes := #[] }, { accessFlags := 25, nameIndex := 187, descriptorIndex := 25, attributes := #[] }, { accessFlags := 26, nameIndex := 48, descriptorIndex := 25, attributes := #[] }, { accessFlags := 25, nameIndex := 277, descriptorIndex := 25, attributes := #[] }, { accessFlags := 25, nameIndex := 280, descriptorIndex := 25, attributes := #[] }, { accessFlags := 25, nameIndex := 282, descriptorIndex := 25, attributes := #[] }, { accessFlags := 25, nameIndex := 284, descriptorIndex := 25, attributes := #[] }, { accessFlags := 25, nameIndex := 286, descriptorIndex := 25, attributes := #[] }, { accessFlags := 25, nameIndex := 288, descriptorIndex := 25, attributes := #[] }, { accessFlags := 25, nameIndex := 290, descriptorIndex := 25, attributes := #[] }, { accessFlags := 25, nameIndex := 292, descriptorIndex := 25, attributes := #[] }, { accessFlags := 26, nameIndex := 108, descriptorIndex := 109, attributes := #[] }, { accessFlags := 25, nameIndex := 294, descriptorIndex := 25, attributes := #[] }])
  fields := #[{ name := "U", type := (.object "jdk/internal/misc/Unsafe"), accessFlags := 24, slot := 0, constantValue := 0 }, { name := "BIG_ENDIAN", type := .boolean, accessFlags := 26, slot := 1, constantValue := 0 }, { name := "LOG2_ARRAY_BOOLEAN_INDEX_SCALE", type := .int, accessFlags := 25, slot := 2, constantValue := 0 }, { name := "LOG2_ARRAY_BYTE_INDEX_SCALE", type := .int, accessFlags := 25, slot := 3, constantValue := 0 }, { name := "LOG2_ARRAY_CHAR_INDEX_SCALE", type := .int, accessFlags := 25, slot := 4, constantValue := 0 }, { name := "LOG2_ARRAY_SHORT_INDEX_SCALE", type := .int, accessFlags := 25, slot := 5, constantValue := 0 }, { name := "LOG2_ARRAY_INT_INDEX_SCALE", type := .int, accessFlags := 25, slot := 6, constantValue := 0 }, { name := "LOG2_ARRAY_LONG_INDEX_SCALE", type := .int, accessFlags := 25, slot := 7, constantValue := 0 }, { name := "LOG2_ARRAY_FLOAT_INDEX_SCALE", type := .int, accessFlags := 25, slot := 8, constantValue := 0 }, { name := "LOG2_ARRAY_DOUBLE_INDEX_SCALE", type := .int, accessFlags := 25, slot := 9, constantValue := 0 }, { name := "LOG2_BYTE_BIT_SIZE", type := .int, accessFlags := 26, slot := 10, constantValue := 0 }, { name := "T_BOOLEAN", type := .int, accessFlags := 25, slot := 11, constantValue := 0 }, { name := "T_CHAR", type := .int, accessFlags := 25, slot := 12, constantValue := 0 }, { name := "T_FLOAT", type := .int, accessFlags := 25, slot := 13, constantValue := 0 }, { name := "T_DOUBLE", type := .int, accessFlags := 25, slot := 14, constantValue := 0 }, { name := "T_BYTE", type := .int, accessFlags := 25, slot := 15, constantValue := 0 }, { name := "T_SHORT", type := .int, accessFlags := 25, slot := 16, constantValue := 0 }, { name := "T_INT", type := .int, accessFlags := 25, slot := 17, constantValue := 0 }, { name := "T_LONG", type := .int, accessFlags := 25, slot := 18, constantValue := 0 }, { name := "JLA", type := (.object "jdk/internal/access/JavaLangAccess"), accessFlags := 26, slot := 19, constantValue := 0 }, { name := "SOFT_MAX_ARRAY_LENGTH", type := .int, accessFlags := 25, slot := 20, constantValue := 0 }]
  methods := #[k19m0]
  instanceTypes := #[]
  staticTypes := #[(.object "jdk/internal/misc/Unsafe"), .boolean, .int, .int, .int, .int, .int, .int, .int, .int, .int, .int, .int, .int, .int, .int, .int, .int, .int, (.object "jdk/internal/access/JavaLangAccess"), .int]
  resolved := Array.replicate 378 none
  statics := none }

def pool20 : Array CpInfo := pool [(1, u "java/lang/Cloneable"), (0, .class_ 1), (0, u "java/lang/Object"), (0, .class_ 3)] 3

/-- java/lang/Cloneable -/
def k20 : Class := { plain "java/lang/Cloneable" (some 0) with
  accessFlags := 1537
  interfaces := #[]
  cf := some (fileOf pool20 2 #[] #[] 1537 4 #[] #[])
  fields := #[]
  methods := #[]
  instanceTypes := #[]
  staticTypes := #[]
  resolved := Array.replicate 8 none
  statics := none }

/-- the primitive byte -/
def k21 : Class := { plain "byte" none with kind := .primitive 'B', accessFlags := 0x411 }
/-- [B -/
def k22 : Class := { plain "[B" (some 0) with kind := .array 21 .byte, interfaces := #[20, 2], accessFlags := 1041 }

/-- the primitive char -/
def k23 : Class := { plain "char" none with kind := .primitive 'C', accessFlags := 0x411 }
/-- [C -/
def k24 : Class := { plain "[C" (some 0) with kind := .array 23 .char, interfaces := #[20, 2], accessFlags := 1041 }

/-- the primitive int -/
def k25 : Class := { plain "int" none with kind := .primitive 'I', accessFlags := 0x411 }
/-- [I -/
def k26 : Class := { plain "[I" (some 0) with kind := .array 25 .int, interfaces := #[20, 2], accessFlags := 1041 }

def heap : Heap := #[{ cls := 7, slots := #[.long 0, .int 1, .null, .int 0, .null, .int 0, .int 0], vm := .statics 7 },
  { cls := 18, slots := #[.null, .null, .null], vm := .statics 18 }]
def classes : Array Class := #[k0, k1, k2, k3, k4, k5, k6, k7, k8, k9, k10, k11, k12, k13, k14, k15, k16, k17, k18, k19, k20, k21, k22, k23, k24, k25, k26]
def interned : List (Array UInt16 × Addr) := []
def slotsUsed : Nat := 10
def theMethod : MethodId := ⟨1, 1⟩
def args0 : Array Value := #[.int 5, .int 5, .int 5, .int 5]
def aboutOver (below : List Frame) : State where
  vm := { classes := classes, interned := interned.toArray }
  heap := heap
  slotsUsed := slotsUsed
  threads := #[{ frames := .invoking theMethod args0 :: below }]
def below0 : List Frame := [.native { method := ⟨0, 0⟩, args := #[] }]
def about1 : State := aboutOver below0
def p0 : Program := .bare "" "" ""
def e0 : Env := launch0.env 0 0 0
theorem w_frames : about1.frames = Frame.invoking theMethod args0 :: below0 := rfl
set_option maxRecDepth 65536 in
theorem w_args : argsFit about1.vm theMethod args0 = true := by decide +kernel
set_option maxRecDepth 65536 in
theorem w_heap : heapFits about1 = true := by decide +kernel
set_option maxRecDepth 65536 in
theorem w_runnable : about1.curStatus? = some .runnable := by decide +kernel
set_option maxRecDepth 65536 in
theorem w_alone : about1.alone = true := by decide +kernel
set_option maxRecDepth 65536 in
theorem w_named : about1.methodNamed? x = some theMethod := by decide +kernel
set_option maxRecDepth 65536 in
theorem w_hears : about1.hears theMethod below0 = true := by decide +kernel
set_option maxRecDepth 65536 in
theorem w_ripe : about1.ripe theMethod args0 below0 = true := by decide +kernel
theorem w_running : about1.status = .running := rfl
set_option maxRecDepth 65536 in
theorem w_room : about1.hasRoom e0.platform room_1 = true :=
  launch0.hasRoom_least _ room_1 (by decide +kernel) (by decide +kernel) (by decide +kernel) (by decide +kernel) (by decide +kernel) (by decide +kernel)
theorem allAtoms_all (ts : List Jvm.Cond) (a : Array Jvm.Value) (st : Jvm.State) : (allAtoms ts).before a st = ts.all (fun c => c.before a st) := by
  induction ts with
  | nil => rfl
  | cons c t ih =>
    show (Jvm.Cond.and c (allAtoms t)).before a st = _
    rw [Jvm.Cond.before_and, ih, List.all_cons]
def words1 : List Jvm.Cond := Jvm.Cond.code x code maxLocals ret :: tables_1
/-- a 'code' word, met by the world's own term for the bytes: nothing is compared byte by byte -/
theorem code_word {y : MethodName} {bytes : ByteArray} {mx : Nat} {rt : Option FieldType} {a : Array Value} {s : State} {m : MethodId} {meth : Method} {c : Code} (h1 : s.methodNamed? y = some m) (h2 : s.vm.method? m = some meth) (h3 : meth.code = some c) (h4 : c.code = bytes)
    (h5 : (c.maxLocals == mx && c.exceptionTable.isEmpty && decide (c.maxStack ≤ mostOperands) && decide (meth.sig.returnType = rt) && !meth.locks && decide (parseMethodDescriptor y.desc = some meth.sig)) = true) : (Jvm.Cond.code y bytes mx rt).before a s = true := by
  simp only [Bool.and_eq_true, beq_iff_eq, Bool.not_eq_true', decide_eq_true_eq] at h5
  obtain ⟨⟨⟨⟨⟨g1, g2⟩, g3⟩, g4⟩, g5⟩, g6⟩ := h5
  simp [Cond.before, Cond.holds, Cond.value, h1, h2, h3, h4, g1, g2, g3, g4, g5, g6]
def isCode : Jvm.Cond → Bool
  | .code _ _ _ _ => true
  | _ => false
theorem all_split {L : List Jvm.Cond} {P : Jvm.Cond → Bool} (h1 : L.all (fun c => isCode c || P c) = true) (h2 : ∀ c ∈ L.filter isCode, P c = true) : L.all P = true := by
  refine List.all_eq_true.mpr fun c hc => ?_
  have h := List.all_eq_true.mp h1 c hc
  rcases Bool.eq_false_or_eq_true (isCode c) with hi | hi
  · exact h2 c (List.mem_filter.mpr ⟨hc, hi⟩)
  · simpa [hi] using h
set_option maxRecDepth 65536 in
theorem w_c0 : (Jvm.Cond.code x code maxLocals ret).before args0 about1 = true := code_word (m := ⟨1, 1⟩) (meth := k1m1) (c := k1c1) (by decide +kernel) rfl rfl rfl (by decide +kernel)
set_option maxRecDepth 65536 in
theorem w_c1 : (Jvm.Cond.code ({ cls := "com/example/kindling/kindling/config/SettingKeyAndOriginPinLaw", name := "mk", desc := "(ICC)Ljava/lang/String;" } : Jvm.MethodName) method_3_code (3 : Nat) (Option.some (Jvm.ClassFile.FieldType.object "java/lang/String"))).before args0 about1 = true := code_word (m := ⟨1, 2⟩) (meth := k1m2) (c := k1c2) (by decide +kernel) rfl rfl rfl (by decide +kernel)
set_option maxRecDepth 65536 in
theorem w_c2 : (Jvm.Cond.code ({ cls := "java/lang/String", name := "<init>", desc := "([C)V" } : Jvm.MethodName) jdk_42_method_3_code (2 : Nat) (Option.none : Option Jvm.ClassFile.FieldType)).before args0 about1 = true := code_word (m := ⟨7, 1⟩) (meth := k7m1) (c := k7c1) (by decide +kernel) rfl rfl rfl (by decide +kernel)
set_option maxRecDepth 65536 in
theorem w_c3 : (Jvm.Cond.code ({ cls := "java/lang/String", name := "<init>", desc := "([CIILjava/lang/Void;)V" } : Jvm.MethodName) jdk_42_method_149_code (6 : Nat) (Option.none : Option Jvm.ClassFile.FieldType)).before args0 about1 = true := code_word (m := ⟨7, 7⟩) (meth := k7m7) (c := k7c7) (by decide +kernel) rfl rfl rfl (by decide +kernel)
set_option maxRecDepth 65536 in
theorem w_c4 : (Jvm.Cond.code ({ cls := "java/lang/Object", name := "<init>", desc := "()V" } : Jvm.MethodName) object_method_1_code (1 : Nat) (Option.none : Option Jvm.ClassFile.FieldType)).before args0 about1 = true := code_word (m := ⟨0, 0⟩) (meth := k0m0) (c := k0c0) (by decide +kernel) rfl rfl rfl (by decide +kernel)
set_option maxRecDepth 65536 in
theorem w_c5 : (Jvm.Cond.code ({ cls := "java/lang/StringUTF16", name := "compress", desc := "([CII)[B" } : Jvm.MethodName) jdk_52_method_16_code (6 : Nat) (Option.some (Jvm.ClassFile.FieldType.array Jvm.ClassFile.FieldType.byte))).before args0 about1 = true := code_word (m := ⟨8, 2⟩) (meth := k8m2) (c := k8c2) (by decide +kernel) rfl rfl rfl (by decide +kernel)
set_option maxRecDepth 65536 in
theorem w_c6 : (Jvm.Cond.code ({ cls := "java/lang/StringUTF16", name := "compress", desc := "([CI[BII)I" } : Jvm.MethodName) jdk_52_method_21_code (7 : Nat) (Option.some Jvm.ClassFile.FieldType.int)).before args0 about1 = true := code_word (m := ⟨8, 3⟩) (meth := k8m3) (c := k8c3) (by decide +kernel) rfl rfl rfl (by decide +kernel)
set_option maxRecDepth 65536 in
theorem w_c7 : (Jvm.Cond.code ({ cls := "java/lang/StringUTF16", name := "coderFromArrayLen", desc := "([BI)B" } : Jvm.MethodName) jdk_52_method_15_code (2 : Nat) (Option.some Jvm.ClassFile.FieldType.byte)).before args0 about1 = true := code_word (m := ⟨8, 1⟩) (meth := k8m1) (c := k8c1) (by decide +kernel) rfl rfl rfl (by decide +kernel)
set_option maxRecDepth 65536 in
theorem w_c8 : (Jvm.Cond.code ({ cls := "java/lang/String", name := "valueOf", desc := "(C)Ljava/lang/String;" } : Jvm.MethodName) jdk_42_method_139_code (1 : Nat) (Option.some (Jvm.ClassFile.FieldType.object "java/lang/String"))).before args0 about1 = true := code_word (m := ⟨7, 5⟩) (meth := k7m5) (c := k7c5) (by decide +kernel) rfl rfl rfl (by decide +kernel)
set_option maxRecDepth 65536 in
theorem w_c9 : (Jvm.Cond.code ({ cls := "java/lang/StringLatin1", name := "canEncode", desc := "(C)Z" } : Jvm.MethodName) jdk_43_method_3_code (1 : Nat) (Option.some Jvm.ClassFile.FieldType.boolean)).before args0 about1 = true := code_word (m := ⟨9, 2⟩) (meth := k9m2) (c := k9c2) (by decide +kernel) rfl rfl rfl (by decide +kernel)
set_option maxRecDepth 65536 in
theorem w_c10 : (Jvm.Cond.code ({ cls := "java/lang/StringLatin1", name := "toBytes", desc := "(C)[B" } : Jvm.MethodName) jdk_43_method_46_code (1 : Nat) (Option.some (Jvm.ClassFile.FieldType.array Jvm.ClassFile.FieldType.byte))).before args0 about1 = true := code_word (m := ⟨9, 3⟩) (meth := k9m3) (c := k9c3) (by decide +kernel) rfl rfl rfl (by decide +kernel)
set_option maxRecDepth 65536 in
theorem w_c11 : (Jvm.Cond.code ({ cls := "java/lang/String", name := "<init>", desc := "([BB)V" } : Jvm.MethodName) jdk_42_method_151_code (3 : Nat) (Option.none : Option Jvm.ClassFile.FieldType)).before args0 about1 = true := code_word (m := ⟨7, 9⟩) (meth := k7m9) (c := k7c9) (by decide +kernel) rfl rfl rfl (by decide +kernel)
set_option maxRecDepth 65536 in
theorem w_c12 : (Jvm.Cond.code ({ cls := "com/example/kindling/kindling/config/Setting", name := "<init>", desc := "(Ljava/lang/String;Ljava/lang/String;Ljava/lang/String;)V" } : Jvm.MethodName) prog_28_method_1_code (4 : Nat) (Option.none : Option Jvm.ClassFile.FieldType)).before args0 about1 = true := code_word (m := ⟨11, 0⟩) (meth := k11m0) (c := k11c0) (by decide +kernel) rfl rfl rfl (by decide +kernel)
set_option maxRecDepth 65536 in
theorem w_c13 : (Jvm.Cond.code ({ cls := "java/lang/Record", name := "<init>", desc := "()V" } : Jvm.MethodName) jdk_30_method_1_code (1 : Nat) (Option.none : Option Jvm.ClassFile.FieldType)).before args0 about1 = true := code_word (m := ⟨10, 0⟩) (meth := k10m0) (c := k10c0) (by decide +kernel) rfl rfl rfl (by decide +kernel)
set_option maxRecDepth 65536 in
theorem w_c14 : (Jvm.Cond.code ({ cls := "com/example/kindling/kindling/config/Setting", name := "keyAndOrigin", desc := "()Ljava/lang/String;" } : Jvm.MethodName) prog_28_method_3_code (1 : Nat) (Option.some (Jvm.ClassFile.FieldType.object "java/lang/String"))).before args0 about1 = true := code_word (m := ⟨11, 1⟩) (meth := k11m1) (c := k11c1) (by decide +kernel) rfl rfl rfl (by decide +kernel)
set_option maxRecDepth 65536 in
theorem w_c15 : (Jvm.Cond.code ({ cls := "java/lang/StringBuilder", name := "<init>", desc := "()V" } : Jvm.MethodName) jdk_67_method_1_code (1 : Nat) (Option.none : Option Jvm.ClassFile.FieldType)).before args0 about1 = true := code_word (m := ⟨14, 0⟩) (meth := k14m0) (c := k14c0) (by decide +kernel) rfl rfl rfl (by decide +kernel)
set_option maxRecDepth 65536 in
theorem w_c16 : (Jvm.Cond.code ({ cls := "java/lang/AbstractStringBuilder", name := "<init>", desc := "(I)V" } : Jvm.MethodName) jdk_68_method_2_code (2 : Nat) (Option.none : Option Jvm.ClassFile.FieldType)).before args0 about1 = true := code_word (m := ⟨13, 1⟩) (meth := k13m1) (c := k13c1) (by decide +kernel) rfl rfl rfl (by decide +kernel)
set_option maxRecDepth 65536 in
theorem w_c17 : (Jvm.Cond.code ({ cls := "java/lang/StringBuilder", name := "append", desc := "(Ljava/lang/String;)Ljava/lang/StringBuilder;" } : Jvm.MethodName) jdk_67_method_7_code (2 : Nat) (Option.some (Jvm.ClassFile.FieldType.object "java/lang/StringBuilder"))).before args0 about1 = true := code_word (m := ⟨14, 1⟩) (meth := k14m1) (c := k14c1) (by decide +kernel) rfl rfl rfl (by decide +kernel)
set_option maxRecDepth 65536 in
theorem w_c18 : (Jvm.Cond.code ({ cls := "java/lang/AbstractStringBuilder", name := "append", desc := "(Ljava/lang/String;)Ljava/lang/AbstractStringBuilder;" } : Jvm.MethodName) jdk_68_method_22_code (3 : Nat) (Option.some (Jvm.ClassFile.FieldType.object "java/lang/AbstractStringBuilder"))).before args0 about1 = true := code_word (m := ⟨13, 4⟩) (meth := k13m4) (c := k13c4) (by decide +kernel) rfl rfl rfl (by decide +kernel)
set_option maxRecDepth 65536 in
theorem w_c19 : (Jvm.Cond.code ({ cls := "java/lang/String", name := "length", desc := "()I" } : Jvm.MethodName) jdk_42_method_54_code (1 : Nat) (Option.some Jvm.ClassFile.FieldType.int)).before args0 about1 = true := code_word (m := ⟨7, 3⟩) (meth := k7m3) (c := k7c3) (by decide +kernel) rfl rfl rfl (by decide +kernel)
set_option maxRecDepth 65536 in
theorem w_c20 : (Jvm.Cond.code ({ cls := "java/lang/String", name := "coder", desc := "()B" } : Jvm.MethodName) jdk_42_method_152_code (1 : Nat) (Option.some Jvm.ClassFile.FieldType.byte)).before args0 about1 = true := code_word (m := ⟨7, 10⟩) (meth := k7m10) (c := k7c10) (by decide +kernel) rfl rfl rfl (by decide +kernel)
set_option maxRecDepth 65536 in
theorem w_c21 : (Jvm.Cond.code ({ cls := "java/lang/AbstractStringBuilder", name := "ensureCapacityInternal", desc := "(I)V" } : Jvm.MethodName) jdk_68_method_9_code (3 : Nat) (Option.none : Option Jvm.ClassFile.FieldType)).before args0 about1 = true := code_word (m := ⟨13, 3⟩) (meth := k13m3) (c := k13c3) (by decide +kernel) rfl rfl rfl (by decide +kernel)
set_option maxRecDepth 65536 in
theorem w_c22 : (Jvm.Cond.code ({ cls := "java/lang/AbstractStringBuilder", name := "putStringAt", desc := "(ILjava/lang/String;)V" } : Jvm.MethodName) jdk_68_method_73_code (3 : Nat) (Option.none : Option Jvm.ClassFile.FieldType)).before args0 about1 = true := code_word (m := ⟨13, 8⟩) (meth := k13m8) (c := k13c8) (by decide +kernel) rfl rfl rfl (by decide +kernel)
set_option maxRecDepth 65536 in
theorem w_c23 : (Jvm.Cond.code ({ cls := "java/lang/AbstractStringBuilder", name := "inflateIfNeededFor", desc := "(Ljava/lang/String;)V" } : Jvm.MethodName) jdk_68_method_71_code (2 : Nat) (Option.none : Option Jvm.ClassFile.FieldType)).before args0 about1 = true := code_word (m := ⟨13, 7⟩) (meth := k13m7) (c := k13c7) (by decide +kernel) rfl rfl rfl (by decide +kernel)
set_option maxRecDepth 65536 in
theorem w_c24 : (Jvm.Cond.code ({ cls := "java/lang/String", name := "getBytes", desc := "([BIB)V" } : Jvm.MethodName) jdk_42_method_147_code (4 : Nat) (Option.none : Option Jvm.ClassFile.FieldType)).before args0 about1 = true := code_word (m := ⟨7, 6⟩) (meth := k7m6) (c := k7c6) (by decide +kernel) rfl rfl rfl (by decide +kernel)
set_option maxRecDepth 65536 in
theorem w_c25 : (Jvm.Cond.code ({ cls := "java/lang/StringBuilder", name := "toString", desc := "()Ljava/lang/String;" } : Jvm.MethodName) jdk_67_method_42_code (1 : Nat) (Option.some (Jvm.ClassFile.FieldType.object "java/lang/String"))).before args0 about1 = true := code_word (m := ⟨14, 2⟩) (meth := k14m2) (c := k14c2) (by decide +kernel) rfl rfl rfl (by decide +kernel)
set_option maxRecDepth 65536 in
theorem w_c26 : (Jvm.Cond.code ({ cls := "java/lang/String", name := "<init>", desc := "(Ljava/lang/StringBuilder;)V" } : Jvm.MethodName) jdk_42_method_53_code (2 : Nat) (Option.none : Option Jvm.ClassFile.FieldType)).before args0 about1 = true := code_word (m := ⟨7, 2⟩) (meth := k7m2) (c := k7c2) (by decide +kernel) rfl rfl rfl (by decide +kernel)
set_option maxRecDepth 65536 in
theorem w_c27 : (Jvm.Cond.code ({ cls := "java/lang/String", name := "<init>", desc := "(Ljava/lang/AbstractStringBuilder;Ljava/lang/Void;)V" } : Jvm.MethodName) jdk_42_method_150_code (5 : Nat) (Option.none : Option Jvm.ClassFile.FieldType)).before args0 about1 = true := code_word (m := ⟨7, 8⟩) (meth := k7m8) (c := k7c8) (by decide +kernel) rfl rfl rfl (by decide +kernel)
set_option maxRecDepth 65536 in
theorem w_c28 : (Jvm.Cond.code ({ cls := "java/lang/AbstractStringBuilder", name := "getValue", desc := "()[B" } : Jvm.MethodName) jdk_68_method_64_code (1 : Nat) (Option.some (Jvm.ClassFile.FieldType.array Jvm.ClassFile.FieldType.byte))).before args0 about1 = true := code_word (m := ⟨13, 5⟩) (meth := k13m5) (c := k13c5) (by decide +kernel) rfl rfl rfl (by decide +kernel)
set_option maxRecDepth 65536 in
theorem w_c29 : (Jvm.Cond.code ({ cls := "java/lang/StringBuilder", name := "length", desc := "()I" } : Jvm.MethodName) jdk_67_method_93_code (1 : Nat) (Option.some Jvm.ClassFile.FieldType.int)).before args0 about1 = true := code_word (m := ⟨14, 3⟩) (meth := k14m3) (c := k14c3) (by decide +kernel) rfl rfl rfl (by decide +kernel)
set_option maxRecDepth 65536 in
theorem w_c30 : (Jvm.Cond.code ({ cls := "java/lang/AbstractStringBuilder", name := "length", desc := "()I" } : Jvm.MethodName) jdk_68_method_6_code (1 : Nat) (Option.some Jvm.ClassFile.FieldType.int)).before args0 about1 = true := code_word (m := ⟨13, 2⟩) (meth := k13m2) (c := k13c2) (by decide +kernel) rfl rfl rfl (by decide +kernel)
set_option maxRecDepth 65536 in
theorem w_c31 : (Jvm.Cond.code ({ cls := "java/lang/AbstractStringBuilder", name := "isLatin1", desc := "()Z" } : Jvm.MethodName) jdk_68_method_68_code (1 : Nat) (Option.some Jvm.ClassFile.FieldType.boolean)).before args0 about1 = true := code_word (m := ⟨13, 6⟩) (meth := k13m6) (c := k13c6) (by decide +kernel) rfl rfl rfl (by decide +kernel)
set_option maxRecDepth 65536 in
theorem w_c32 : (Jvm.Cond.code ({ cls := "java/util/Arrays", name := "copyOfRange", desc := "([BII)[B" } : Jvm.MethodName) jdk_65_method_132_code (3 : Nat) (Option.some (Jvm.ClassFile.FieldType.array Jvm.ClassFile.FieldType.byte))).before args0 about1 = true := code_word (m := ⟨16, 2⟩) (meth := k16m2) (c := k16c2) (by decide +kernel) rfl rfl rfl (by decide +kernel)
set_option maxRecDepth 65536 in
theorem w_c33 : (Jvm.Cond.code ({ cls := "java/util/Arrays", name := "copyOfRangeByte", desc := "([BII)[B" } : Jvm.MethodName) jdk_65_method_133_code (5 : Nat) (Option.some (Jvm.ClassFile.FieldType.array Jvm.ClassFile.FieldType.byte))).before args0 about1 = true := code_word (m := ⟨16, 3⟩) (meth := k16m3) (c := k16c3) (by decide +kernel) rfl rfl rfl (by decide +kernel)
set_option maxRecDepth 65536 in
theorem w_c34 : (Jvm.Cond.code ({ cls := "java/util/Arrays", name := "checkLength", desc := "(II)V" } : Jvm.MethodName) jdk_65_method_131_code (2 : Nat) (Option.none : Option Jvm.ClassFile.FieldType)).before args0 about1 = true := code_word (m := ⟨16, 1⟩) (meth := k16m1) (c := k16c1) (by decide +kernel) rfl rfl rfl (by decide +kernel)
set_option maxRecDepth 65536 in
theorem w_c35 : (Jvm.Cond.code ({ cls := "java/lang/Math", name := "min", desc := "(II)I" } : Jvm.MethodName) jdk_29_method_69_code (2 : Nat) (Option.some Jvm.ClassFile.FieldType.int)).before args0 about1 = true := code_word (m := ⟨17, 1⟩) (meth := k17m1) (c := k17c1) (by decide +kernel) rfl rfl rfl (by decide +kernel)
set_option maxRecDepth 65536 in
theorem w_c36 : (Jvm.Cond.code ({ cls := "com/example/kindling/kindling/config/SettingKeyAndOriginPinLaw", name := "at", desc := "(Ljava/lang/String;ILjava/lang/String;Ljava/lang/String;I)Z" } : Jvm.MethodName) method_4_code (5 : Nat) (Option.some Jvm.ClassFile.FieldType.boolean)).before args0 about1 = true := code_word (m := ⟨1, 3⟩) (meth := k1m3) (c := k1c3) (by decide +kernel) rfl rfl rfl (by decide +kernel)
set_option maxRecDepth 65536 in
theorem w_c37 : (Jvm.Cond.code ({ cls := "java/lang/String", name := "charAt", desc := "(I)C" } : Jvm.MethodName) jdk_42_method_56_code (2 : Nat) (Option.some Jvm.ClassFile.FieldType.char)).before args0 about1 = true := code_word (m := ⟨7, 4⟩) (meth := k7m4) (c := k7c4) (by decide +kernel) rfl rfl rfl (by decide +kernel)
set_option maxRecDepth 65536 in
theorem w_c38 : (Jvm.Cond.code ({ cls := "java/lang/String", name := "isLatin1", desc := "()Z" } : Jvm.MethodName) jdk_42_method_154_code (1 : Nat) (Option.some Jvm.ClassFile.FieldType.boolean)).before args0 about1 = true := code_word (m := ⟨7, 11⟩) (meth := k7m11) (c := k7c11) (by decide +kernel) rfl rfl rfl (by decide +kernel)
set_option maxRecDepth 65536 in
theorem w_c39 : (Jvm.Cond.code ({ cls := "java/lang/StringLatin1", name := "charAt", desc := "([BI)C" } : Jvm.MethodName) jdk_43_method_2_code (2 : Nat) (Option.some Jvm.ClassFile.FieldType.char)).before args0 about1 = true := code_word (m := ⟨9, 1⟩) (meth := k9m1) (c := k9c1) (by decide +kernel) rfl rfl rfl (by decide +kernel)
set_option maxRecDepth 65536 in
theorem w_c40 : (Jvm.Cond.code ({ cls := "java/lang/String", name := "checkIndex", desc := "(II)V" } : Jvm.MethodName) jdk_42_method_155_code (2 : Nat) (Option.none : Option Jvm.ClassFile.FieldType)).before args0 about1 = true := code_word (m := ⟨7, 12⟩) (meth := k7m12) (c := k7c12) (by decide +kernel) rfl rfl rfl (by decide +kernel)
set_option maxRecDepth 65536 in
theorem w_c41 : (Jvm.Cond.code ({ cls := "jdk/internal/util/Preconditions", name := "checkIndex", desc := "(IILjava/util/function/BiFunction;)I" } : Jvm.MethodName) jdk_41_method_11_code (3 : Nat) (Option.some Jvm.ClassFile.FieldType.int)).before args0 about1 = true := code_word (m := ⟨18, 1⟩) (meth := k18m1) (c := k18c1) (by decide +kernel) rfl rfl rfl (by decide +kernel)
set_option maxRecDepth 65536 in
theorem w_c42 : (Jvm.Cond.code ({ cls := "com/example/kindling/kindling/config/SettingKeyAndOriginPinLaw", name := "expected", desc := "(ILjava/lang/String;Ljava/lang/String;)C" } : Jvm.MethodName) method_5_code (5 : Nat) (Option.some Jvm.ClassFile.FieldType.char)).before args0 about1 = true := code_word (m := ⟨1, 4⟩) (meth := k1m4) (c := k1c4) (by decide +kernel) rfl rfl rfl (by decide +kernel)
def codes1 : List Jvm.Cond := [Jvm.Cond.code x code maxLocals ret, Jvm.Cond.code ({ cls := "com/example/kindling/kindling/config/SettingKeyAndOriginPinLaw", name := "mk", desc := "(ICC)Ljava/lang/String;" } : Jvm.MethodName) method_3_code (3 : Nat) (Option.some (Jvm.ClassFile.FieldType.object "java/lang/String")), Jvm.Cond.code ({ cls := "java/lang/String", name := "<init>", desc := "([C)V" } : Jvm.MethodName) jdk_42_method_3_code (2 : Nat) (Option.none : Option Jvm.ClassFile.FieldType), Jvm.Cond.code ({ cls := "java/lang/String", name := "<init>", desc := "([CIILjava/lang/Void;)V" } : Jvm.MethodName) jdk_42_method_149_code (6 : Nat) (Option.none : Option Jvm.ClassFile.FieldType), Jvm.Cond.code ({ cls := "java/lang/Object", name := "<init>", desc := "()V" } : Jvm.MethodName) object_method_1_code (1 : Nat) (Option.none : Option Jvm.ClassFile.FieldType), Jvm.Cond.code ({ cls := "java/lang/StringUTF16", name := "compress", desc := "([CII)[B" } : Jvm.MethodName) jdk_52_method_16_code (6 : Nat) (Option.some (Jvm.ClassFile.FieldType.array Jvm.ClassFile.FieldType.byte)), Jvm.Cond.code ({ cls := "java/lang/StringUTF16", name := "compress", desc := "([CI[BII)I" } : Jvm.MethodName) jdk_52_method_21_code (7 : Nat) (Option.some Jvm.ClassFile.FieldType.int), Jvm.Cond.code ({ cls := "java/lang/StringUTF16", name := "coderFromArrayLen", desc := "([BI)B" } : Jvm.MethodName) jdk_52_method_15_code (2 : Nat) (Option.some Jvm.ClassFile.FieldType.byte), Jvm.Cond.code ({ cls := "java/lang/String", name := "valueOf", desc := "(C)Ljava/lang/String;" } : Jvm.MethodName) jdk_42_method_139_code (1 : Nat) (Option.some (Jvm.ClassFile.FieldType.object "java/lang/String")), Jvm.Cond.code ({ cls := "java/lang/StringLatin1", name := "canEncode", desc := "(C)Z" } : Jvm.MethodName) jdk_43_method_3_code (1 : Nat) (Option.some Jvm.ClassFile.FieldType.boolean), Jvm.Cond.code ({ cls := "java/lang/StringLatin1", name := "toBytes", desc := "(C)[B" } : Jvm.MethodName) jdk_43_method_46_code (1 : Nat) (Option.some (Jvm.ClassFile.FieldType.array Jvm.ClassFile.FieldType.byte)), Jvm.Cond.code ({ cls := "java/lang/String", name := "<init>", desc := "([BB)V" } : Jvm.MethodName) jdk_42_method_151_code (3 : Nat) (Option.none : Option Jvm.ClassFile.FieldType), Jvm.Cond.code ({ cls := "com/example/kindling/kindling/config/Setting", name := "<init>", desc := "(Ljava/lang/String;Ljava/lang/String;Ljava/lang/String;)V" } : Jvm.MethodName) prog_28_method_1_code (4 : Nat) (Option.none : Option Jvm.ClassFile.FieldType), Jvm.Cond.code ({ cls := "java/lang/Record", name := "<init>", desc := "()V" } : Jvm.MethodName) jdk_30_method_1_code (1 : Nat) (Option.none : Option Jvm.ClassFile.FieldType), Jvm.Cond.code ({ cls := "com/example/kindling/kindling/config/Setting", name := "keyAndOrigin", desc := "()Ljava/lang/String;" } : Jvm.MethodName) prog_28_method_3_code (1 : Nat) (Option.some (Jvm.ClassFile.FieldType.object "java/lang/String")), Jvm.Cond.code ({ cls := "java/lang/StringBuilder", name := "<init>", desc := "()V" } : Jvm.MethodName) jdk_67_method_1_code (1 : Nat) (Option.none : Option Jvm.ClassFile.FieldType), Jvm.Cond.code ({ cls := "java/lang/AbstractStringBuilder", name := "<init>", desc := "(I)V" } : Jvm.MethodName) jdk_68_method_2_code (2 : Nat) (Option.none : Option Jvm.ClassFile.FieldType), Jvm.Cond.code ({ cls := "java/lang/StringBuilder", name := "append", desc := "(Ljava/lang/String;)Ljava/lang/StringBuilder;" } : Jvm.MethodName) jdk_67_method_7_code (2 : Nat) (Option.some (Jvm.ClassFile.FieldType.object "java/lang/StringBuilder")), Jvm.Cond.code ({ cls := "java/lang/AbstractStringBuilder", name := "append", desc := "(Ljava/lang/String;)Ljava/lang/AbstractStringBuilder;" } : Jvm.MethodName) jdk_68_method_22_code (3 : Nat) (Option.some (Jvm.ClassFile.FieldType.object "java/lang/AbstractStringBuilder")), Jvm.Cond.code ({ cls := "java/lang/String", name := "length", desc := "()I" } : Jvm.MethodName) jdk_42_method_54_code (1 : Nat) (Option.some Jvm.ClassFile.FieldType.int), Jvm.Cond.code ({ cls := "java/lang/String", name := "coder", desc := "()B" } : Jvm.MethodName) jdk_42_method_152_code (1 : Nat) (Option.some Jvm.ClassFile.FieldType.byte), Jvm.Cond.code ({ cls := "java/lang/AbstractStringBuilder", name := "ensureCapacityInternal", desc := "(I)V" } : Jvm.MethodName) jdk_68_method_9_code (3 : Nat) (Option.none : Option Jvm.ClassFile.FieldType), Jvm.Cond.code ({ cls := "java/lang/AbstractStringBuilder", name := "putStringAt", desc := "(ILjava/lang/String;)V" } : Jvm.MethodName) jdk_68_method_73_code (3 : Nat) (Option.none : Option Jvm.ClassFile.FieldType), Jvm.Cond.code ({ cls := "java/lang/AbstractStringBuilder", name := "inflateIfNeededFor", desc := "(Ljava/lang/String;)V" } : Jvm.MethodName) jdk_68_method_71_code (2 : Nat) (Option.none : Option Jvm.ClassFile.FieldType), Jvm.Cond.code ({ cls := "java/lang/String", name := "getBytes", desc := "([BIB)V" } : Jvm.MethodName) jdk_42_method_147_code (4 : Nat) (Option.none : Option Jvm.ClassFile.FieldType), Jvm.Cond.code ({ cls := "java/lang/StringBuilder", name := "toString", desc := "()Ljava/lang/String;" } : Jvm.MethodName) jdk_67_method_42_code (1 : Nat) (Option.some (Jvm.ClassFile.FieldType.object "java/lang/String")), Jvm.Cond.code ({ cls := "java/lang/String", name := "<init>", desc := "(Ljava/lang/StringBuilder;)V" } : Jvm.MethodName) jdk_42_method_53_code (2 : Nat) (Option.none : Option Jvm.ClassFile.FieldType), Jvm.Cond.code ({ cls := "java/lang/String", name := "<init>", desc := "(Ljava/lang/AbstractStringBuilder;Ljava/lang/Void;)V" } : Jvm.MethodName) jdk_42_method_150_code (5 : Nat) (Option.none : Option Jvm.ClassFile.FieldType), Jvm.Cond.code ({ cls := "java/lang/AbstractStringBuilder", name := "getValue", desc := "()[B" } : Jvm.MethodName) jdk_68_method_64_code (1 : Nat) (Option.some (Jvm.ClassFile.FieldType.array Jvm.ClassFile.FieldType.byte)), Jvm.Cond.code ({ cls := "java/lang/StringBuilder", name := "length", desc := "()I" } : Jvm.MethodName) jdk_67_method_93_code (1 : Nat) (Option.some Jvm.ClassFile.FieldType.int), Jvm.Cond.code ({ cls := "java/lang/AbstractStringBuilder", name := "length", desc := "()I" } : Jvm.MethodName) jdk_68_method_6_code (1 : Nat) (Option.some Jvm.ClassFile.FieldType.int), Jvm.Cond.code ({ cls := "java/lang/AbstractStringBuilder", name := "isLatin1", desc := "()Z" } : Jvm.MethodName) jdk_68_method_68_code (1 : Nat) (Option.some Jvm.ClassFile.FieldType.boolean), Jvm.Cond.code ({ cls := "java/util/Arrays", name := "copyOfRange", desc := "([BII)[B" } : Jvm.MethodName) jdk_65_method_132_code (3 : Nat) (Option.some (Jvm.ClassFile.FieldType.array Jvm.ClassFile.FieldType.byte)), Jvm.Cond.code ({ cls := "java/util/Arrays", name := "copyOfRangeByte", desc := "([BII)[B" } : Jvm.MethodName) jdk_65_method_133_code (5 : Nat) (Option.some (Jvm.ClassFile.FieldType.array Jvm.ClassFile.FieldType.byte)), Jvm.Cond.code ({ cls := "java/util/Arrays", name := "checkLength", desc := "(II)V" } : Jvm.MethodName) jdk_65_method_131_code (2 : Nat) (Option.none : Option Jvm.ClassFile.FieldType), Jvm.Cond.code ({ cls := "java/lang/Math", name := "min", desc := "(II)I" } : Jvm.MethodName) jdk_29_method_69_code (2 : Nat) (Option.some Jvm.ClassFile.FieldType.int), Jvm.Cond.code ({ cls := "com/example/kindling/kindling/config/SettingKeyAndOriginPinLaw", name := "at", desc := "(Ljava/lang/String;ILjava/lang/String;Ljava/lang/String;I)Z" } : Jvm.MethodName) method_4_code (5 : Nat) (Option.some Jvm.ClassFile.FieldType.boolean), Jvm.Cond.code ({ cls := "java/lang/String", name := "charAt", desc := "(I)C" } : Jvm.MethodName) jdk_42_method_56_code (2 : Nat) (Option.some Jvm.ClassFile.FieldType.char), Jvm.Cond.code ({ cls := "java/lang/String", name := "isLatin1", desc := "()Z" } : Jvm.MethodName) jdk_42_method_154_code (1 : Nat) (Option.some Jvm.ClassFile.FieldType.boolean), Jvm.Cond.code ({ cls := "java/lang/StringLatin1", name := "charAt", desc := "([BI)C" } : Jvm.MethodName) jdk_43_method_2_code (2 : Nat) (Option.some Jvm.ClassFile.FieldType.char), Jvm.Cond.code ({ cls := "java/lang/String", name := "checkIndex", desc := "(II)V" } : Jvm.MethodName) jdk_42_method_155_code (2 : Nat) (Option.none : Option Jvm.ClassFile.FieldType), Jvm.Cond.code ({ cls := "jdk/internal/util/Preconditions", name := "checkIndex", desc := "(IILjava/util/function/BiFunction;)I" } : Jvm.MethodName) jdk_41_method_11_code (3 : Nat) (Option.some Jvm.ClassFile.FieldType.int), Jvm.Cond.code ({ cls := "com/example/kindling/kindling/config/SettingKeyAndOriginPinLaw", name := "expected", desc := "(ILjava/lang/String;Ljava/lang/String;)C" } : Jvm.MethodName) method_5_code (5 : Nat) (Option.some Jvm.ClassFile.FieldType.char)]
set_option maxRecDepth 65536 in
theorem codes_eq : words1.filter isCode = codes1 := rfl
theorem w_codes : ∀ c ∈ words1.filter isCode, c.before args0 about1 = true := by
  rw [codes_eq]
  intro c hc
  simp only [codes1, List.mem_cons, List.not_mem_nil, or_false] at hc
  rcases hc with rfl | rfl | rfl | rfl | rfl | rfl | rfl | rfl | rfl | rfl | rfl | rfl | rfl | rfl | rfl | rfl | rfl | rfl | rfl | rfl | rfl | rfl | rfl | rfl | rfl | rfl | rfl | rfl | rfl | rfl | rfl | rfl | rfl | rfl | rfl | rfl | rfl | rfl | rfl | rfl | rfl | rfl | rfl
  · exact w_c0
  · exact w_c1
  · exact w_c2
  · exact w_c3
  · exact w_c4
  · exact w_c5
  · exact w_c6
  · exact w_c7
  · exact w_c8
  · exact w_c9
  · exact w_c10
  · exact w_c11
  · exact w_c12
  · exact w_c13
  · exact w_c14
  · exact w_c15
  · exact w_c16
  · exact w_c17
  · exact w_c18
  · exact w_c19
  · exact w_c20
  · exact w_c21
  · exact w_c22
  · exact w_c23
  · exact w_c24
  · exact w_c25
  · exact w_c26
  · exact w_c27
  · exact w_c28
  · exact w_c29
  · exact w_c30
  · exact w_c31
  · exact w_c32
  · exact w_c33
  · exact w_c34
  · exact w_c35
  · exact w_c36
  · exact w_c37
  · exact w_c38
  · exact w_c39
  · exact w_c40
  · exact w_c41
  · exact w_c42
set_option maxRecDepth 65536 in
theorem w_t1 : (words1.take 24).all (fun c => isCode c || c.before args0 about1) = true := by decide +kernel
set_option maxRecDepth 65536 in
theorem w_t2 : ((words1.drop 24).take 24).all (fun c => isCode c || c.before args0 about1) = true := by decide +kernel
set_option maxRecDepth 65536 in
theorem w_t3 : (((words1.drop 24).drop 24).take 24).all (fun c => isCode c || c.before args0 about1) = true := by decide +kernel
set_option maxRecDepth 65536 in
theorem w_t4 : ((((words1.drop 24).drop 24).drop 24).take 24).all (fun c => isCode c || c.before args0 about1) = true := by decide +kernel
set_option maxRecDepth 65536 in
theorem w_t5 : (((((words1.drop 24).drop 24).drop 24).drop 24).take 24).all (fun c => isCode c || c.before args0 about1) = true := by decide +kernel
set_option maxRecDepth 65536 in
theorem w_t6 : ((((((words1.drop 24).drop 24).drop 24).drop 24).drop 24).take 24).all (fun c => isCode c || c.before args0 about1) = true := by decide +kernel
set_option maxRecDepth 65536 in
theorem w_t7 : (((((((words1.drop 24).drop 24).drop 24).drop 24).drop 24).drop 24).take 24).all (fun c => isCode c || c.before args0 about1) = true := by decide +kernel
set_option maxRecDepth 65536 in
theorem w_t8 : ((((((((words1.drop 24).drop 24).drop 24).drop 24).drop 24).drop 24).drop 24).take 24).all (fun c => isCode c || c.before args0 about1) = true := by decide +kernel
set_option maxRecDepth 65536 in
theorem w_t9 : ((((((((words1.drop 24).drop 24).drop 24).drop 24).drop 24).drop 24).drop 24).drop 24).all (fun c => isCode c || c.before args0 about1) = true := by decide +kernel
theorem w_tables : (allAtoms (Jvm.Cond.code x code maxLocals ret :: tables_1)).before args0 about1 = true := by
  rw [allAtoms_all]
  show words1.all (fun c => c.before args0 about1) = true
  refine all_split ?_ w_codes
  rw [← List.take_append_drop 24 words1, List.all_append, w_t1, ← List.take_append_drop 24 (words1.drop 24), List.all_append, w_t2, ← List.take_append_drop 24 ((words1.drop 24).drop 24), List.all_append, w_t3, ← List.take_append_drop 24 (((words1.drop 24).drop 24).drop 24), List.all_append, w_t4, ← List.take_append_drop 24 ((((words1.drop 24).drop 24).drop 24).drop 24), List.all_append, w_t5, ← List.take_append_drop 24 (((((words1.drop 24).drop 24).drop 24).drop 24).drop 24), List.all_append, w_t6, ← List.take_append_drop 24 ((((((words1.drop 24).drop 24).drop 24).drop 24).drop 24).drop 24), List.all_append, w_t7, ← List.take_append_drop 24 (((((((words1.drop 24).drop 24).drop 24).drop 24).drop 24).drop 24).drop 24), List.all_append, w_t8, w_t9]
  rfl
set_option maxRecDepth 65536 in
theorem w_rest : rest_1_c.before args0 about1 = true := by decide +kernel
set_option maxRecDepth 65536 in
theorem w_case : (Jvm.Cond.and given_1 narrow_1).before args0 about1 = true := by decide +kernel
set_option maxRecDepth 65536 in
theorem w_consts : constsHeld consts_1 about1 := Jvm.Lit.constsHeldB_iff.mp (by decide +kernel)
theorem w_applies : (headSpec (Jvm.Cond.code x code maxLocals ret :: tables_1) room_1).applies x e0.platform about1 = true :=
  (Spec.applies_iff w_frames).mpr ⟨w_running, w_runnable, w_alone, w_named, w_hears, w_ripe, w_room, w_tables⟩
theorem atStart : AtStart classFile x code maxLocals ret World_1 tables_1 room_1 Calls_1 rest_1 Pre_1 launch0 p0 e0 about1 theMethod args0 below0 :=
  ⟨lists_1, trivial, launch0.admits_env _ _ _, launch0.least_env, fairChoices_fair.cas, fairChoices_fair.clock, w_frames, w_args, w_heap, w_applies, ⟨w_consts, trivial⟩, w_rest, w_case⟩
end start1
theorem witness_1 : WitnessClaimed_1 := ⟨start1.p0, start1.e0, start1.about1, start1.theMethod, start1.args0, start1.below0, start1.atStart⟩
end Jvm.Pilot.@@N@@
