import JvmDerived
import JvmDerived.Pilot.@@N@@Statement
import JvmDerived.Pilot.@@N@@Code
set_option linter.unusedVariables false
set_option linter.unusedSimpArgs false
namespace Jvm.RoadKit
open Sem ClassFile Op Lib Jvm.Stand Jvm.Free Jvm.LawKit
section New
variable {p : Program} {l : Launch} {e : Env} {R : Room} {s : State} {m : MethodId} {args : Array Value} {below : List Frame} {meth : Method} {c : Code} {T : State} {locs : List Loc} {cells slots : Nat}
theorem retI (X : Stand p l e R s m args below meth c T locs cells slots) (hx : p.tables.exec = Jvm.exec) {pc : Nat} {Ls : Array Slot} {z : Int32} {rest : List Value} (hret : meth.sig.returnType = some .int) (hd : decode c.code pc = .ok (.ireturn, 1)) {fs : List Frame}
    (hl : ∀ (f : JFrame) (acts : List Action), f.method = m → f.locked = none → f.entered = [] → (doReturn e (T.setTop f) acts (some (.int z))).1 = T.setFrames fs) : Steps p.tables e below (T.setTop (mkF m pc Ls (.int z :: rest))) (T.setFrames fs) := by
  have hm' : T.vm.method? m = some meth := X.method'
  have hn : narrow .int (.int z) = .int z := rfl
  show Steps p.tables e below (T.setTop { method := m, pc := pc, locals := Ls, stack := _ :: rest, locked := none }) _
  jvm_step X.here [X.here.top, hx, hd, hm', hret, hn]
  first | (intro acts; rw [hl _ acts rfl rfl rfl]) | rw [hl _ _ rfl rfl rfl]
  exact Steps.refl _
end New
end Jvm.RoadKit
/- laws to paste: Road.backV, narrow_ch, Road.low_at, lo8_mask, lo8_inj, Road.codOf (cut by pick.py; bodies as the Statement names them) -/
namespace Jvm.Pilot.@@N@@
namespace StrChars
open Jvm Sem ClassFile Op Lib Jvm.Stand Jvm.Free.XT Jvm.Free.ALB Jvm.Free.JM Jvm.Free
open Jvm.Lib.Cold (StaticIs)
/-- a char array whose places are chars -/
def Ch (a : Addr) (A : Cell) (U : State) : Prop := Arr .char a A U ∧ Typed .char A
theorem Ch.mv {a : Addr} {A : Cell} {U U' : State} (h : Ch a A U) (hal : U.vm.Alike U'.vm) (hh : U'.heap = U.heap) : Ch a A U' := ⟨h.1.mv hal hh, h.2⟩
theorem Ch.keep {a : Addr} {A : Cell} {U U' : State} (h : Ch a A U) (hal : U.vm.Alike U'.vm) (hk : U'.heap[a]? = some A) : Ch a A U' := ⟨h.1.keep hal hk, h.2⟩
/-- what place i of a char[]'s cell holds -/
def cv (A : Cell) (i : Nat) : Int32 := match A.slots[i]? with | some (.int x) => x | _ => 0
theorem Ch.get {a : Addr} {A : Cell} {U : State} (h : Ch a A U) {i : Nat} (hi : i < A.slots.size) : A.slots[i]? = some (.int (cv A i)) := by
  have e := Array.getElem?_eq_getElem hi
  have f := h.2 i _ e
  unfold cv; rw [e]
  generalize A.slots[i] = v at f
  cases v <;> simp [fits] at f ⊢
/-- the byte that i2b leaves of a char -/
def lo8 (x : Int32) : Int32 := x.toInt8.toInt32
theorem fits_lo8 (y : Int32) : fits .byte (.int (lo8 y)) = true := by
  have h1 := y.toInt8.le_toInt
  have h2 := y.toInt8.toInt_lt
  simp only [lo8, fits, Bool.and_eq_true, decide_eq_true_eq, Int32.le_iff_toInt_le, Int8.toInt_toInt32, show (-128 : Int32).toInt = -128 from by decide, show (127 : Int32).toInt = 127 from by decide]
  omega
/-- A' is A but that each place j of lo .. hi - 1 holds f j -/
def Laid (A A' : Cell) (lo hi : Nat) (f : Nat → Value) : Prop := A'.cls = A.cls ∧ A'.vm = A.vm ∧ A'.slots.size = A.slots.size ∧ ∀ i, A'.slots[i]? = if lo ≤ i ∧ i < hi then some (f i) else A.slots[i]?
theorem Laid.zero (A : Cell) (lo : Nat) (f : Nat → Value) : Laid A A lo (lo + 0) f := ⟨rfl, rfl, rfl, fun i => by rw [if_neg (by omega)]⟩
theorem Laid.step {A Ak : Cell} {lo k : Nat} {f : Nat → Value} {v : Value} (h : Laid A Ak lo k f) (hlo : lo ≤ k) (hk : k < Ak.slots.size) (hv : v = f k) : Laid A (Ak.setSlot k v) lo (k + 1) f := by
  refine ⟨h.1, h.2.1, by simpa [Cell.setSlot] using h.2.2.1, fun i => ?_⟩
  by_cases e : k = i
  · subst e; rw [Cell.slots_setSlot_self v hk, if_pos (by omega), hv]
  · rw [Cell.slots_setSlot_ne v e, h.2.2.2 i]
    by_cases q : lo ≤ i ∧ i < k
    · rw [if_pos q, if_pos (by omega)]
    · rw [if_neg q, if_neg (by omega)]
def U16 : String := "java/lang/StringUTF16"
namespace Cmp5
def yN : MethodName := ⟨"java/lang/StringUTF16", "compress", "([CI[BII)I"⟩
abbrev yB : ByteArray := jdk_52_method_21_code
theorem d0 : decode yB 0 = .ok (.iconst 0, 1) := by decide +kernel
theorem d1 : decode yB 1 = .ok (.istore 5, 2) := by decide +kernel
theorem d3 : decode yB 3 = .ok (.iload 5, 2) := by decide +kernel
theorem d5 : decode yB 5 = .ok (.iload 4, 2) := by decide +kernel
theorem d7 : decode yB 7 = .ok (.if_icmp (.ge) 37, 3) := by decide +kernel
theorem d10 : decode yB 10 = .ok (.aload_n 0, 1) := by decide +kernel
theorem d11 : decode yB 11 = .ok (.iload_n 1, 1) := by decide +kernel
theorem d12 : decode yB 12 = .ok (.caload, 1) := by decide +kernel
theorem d13 : decode yB 13 = .ok (.istore 6, 2) := by decide +kernel
theorem d15 : decode yB 15 = .ok (.iload 6, 2) := by decide +kernel
theorem d17 : decode yB 17 = .ok (.sipush 255, 3) := by decide +kernel
theorem d20 : decode yB 20 = .ok (.if_icmp (.le) 6, 3) := by decide +kernel
theorem d26 : decode yB 26 = .ok (.aload_n 2, 1) := by decide +kernel
theorem d27 : decode yB 27 = .ok (.iload_n 3, 1) := by decide +kernel
theorem d28 : decode yB 28 = .ok (.iload 6, 2) := by decide +kernel
theorem d30 : decode yB 30 = .ok (.i2b, 1) := by decide +kernel
theorem d31 : decode yB 31 = .ok (.bastore, 1) := by decide +kernel
theorem d32 : decode yB 32 = .ok (.iinc 1 1, 3) := by decide +kernel
theorem d35 : decode yB 35 = .ok (.iinc 3 1, 3) := by decide +kernel
theorem d38 : decode yB 38 = .ok (.iinc 5 1, 3) := by decide +kernel
theorem d41 : decode yB 41 = .ok (.goto (-38), 3) := by decide +kernel
theorem d44 : decode yB 44 = .ok (.iload 4, 2) := by decide +kernel
theorem d46 : decode yB 46 = .ok (.ireturn, 1) := by decide +kernel
def site : List Cond := []
def tab : Cond := tabOf yN yB 7 (some .int) site
def P (b : Addr) (A : Cell) (d : Addr) (B : Cell) (o q len : Nat) (args : Array Value) (s : State) : Prop := args = #[.ref b, .int (Int32.ofNat o), .ref d, .int (Int32.ofNat q), .int (Int32.ofNat len)] ∧ Ch b A s ∧ Arr .byte d B s ∧ b ≠ d ∧ o + len ≤ A.slots.size ∧ q + len ≤ B.slots.size ∧ ∀ i, i < len → ¬ 255 < cv A (o + i)
def E (b : Addr) (A : Cell) (d : Addr) (B : Cell) (o q len : Nat) (r : Option Value) (s u : State) : Prop := r = some (.int (Int32.ofNat len)) ∧ ∃ B', Put d B' s u ∧ Laid B B' q (q + len) (fun j => Value.int (lo8 (cv A (o + (j - q)))))
/-- no char of the range above 255: len; the places written hold each char's low byte -/
theorem law (l : Launch) (b : Addr) (A : Cell) (d : Addr) (B : Cell) (o q len : Nat) : Law l yN 5 5 0 0 yB 7 (some .int) site (P b A d B o q len) (E b A d B o q len) (copyLocs d q len) 0 0 := by
  refine Law.of_walk (plainFor_of_name (by decide +kernel)) (by decide +kernel) (by decide +kernel) (by decide) (fun _ _ h => by rw [h.1]; rfl) (fun _ U U' hal hh h => ⟨h.1, h.2.1.mv hal hh, h.2.2.1.mv hal hh, h.2.2.2⟩) (fun r U U' V V' h1 hal h2 h => ⟨h.1, h.2.elim fun B' q => ⟨B', q.1.mv h1 h2, q.2⟩⟩) ?_
  intro p e s m args below meth c s₁ X0 hexec hbytes hml hret hlk hnm hown hh0 W hP
  obtain ⟨rfl, hA, hB, hne, l1, l2, hp⟩ := hP
  have c1 : Steps p.tables e below (s₁.setTop (entryFrame m #[.ref b, .int (Int32.ofNat o), .ref d, .int (Int32.ofNat q), .int (Int32.ofNat len)] 7)) (s₁.setTop (mkF m 0 #[.val (.ref b), .val (.int (Int32.ofNat o)), .val (.ref d), .val (.int (Int32.ofNat q)), .val (.int (Int32.ofNat len)), .unset, .unset] [])) := entry rfl
  have hA0 := hA.1.mv X0.warmed.alike hh0
  have hB0 := hB.mv X0.warmed.alike hh0
  have a31 := hA.1.2.2.2
  have c2 : Steps p.tables e below (s₁.setTop (entryFrame m #[.ref b, .int (Int32.ofNat o), .ref d, .int (Int32.ofNat q), .int (Int32.ofNat len)] 7)) (s₁.setTop (mkF m 3 #[.val (.ref b), .val (.int (Int32.ofNat o)), .val (.ref d), .val (.int (Int32.ofNat q)), .val (.int (Int32.ofNat len)), .val (.int 0), .unset] [])) := c1.trans (by
    refine iconstV X0.here hexec rfl 0 (hb hbytes d0) (by decide) ?_
    refine XS.istore X0.here hexec rfl (hb hbytes d1) rfl rfl ?_
    exact Steps.refl _)
  have loop : ∀ (r i : Nat), i + r = len → ∀ (z : Slot), (z = .unset ∨ ∃ w, z = .val w ∧ w.category = 1) → ∀ (Tl : State) (Bk : Cell), Stand p l e { frames := 0, locals := 0, cells := 0, slots := 0 } s m #[.ref b, .int (Int32.ofNat o), .ref d, .int (Int32.ofNat q), .int (Int32.ofNat len)] below meth c Tl ([] ++ copyLocs d q i) 0 0 → Put d Bk s₁ Tl → Laid B Bk q (q + i) (fun j => Value.int (lo8 (cv A (o + (j - q))))) →
      Steps p.tables e below (s₁.setTop (entryFrame m #[.ref b, .int (Int32.ofNat o), .ref d, .int (Int32.ofNat q), .int (Int32.ofNat len)] 7)) (Tl.setTop (mkF m 3 #[.val (.ref b), .val (.int (Int32.ofNat (o + i))), .val (.ref d), .val (.int (Int32.ofNat (q + i))), .val (.int (Int32.ofNat len)), .val (.int (Int32.ofNat i)), z] [])) → ∃ (T' : State) (B' : Cell) (z' : Slot), Stand p l e { frames := 0, locals := 0, cells := 0, slots := 0 } s m #[.ref b, .int (Int32.ofNat o), .ref d, .int (Int32.ofNat q), .int (Int32.ofNat len)] below meth c T' ([] ++ copyLocs d q len) 0 0 ∧ Put d B' s₁ T' ∧ Laid B B' q (q + len) (fun j => Value.int (lo8 (cv A (o + (j - q))))) ∧
      Steps p.tables e below (s₁.setTop (entryFrame m #[.ref b, .int (Int32.ofNat o), .ref d, .int (Int32.ofNat q), .int (Int32.ofNat len)] 7)) (T'.setTop (mkF m 3 #[.val (.ref b), .val (.int (Int32.ofNat (o + len))), .val (.ref d), .val (.int (Int32.ofNat (q + len))), .val (.int (Int32.ofNat len)), .val (.int (Int32.ofNat len)), z'] [])) := by
    intro r
    induction r with
    | zero =>
      intro i hi z hz Tl Bk Xl pl fl cl
      have hil : i = len := by omega
      rw [hil] at Xl fl cl
      exact ⟨Tl, Bk, z, Xl, pl, fl, cl⟩
    | succ r ih =>
      intro i hi z hz Tl Bk Xl pl fl cl
      have all := X0.warmed.alike.symm.trans Xl.warmed.alike
      have hAl := hA0.keep all (pl.other hne hA0.1)
      have hBk := hB0.like all pl.1 fl.1 fl.2.1 fl.2.2.1
      have hlt : q + i < Bk.slots.size := by rw [fl.2.2.1]; omega
      have c3 : Steps p.tables e below (s₁.setTop (entryFrame m #[.ref b, .int (Int32.ofNat o), .ref d, .int (Int32.ofNat q), .int (Int32.ofNat len)] 7)) (Tl.setTop (mkF m 12 #[.val (.ref b), .val (.int (Int32.ofNat (o + i))), .val (.ref d), .val (.int (Int32.ofNat (q + i))), .val (.int (Int32.ofNat len)), .val (.int (Int32.ofNat i)), z] [.int (Int32.ofNat (o + i)), .ref b])) := cl.trans (by
        refine XS.iload Xl.here hexec rfl (hb hbytes d3) rfl ?_
        refine XS.iload Xl.here hexec rfl (hb hbytes d5) rfl ?_
        refine XS.icmpNo Xl.here hexec rfl (hb hbytes d7) rfl (ii_ge_f (lt32 (by omega) (by omega))) ?_
        refine XS.aloadN Xl.here hexec rfl (hb hbytes d10) rfl rfl ?_
        refine XS.iloadN Xl.here hexec rfl (hb hbytes d11) rfl ?_
        exact Steps.refl _)
      have c4 : Steps p.tables e below (s₁.setTop (entryFrame m #[.ref b, .int (Int32.ofNat o), .ref d, .int (Int32.ofNat q), .int (Int32.ofNat len)] 7)) (Tl.setTop (mkF m 13 #[.val (.ref b), .val (.int (Int32.ofNat (o + i))), .val (.ref d), .val (.int (Int32.ofNat (q + i))), .val (.int (Int32.ofNat len)), .val (.int (Int32.ofNat i)), z] [.int (cv A (o + i))])) := c3.trans (by
        refine Xl.aget hexec hAl rfl (hA.get (i := o + i) (by omega)) rfl rfl (hb hbytes d12) ?_
        exact Steps.refl _)
      have c5 : Steps p.tables e below (s₁.setTop (entryFrame m #[.ref b, .int (Int32.ofNat o), .ref d, .int (Int32.ofNat q), .int (Int32.ofNat len)] 7)) (Tl.setTop (mkF m 15 #[.val (.ref b), .val (.int (Int32.ofNat (o + i))), .val (.ref d), .val (.int (Int32.ofNat (q + i))), .val (.int (Int32.ofNat len)), .val (.int (Int32.ofNat i)), .val (.int (cv A (o + i)))] [])) := c4.trans (by
        refine XS.istoreS Xl.here hexec rfl (hb hbytes d13) rfl rfl hz ?_
        exact Steps.refl _)
      have c6 : Steps p.tables e below (s₁.setTop (entryFrame m #[.ref b, .int (Int32.ofNat o), .ref d, .int (Int32.ofNat q), .int (Int32.ofNat len)] 7)) (Tl.setTop (mkF m 31 #[.val (.ref b), .val (.int (Int32.ofNat (o + i))), .val (.ref d), .val (.int (Int32.ofNat (q + i))), .val (.int (Int32.ofNat len)), .val (.int (Int32.ofNat i)), .val (.int (cv A (o + i)))] [.int (lo8 (cv A (o + i))), .int (Int32.ofNat (q + i)), .ref d])) := c5.trans (by
        refine XS.iload Xl.here hexec rfl (hb hbytes d15) rfl ?_
        refine sipushV Xl.here hexec rfl 255 (hb hbytes d17) (by decide) ?_
        refine XS.icmpYes Xl.here hexec rfl (pc0 := 20) rfl (hb hbytes d20) rfl (ii_le_t (hp i (by omega))) (by decide) rfl ?_
        refine XS.aloadN Xl.here hexec rfl (hb hbytes d26) rfl rfl ?_
        refine XS.iloadN Xl.here hexec rfl (hb hbytes d27) rfl ?_
        refine XS.iload Xl.here hexec rfl (hb hbytes d28) rfl ?_
        refine i2b Xl.here hexec rfl (hb hbytes d30) rfl ?_
        exact Steps.refl _)
      obtain ⟨T7, X7, p7, st7⟩ := Xl.aput hexec hBk rfl hlt rfl (fits_lo8 (cv A (o + i))) (g := (mkF m 31 #[.val (.ref b), .val (.int (Int32.ofNat (o + i))), .val (.ref d), .val (.int (Int32.ofNat (q + i))), .val (.int (Int32.ofNat len)), .val (.int (Int32.ofNat i)), .val (.int (cv A (o + i)))] [.int (lo8 (cv A (o + i))), .int (Int32.ofNat (q + i)), .ref d])) rfl (rest := []) rfl (hb hbytes d31)
      have c8 : Steps p.tables e below (s₁.setTop (entryFrame m #[.ref b, .int (Int32.ofNat o), .ref d, .int (Int32.ofNat q), .int (Int32.ofNat len)] 7)) (T7.setTop (mkF m 32 #[.val (.ref b), .val (.int (Int32.ofNat (o + i))), .val (.ref d), .val (.int (Int32.ofNat (q + i))), .val (.int (Int32.ofNat len)), .val (.int (Int32.ofNat i)), .val (.int (cv A (o + i)))] [])) := c6.trans (st7 _ (Steps.refl _))
      have c9 : Steps p.tables e below (s₁.setTop (entryFrame m #[.ref b, .int (Int32.ofNat o), .ref d, .int (Int32.ofNat q), .int (Int32.ofNat len)] 7)) (T7.setTop (mkF m 3 #[.val (.ref b), .val (.int (Int32.ofNat (o + i) + 1)), .val (.ref d), .val (.int (Int32.ofNat (q + i) + 1)), .val (.int (Int32.ofNat len)), .val (.int (Int32.ofNat i + 1)), .val (.int (cv A (o + i)))] [])) := c8.trans (by
        refine iincV X7.here hexec rfl 1 (hb hbytes d32) (by decide) rfl rfl ?_
        refine iincV X7.here hexec rfl 1 (hb hbytes d35) (by decide) rfl rfl ?_
        refine iincV X7.here hexec rfl 1 (hb hbytes d38) (by decide) rfl rfl ?_
        refine XS.goto X7.here hexec rfl (pc0 := 41) rfl (hb hbytes d41) (by decide) rfl ?_
        exact Steps.refl _)
      have c10 : Steps p.tables e below (s₁.setTop (entryFrame m #[.ref b, .int (Int32.ofNat o), .ref d, .int (Int32.ofNat q), .int (Int32.ofNat len)] 7)) (T7.setTop (mkF m 3 #[.val (.ref b), .val (.int (Int32.ofNat (o + (i + 1)))), .val (.ref d), .val (.int (Int32.ofNat (q + (i + 1)))), .val (.int (Int32.ofNat len)), .val (.int (Int32.ofNat (i + 1))), .val (.int (cv A (o + i)))] [])) := by
        have := c9
        rw [succ32, succ32, succ32] at this
        exact this
      exact ih (i + 1) (by omega) _ (Or.inr ⟨_, rfl, rfl⟩) T7 _ (by rw [copyLocs_step, ← List.append_assoc]; exact X7) (pl.trans p7) (fl.step (by omega) hlt (by simp)) c10
  obtain ⟨T9, B9, z9, X9, p9, f9, g9⟩ := loop len 0 (by omega) .unset (Or.inl rfl) s₁ B (by simpa [copyLocs] using X0) ⟨hB0.1, fun _ _ => rfl, rfl⟩ (Laid.zero _ _ _) c2
  have c11 : Steps p.tables e below (s₁.setTop (entryFrame m #[.ref b, .int (Int32.ofNat o), .ref d, .int (Int32.ofNat q), .int (Int32.ofNat len)] 7)) (T9.setTop (mkF m 46 #[.val (.ref b), .val (.int (Int32.ofNat (o + len))), .val (.ref d), .val (.int (Int32.ofNat (q + len))), .val (.int (Int32.ofNat len)), .val (.int (Int32.ofNat len)), z9] [.int (Int32.ofNat len)])) := g9.trans (by
    refine XS.iload X9.here hexec rfl (hb hbytes d3) rfl ?_
    refine XS.iload X9.here hexec rfl (hb hbytes d5) rfl ?_
    refine XS.icmpYes X9.here hexec rfl (pc0 := 7) rfl (hb hbytes d7) rfl (ii_ge_t (nlt32 (by omega) (Nat.le_refl _))) (by decide) rfl ?_
    refine XS.iload X9.here hexec rfl (hb hbytes d44) rfl ?_
    exact Steps.refl _)
  exact ⟨T9, some (.int (Int32.ofNat len)), _, _, _, X9, by simp, rfl, rfl, (fun h => by cases h), ⟨rfl, B9, p9.from hh0, f9⟩, fun fs hl => c11.trans (X9.ireturnOut hexec hret rfl (Or.inl rfl) (hb hbytes d46) hl)⟩
end Cmp5
namespace Cmp3
def yN : MethodName := ⟨"java/lang/StringUTF16", "compress", "([CII)[B"⟩
abbrev yB : ByteArray := jdk_52_method_16_code
theorem d0 : decode yB 0 = .ok (.iload_n 2, 1) := by decide +kernel
theorem d1 : decode yB 1 = .ok (.newarray .byte, 2) := by decide +kernel
theorem d3 : decode yB 3 = .ok (.astore_n 3, 1) := by decide +kernel
theorem d4 : decode yB 4 = .ok (.aload_n 0, 1) := by decide +kernel
theorem d5 : decode yB 5 = .ok (.iload_n 1, 1) := by decide +kernel
theorem d6 : decode yB 6 = .ok (.aload_n 3, 1) := by decide +kernel
theorem d7 : decode yB 7 = .ok (.iconst 0, 1) := by decide +kernel
theorem d8 : decode yB 8 = .ok (.iload_n 2, 1) := by decide +kernel
theorem d9 : decode yB 9 = .ok (.invokestatic 115, 3) := by decide +kernel
theorem d12 : decode yB 12 = .ok (.istore 4, 2) := by decide +kernel
theorem d14 : decode yB 14 = .ok (.iload 4, 2) := by decide +kernel
theorem d16 : decode yB 16 = .ok (.iload_n 2, 1) := by decide +kernel
theorem d17 : decode yB 17 = .ok (.if_icmp (.eq) 40, 3) := by decide +kernel
theorem d57 : decode yB 57 = .ok (.aload_n 3, 1) := by decide +kernel
theorem d58 : decode yB 58 = .ok (.areturn, 1) := by decide +kernel
def site : List Cond := [.arrayClass .byte, Cmp5.tab] ++ staticW U16 115 Cmp5.yN
def tab : Cond := tabOf yN yB 6 (some (.array .byte)) site
def P (b : Addr) (A : Cell) (o len : Nat) (args : Array Value) (s : State) : Prop := args = #[.ref b, .int (Int32.ofNat o), .int (Int32.ofNat len)] ∧ Ch b A s ∧ o + len ≤ A.slots.size ∧ len ≤ 536870912 ∧ ∀ i, i < len → ¬ 255 < cv A (o + i)
def E (b : Addr) (A : Cell) (o len : Nat) (r : Option Value) (s u : State) : Prop := NewArr .byte "[B" len (fun j => .int (lo8 (cv A (o + j)))) r s u ∧ u.heap.size = s.heap.size + 1
/-- no char of the range above 255: a new byte[] of their low bytes -/
theorem law (l : Launch) (b : Addr) (A : Cell) (o len : Nat) : Law l yN 3 3 1 18 yB 6 (some (.array .byte)) site (P b A o len) (E b A o len) [] 1 len := by
  refine Law.of_walk (plainFor_of_name (by decide +kernel)) (by decide +kernel) (by decide +kernel) (by decide) (fun _ _ h => by rw [h.1]; rfl) (fun _ U U' hal hh h => ⟨h.1, h.2.1.mv hal hh, h.2.2⟩) (fun r U U' V V' h1 hal h2 h => ⟨NewArr.mv r U U' V V' h1 hal h2 h.1, by rw [h1, h2]; exact h.2⟩) ?_
  intro p e s m args below meth c s₁ X0 hexec hbytes hml hret hlk hnm hown hh0 W hP
  obtain ⟨rfl, hA, l1, l2, hp⟩ := hP
  have a31 := hA.1.2.2.2
  have c1 : Steps p.tables e below (s₁.setTop (entryFrame m #[.ref b, .int (Int32.ofNat o), .int (Int32.ofNat len)] 6)) (s₁.setTop (mkF m 0 #[.val (.ref b), .val (.int (Int32.ofNat o)), .val (.int (Int32.ofNat len)), .unset, .unset, .unset] [])) := entry rfl
  have c2 : Steps p.tables e below (s₁.setTop (entryFrame m #[.ref b, .int (Int32.ofNat o), .int (Int32.ofNat len)] 6)) (s₁.setTop (mkF m 1 #[.val (.ref b), .val (.int (Int32.ofNat o)), .val (.int (Int32.ofNat len)), .unset, .unset, .unset] [.int (Int32.ofNat len)])) := c1.trans (by
    refine XS.iloadN X0.here hexec rfl (hb hbytes d0) rfl ?_
    exact Steps.refl _)
  obtain ⟨T3, B3, X3, ba3, bs3, bv3, bh3, bf3, st3⟩ := X0.anew hexec (atype := .byte) (wk W (.arrayClass .byte)) rfl (by show len * 1 ≤ _; omega) (by omega) (g := (mkF m 1 #[.val (.ref b), .val (.int (Int32.ofNat o)), .val (.int (Int32.ofNat len)), .unset, .unset, .unset] [.int (Int32.ofNat len)])) rfl (hb hbytes d1) (rest := []) rfl (Nat.le_refl _) (by show 0 + len ≤ len; omega)
  rw [hh0] at ba3 st3
  have kp3 : XT.Kept s T3 := (XT.Kept.of_eq hh0).push bh3
  have hA3 := hA.keep X3.warmed.alike (kp3 _ _ hA.1.1)
  have hne : b ≠ s.heap.size := hA.1.ne
  have c4 : Steps p.tables e below (s₁.setTop (entryFrame m #[.ref b, .int (Int32.ofNat o), .int (Int32.ofNat len)] 6)) (T3.setTop (mkF m 3 #[.val (.ref b), .val (.int (Int32.ofNat o)), .val (.int (Int32.ofNat len)), .unset, .unset, .unset] [.ref s.heap.size])) := c2.trans (st3 _ (Steps.refl _))
  have c5 : Steps p.tables e below (s₁.setTop (entryFrame m #[.ref b, .int (Int32.ofNat o), .int (Int32.ofNat len)] 6)) (T3.setTop (mkF m 9 #[.val (.ref b), .val (.int (Int32.ofNat o)), .val (.int (Int32.ofNat len)), .val (.ref s.heap.size), .unset, .unset] [.int (Int32.ofNat len), .int 0, .ref s.heap.size, .int (Int32.ofNat o), .ref b])) := c4.trans (by
    refine XS.astoreN X3.here hexec rfl (hb hbytes d3) rfl rfl rfl ?_
    refine XS.aloadN X3.here hexec rfl (hb hbytes d4) rfl rfl ?_
    refine XS.iloadN X3.here hexec rfl (hb hbytes d5) rfl ?_
    refine XS.aloadN X3.here hexec rfl (hb hbytes d6) rfl rfl ?_
    refine iconstV X3.here hexec rfl 0 (hb hbytes d7) (by decide) ?_
    refine XS.iloadN X3.here hexec rfl (hb hbytes d8) rfl ?_
    exact Steps.refl _)
  obtain ⟨v6, T6, X6, E6, g6⟩ := X3.callS hexec (Cmp5.law l b A s.heap.size B3 o 0 len) hown (wks W (staticW U16 115 Cmp5.yN)) (wk W Cmp5.tab) (W := 0) (Nat.le_of_ble_eq_true rfl) (Nat.le_of_ble_eq_true rfl) (Nat.le_refl _) (by show 0 + len + 0 ≤ len; omega) (g := (mkF m 9 #[.val (.ref b), .val (.int (Int32.ofNat o)), .val (.int (Int32.ofNat len)), .val (.ref s.heap.size), .unset, .unset] [.int (Int32.ofNat len), .int (Int32.ofNat 0), .ref s.heap.size, .int (Int32.ofNat o), .ref b])) rfl (by rw [hml]; rfl) c5 (argsL := [.ref b, .int (Int32.ofNat o), .ref s.heap.size, .int (Int32.ofNat 0), .int (Int32.ofNat len)]) (rest := []) rfl rfl (by show 2 * 0 + 0 ≤ _; decide) (hb hbytes d9) (⟨rfl, hA3, ba3, hne, l1, by rw [bs3]; simp, hp⟩)
  obtain ⟨rfl, B6, p6, f6⟩ := E6
  have c7 : Steps p.tables e below (s₁.setTop (entryFrame m #[.ref b, .int (Int32.ofNat o), .int (Int32.ofNat len)] 6)) (T6.setTop (mkF m 12 #[.val (.ref b), .val (.int (Int32.ofNat o)), .val (.int (Int32.ofNat len)), .val (.ref s.heap.size), .unset, .unset] [.int (Int32.ofNat len)])) := g6
  have c8 : Steps p.tables e below (s₁.setTop (entryFrame m #[.ref b, .int (Int32.ofNat o), .int (Int32.ofNat len)] 6)) (T6.setTop (mkF m 58 #[.val (.ref b), .val (.int (Int32.ofNat o)), .val (.int (Int32.ofNat len)), .val (.ref s.heap.size), .val (.int (Int32.ofNat len)), .unset] [.ref s.heap.size])) := c7.trans (by
    refine XS.istore X6.here hexec rfl (hb hbytes d12) rfl rfl ?_
    refine XS.iload X6.here hexec rfl (hb hbytes d14) rfl ?_
    refine XS.iloadN X6.here hexec rfl (hb hbytes d16) rfl ?_
    refine XS.icmpYes X6.here hexec rfl (pc0 := 17) rfl (hb hbytes d17) rfl (ii_eq_t rfl) (by decide) rfl ?_
    refine XS.aloadN X6.here hexec rfl (hb hbytes d57) rfl rfl ?_
    exact Steps.refl _)
  have X8 := X6.wide (L' := []) (cells' := 1) (slots' := len) (fun x hx hlt => by
    simp only [List.nil_append, copyLocs, List.mem_map, List.mem_range] at hx
    obtain ⟨i, -, rfl⟩ := hx
    exact absurd hlt (Nat.lt_irrefl _)) (Nat.le_refl _) (by omega)
  exact ⟨T6, some (.ref s.heap.size), _, _, _, X8, rfl, rfl, rfl, (fun h => by cases h), ⟨⟨rfl, B6, ba3.like (X3.warmed.alike.symm.trans X6.warmed.alike) p6.1 f6.1 f6.2.1 f6.2.2.1, f6.2.1.trans bv3, by rw [X6.warmed.alike.findClass, f6.1]; exact bf3, by rw [f6.2.2.1, bs3]; simp, fun j hj => by rw [f6.2.2.2 j, if_pos (by omega)]; rfl, kp3.put p6 (Nat.le_refl _)⟩, by rw [p6.2.2, bh3, hh0]; simp⟩, fun fs hl => c8.trans (X8.areturnOut hexec rfl hret rfl (hb hbytes d58) hl)⟩
end Cmp3
namespace CodL
def yN : MethodName := ⟨"java/lang/StringUTF16", "coderFromArrayLen", "([BI)B"⟩
abbrev yB : ByteArray := jdk_52_method_15_code
theorem d0 : decode yB 0 = .ok (.iload_n 1, 1) := by decide +kernel
theorem d1 : decode yB 1 = .ok (.aload_n 0, 1) := by decide +kernel
theorem d2 : decode yB 2 = .ok (.arraylength, 1) := by decide +kernel
theorem d3 : decode yB 3 = .ok (.isub, 1) := by decide +kernel
theorem d4 : decode yB 4 = .ok (.bipush 31, 2) := by decide +kernel
theorem d6 : decode yB 6 = .ok (.iushr, 1) := by decide +kernel
theorem d7 : decode yB 7 = .ok (.i2b, 1) := by decide +kernel
theorem d8 : decode yB 8 = .ok (.ireturn, 1) := by decide +kernel
def site : List Cond := []
def tab : Cond := tabOf yN yB 2 (some .byte) site
def P (d : Addr) (B : Cell) (args : Array Value) (s : State) : Prop := args = #[.ref d, .int (Int32.ofNat B.slots.size)] ∧ Arr .byte d B s
def E (r : Option Value) (s u : State) : Prop := XT.PureE (some (.int 0)) r s u
/-- an array as long as the number of chars: LATIN1 -/
theorem law (l : Launch) (d : Addr) (B : Cell) : Law l yN 2 2 0 0 yB 2 (some .byte) site (P d B) E [] 0 0 := by
  refine Law.of_walk (plainFor_of_name (by decide +kernel)) (by decide +kernel) (by decide +kernel) (by decide) (fun _ _ h => by rw [h.1]; rfl) (fun _ U U' hal hh h => ⟨h.1, h.2.mv hal hh⟩) (fun r U U' V V' h1 hal h2 h => XT.PureE.mv r U U' V V' h1 hal h2 h) ?_
  intro p e s m args below meth c s₁ X0 hexec hbytes hml hret hlk hnm hown hh0 W hP
  obtain ⟨rfl, hB⟩ := hP
  have hB0 := hB.mv X0.warmed.alike hh0
  have c1 : Steps p.tables e below (s₁.setTop (entryFrame m #[.ref d, .int (Int32.ofNat B.slots.size)] 2)) (s₁.setTop (mkF m 0 #[.val (.ref d), .val (.int (Int32.ofNat B.slots.size))] [])) := entry rfl
  have c2 : Steps p.tables e below (s₁.setTop (entryFrame m #[.ref d, .int (Int32.ofNat B.slots.size)] 2)) (s₁.setTop (mkF m 2 #[.val (.ref d), .val (.int (Int32.ofNat B.slots.size))] [.ref d, .int (Int32.ofNat B.slots.size)])) := c1.trans (by
    refine XS.iloadN X0.here hexec rfl (hb hbytes d0) rfl ?_
    refine XS.aloadN X0.here hexec rfl (hb hbytes d1) rfl rfl ?_
    exact Steps.refl _)
  have c3 : Steps p.tables e below (s₁.setTop (entryFrame m #[.ref d, .int (Int32.ofNat B.slots.size)] 2)) (s₁.setTop (mkF m 8 #[.val (.ref d), .val (.int (Int32.ofNat B.slots.size))] [.int (lo8 (ushr (Int32.ofNat B.slots.size - Int32.ofNat B.slots.size) 31))])) := c2.trans (by
    refine X0.alen hexec hB0 rfl rfl (hb hbytes d2) ?_
    refine XS.isub X0.here hexec rfl (hb hbytes d3) rfl ?_
    refine bipushV X0.here hexec rfl 31 (hb hbytes d4) (by decide) ?_
    refine iushr X0.here hexec rfl (hb hbytes d6) rfl ?_
    refine i2b X0.here hexec rfl (hb hbytes d7) rfl ?_
    exact Steps.refl _)
  have e0 : lo8 (ushr (Int32.ofNat B.slots.size - Int32.ofNat B.slots.size) 31) = 0 := by rw [Int32.sub_self]; decide
  rw [e0] at c3
  exact ⟨s₁, some (.int 0), _, _, _, X0, rfl, rfl, rfl, (fun h => by cases h), ⟨rfl, hh0⟩, fun fs hl => c3.trans (X0.ireturnOut hexec hret rfl (Or.inr (Or.inr (Or.inl rfl))) (hb hbytes d8) hl)⟩
end CodL
/-- the String at a is Latin-1 over a new byte[] (the heap's one new cell): the low bytes of the len chars of A from o on; every cell but a is kept -/
def Got (a : Addr) (D : Cell) (fV fC : Field) (A : Cell) (o len : Nat) (r : Option Value) (s u : State) : Prop := r = none ∧ ∃ D' V : Cell, Blank "java/lang/String" a D' u ∧ Same D D' [fV.slot, fC.slot] ∧ D'.slots[fV.slot]? = some (.ref s.heap.size) ∧ D'.slots[fC.slot]? = some (.int 0) ∧ Arr .byte s.heap.size V u ∧ V.vm = .none ∧ u.vm.findClass "[B" = some V.cls ∧ V.slots.size = len ∧ (∀ j, j < len → V.slots[j]? = some (.int (lo8 (cv A (o + j))))) ∧ (∀ (y : Addr) (c : Cell), y ≠ a → s.heap[y]? = some c → u.heap[y]? = some c) ∧ u.heap.size = s.heap.size + 1
theorem Got.mv {a : Addr} {D A : Cell} {fV fC : Field} {o len : Nat} : ∀ r (U U' V V' : State), U'.heap = U.heap → V.vm.Alike V'.vm → V'.heap = V.heap → Got a D fV fC A o len r U V → Got a D fV fC A o len r U' V' :=
  fun r U U' V V' h1 hal h2 ⟨e0, D', X, a1, a2, a3, a4, a5, a6, a7, a8, a9, a10, a11⟩ => ⟨e0, D', X, a1.mv hal h2, a2, by rw [h1]; exact a3, a4, by rw [h1]; exact a5.mv hal h2, a6, by rw [hal.findClass]; exact a7, a8, a9, by rw [h1, h2]; exact a10, by rw [h1, h2]; exact a11⟩
namespace New4
def yN : MethodName := ⟨"java/lang/String", "<init>", "([CIILjava/lang/Void;)V"⟩
abbrev yB : ByteArray := jdk_42_method_149_code
theorem d0 : decode yB 0 = .ok (.aload_n 0, 1) := by decide +kernel
theorem d1 : decode yB 1 = .ok (.invokespecial 1, 3) := by decide +kernel
theorem d4 : decode yB 4 = .ok (.iload_n 3, 1) := by decide +kernel
theorem d5 : decode yB 5 = .ok (.ifCond (.ne) 22, 3) := by decide +kernel
theorem d27 : decode yB 27 = .ok (.getstatic 38, 3) := by decide +kernel
theorem d30 : decode yB 30 = .ok (.ifCond (.eq) 28, 3) := by decide +kernel
theorem d33 : decode yB 33 = .ok (.aload_n 1, 1) := by decide +kernel
theorem d34 : decode yB 34 = .ok (.iload_n 2, 1) := by decide +kernel
theorem d35 : decode yB 35 = .ok (.iload_n 3, 1) := by decide +kernel
theorem d36 : decode yB 36 = .ok (.invokestatic 177, 3) := by decide +kernel
theorem d39 : decode yB 39 = .ok (.astore 5, 2) := by decide +kernel
theorem d41 : decode yB 41 = .ok (.aload_n 0, 1) := by decide +kernel
theorem d42 : decode yB 42 = .ok (.aload 5, 2) := by decide +kernel
theorem d44 : decode yB 44 = .ok (.iload_n 3, 1) := by decide +kernel
theorem d45 : decode yB 45 = .ok (.invokestatic 47, 3) := by decide +kernel
theorem d48 : decode yB 48 = .ok (.putfield 15, 3) := by decide +kernel
theorem d51 : decode yB 51 = .ok (.aload_n 0, 1) := by decide +kernel
theorem d52 : decode yB 52 = .ok (.aload 5, 2) := by decide +kernel
theorem d54 : decode yB 54 = .ok (.putfield 9, 3) := by decide +kernel
theorem d57 : decode yB 57 = .ok (.return_, 1) := by decide +kernel
def site : List Cond := [.fieldLink "java/lang/String" 38 "java/lang/String" "COMPACT_STRINGS" "Z", Cmp3.tab, CodL.tab, .laysFinal "java/lang/String" "java/lang/String" "value" "[B", .fieldLink "java/lang/String" 9 "java/lang/String" "value" "[B", .laysFinal "java/lang/String" "java/lang/String" "coder" "B", .fieldLink "java/lang/String" 15 "java/lang/String" "coder" "B"] ++ objW "java/lang/String" 1 ++ staticW "java/lang/String" 177 Cmp3.yN ++ staticW "java/lang/String" 47 CodL.yN
def tab : Cond := tabOf yN yB 6 none site
def P (a : Addr) (D : Cell) (fV fC : Field) (b : Addr) (A : Cell) (z : Int32) (o len : Nat) (args : Array Value) (s : State) : Prop := args = #[.ref a, .ref b, .int (Int32.ofNat o), .int (Int32.ofNat len), .null] ∧ Blank "java/lang/String" a D s ∧ Found "java/lang/String" "value" "[B" fV s ∧ Found "java/lang/String" "coder" "B" fC s ∧ Ch b A s ∧ StaticIs s "java/lang/String" "COMPACT_STRINGS" "Z" (.int z) ∧ ¬ z = 0 ∧ 0 < len ∧ o + len ≤ A.slots.size ∧ len ≤ 536870912 ∧ ∀ i, i < len → ¬ 255 < cv A (o + i)
def E (a : Addr) (D : Cell) (fV fC : Field) (A : Cell) (o len : Nat) (r : Option Value) (s u : State) : Prop := Got a D fV fC A o len r s u
/-- len > 0, no char of the range above 255: a Latin-1 String of their low bytes -/
theorem law (l : Launch) (a : Addr) (D : Cell) (fV fC : Field) (b : Addr) (A : Cell) (z : Int32) (o len : Nat) : Law l yN 5 4 2 35 yB 6 none site (P a D fV fC b A z o len) (E a D fV fC A o len) [⟨a, fC.slot⟩, ⟨a, fV.slot⟩] 1 len := by
  refine Law.of_walk (plainFor_of_name (by decide +kernel)) (by decide +kernel) (by decide +kernel) (by decide) (fun _ _ h => by rw [h.1]; rfl) (fun _ U U' hal hh h => ⟨h.1, h.2.1.mv hal hh, h.2.2.1.al hal, h.2.2.2.1.al hal, h.2.2.2.2.1.mv hal hh, h.2.2.2.2.2.1.there hal hh, h.2.2.2.2.2.2⟩) (fun r U U' V V' h1 hal h2 h => Got.mv r U U' V V' h1 hal h2 h) ?_
  intro p e s m args below meth c s₁ X0 hexec hbytes hml hret hlk hnm hown hh0 W hP
  obtain ⟨rfl, hB, f1, f2, hA, s1, hz, l0, l1, l2, hp⟩ := hP
  have a31 := hA.1.2.2.2
  have c1 : Steps p.tables e below (s₁.setTop (entryFrame m #[.ref a, .ref b, .int (Int32.ofNat o), .int (Int32.ofNat len), .null] 6)) (s₁.setTop (mkF m 0 #[.val (.ref a), .val (.ref b), .val (.int (Int32.ofNat o)), .val (.int (Int32.ofNat len)), .val .null, .unset] [])) := entry rfl
  have c2 : Steps p.tables e below (s₁.setTop (entryFrame m #[.ref a, .ref b, .int (Int32.ofNat o), .int (Int32.ofNat len), .null] 6)) (s₁.setTop (mkF m 1 #[.val (.ref a), .val (.ref b), .val (.int (Int32.ofNat o)), .val (.int (Int32.ofNat len)), .val .null, .unset] [.ref a])) := c1.trans (by
    refine XS.aloadN X0.here hexec rfl (hb hbytes d0) rfl rfl ?_
    exact Steps.refl _)
  obtain ⟨T3, X3, q3, st3⟩ := X0.oinit hexec hown (wks W (objW "java/lang/String" 1)) (g := (mkF m 1 #[.val (.ref a), .val (.ref b), .val (.int (Int32.ofNat o)), .val (.int (Int32.ofNat len)), .val .null, .unset] [.ref a])) rfl (by rw [hml]; rfl) (rest := []) rfl (hb hbytes d1) (W := 0) (by show 2 * 0 + 0 ≤ _; decide) (Nat.le_of_ble_eq_true rfl) (Nat.le_of_ble_eq_true rfl)
  have hh3 := q3.trans hh0
  have c4 : Steps p.tables e below (s₁.setTop (entryFrame m #[.ref a, .ref b, .int (Int32.ofNat o), .int (Int32.ofNat len), .null] 6)) (T3.setTop (mkF m 27 #[.val (.ref a), .val (.ref b), .val (.int (Int32.ofNat o)), .val (.int (Int32.ofNat len)), .val .null, .unset] [])) := (c2.trans (st3 _ (Steps.refl _))).trans (by
    refine XS.iloadN X3.here hexec rfl (hb hbytes d4) rfl ?_
    refine XS.ifYes X3.here hexec rfl (pc0 := 5) rfl (hb hbytes d5) rfl (i0_ne_t (nz32 (by omega) l0)) (by decide) rfl ?_
    exact Steps.refl _)
  obtain ⟨T5, X5, q5, st5⟩ := X3.sget hexec hown (wk W (.fieldLink "java/lang/String" 38 "java/lang/String" "COMPACT_STRINGS" "Z")) s1 (fun _ _ h => by rw [hh3]; exact h) (g := (mkF m 27 #[.val (.ref a), .val (.ref b), .val (.int (Int32.ofNat o)), .val (.int (Int32.ofNat len)), .val .null, .unset] [])) rfl (hb hbytes d27)
  have hh5 := q5.trans hh3
  have c6 : Steps p.tables e below (s₁.setTop (entryFrame m #[.ref a, .ref b, .int (Int32.ofNat o), .int (Int32.ofNat len), .null] 6)) (T5.setTop (mkF m 30 #[.val (.ref a), .val (.ref b), .val (.int (Int32.ofNat o)), .val (.int (Int32.ofNat len)), .val .null, .unset] [.int z])) := c4.trans (st5 _ (Steps.refl _))
  have c7 : Steps p.tables e below (s₁.setTop (entryFrame m #[.ref a, .ref b, .int (Int32.ofNat o), .int (Int32.ofNat len), .null] 6)) (T5.setTop (mkF m 36 #[.val (.ref a), .val (.ref b), .val (.int (Int32.ofNat o)), .val (.int (Int32.ofNat len)), .val .null, .unset] [.int (Int32.ofNat len), .int (Int32.ofNat o), .ref b])) := c6.trans (by
    refine XS.ifNo X5.here hexec rfl (hb hbytes d30) rfl (i0_eq_f hz) ?_
    refine XS.aloadN X5.here hexec rfl (hb hbytes d33) rfl rfl ?_
    refine XS.iloadN X5.here hexec rfl (hb hbytes d34) rfl ?_
    refine XS.iloadN X5.here hexec rfl (hb hbytes d35) rfl ?_
    exact Steps.refl _)
  obtain ⟨v8, T8, X8, E8, g8⟩ := X5.callS hexec (Cmp3.law l b A o len) hown (wks W (staticW "java/lang/String" 177 Cmp3.yN)) (wk W Cmp3.tab) (W := 0) (Nat.le_of_ble_eq_true rfl) (Nat.le_of_ble_eq_true rfl) (Nat.le_refl _) (by show 0 + len ≤ len; omega) (g := (mkF m 36 #[.val (.ref a), .val (.ref b), .val (.int (Int32.ofNat o)), .val (.int (Int32.ofNat len)), .val .null, .unset] [.int (Int32.ofNat len), .int (Int32.ofNat o), .ref b])) rfl (by rw [hml]; rfl) c7 (argsL := [.ref b, .int (Int32.ofNat o), .int (Int32.ofNat len)]) (rest := []) rfl rfl (by show 2 * 0 + 0 ≤ _; decide) (hb hbytes d36) (⟨rfl, hA.mv X5.warmed.alike hh5, l1, l2, hp⟩)
  obtain ⟨e8, z8⟩ := E8
  obtain ⟨rfl, N, n1, n2, n3, n4, n5, n6⟩ := NewArr.mv _ T5 s _ _ hh5.symm (Vm.Alike.refl _) rfl e8
  rw [hh5] at z8
  have hB1 := hB.keep X8.warmed.alike (n6 _ _ hB.1)
  have hne : s.heap.size ≠ a := (Nat.ne_of_lt (Array.getElem?_eq_some_iff.mp hB.1).1).symm
  have c9 : Steps p.tables e below (s₁.setTop (entryFrame m #[.ref a, .ref b, .int (Int32.ofNat o), .int (Int32.ofNat len), .null] 6)) (T8.setTop (mkF m 39 #[.val (.ref a), .val (.ref b), .val (.int (Int32.ofNat o)), .val (.int (Int32.ofNat len)), .val .null, .unset] [.ref s.heap.size])) := g8
  have c10 : Steps p.tables e below (s₁.setTop (entryFrame m #[.ref a, .ref b, .int (Int32.ofNat o), .int (Int32.ofNat len), .null] 6)) (T8.setTop (mkF m 45 #[.val (.ref a), .val (.ref b), .val (.int (Int32.ofNat o)), .val (.int (Int32.ofNat len)), .val .null, .val (.ref s.heap.size)] [.int (Int32.ofNat N.slots.size), .ref s.heap.size, .ref a])) := by
    have hc : Steps p.tables e below (s₁.setTop (entryFrame m #[.ref a, .ref b, .int (Int32.ofNat o), .int (Int32.ofNat len), .null] 6)) (T8.setTop (mkF m 45 #[.val (.ref a), .val (.ref b), .val (.int (Int32.ofNat o)), .val (.int (Int32.ofNat len)), .val .null, .val (.ref s.heap.size)] [.int (Int32.ofNat len), .ref s.heap.size, .ref a])) := c9.trans (by
      refine XS.astore X8.here hexec rfl (hb hbytes d39) rfl rfl rfl ?_
      refine XS.aloadN X8.here hexec rfl (hb hbytes d41) rfl rfl ?_
      refine XS.aload X8.here hexec rfl (hb hbytes d42) rfl rfl ?_
      refine XS.iloadN X8.here hexec rfl (hb hbytes d44) rfl ?_
      exact Steps.refl _)
    rw [n4]; exact hc
  obtain ⟨v11, T11, X11, E11, g11⟩ := X8.callS hexec (CodL.law l s.heap.size N) hown (wks W (staticW "java/lang/String" 47 CodL.yN)) (wk W CodL.tab) (W := 1) (Nat.le_of_ble_eq_true rfl) (Nat.le_of_ble_eq_true rfl) (Nat.le_refl _) (by show 0 + len + 0 ≤ len; omega) (g := (mkF m 45 #[.val (.ref a), .val (.ref b), .val (.int (Int32.ofNat o)), .val (.int (Int32.ofNat len)), .val .null, .val (.ref s.heap.size)] [.int (Int32.ofNat N.slots.size), .ref s.heap.size, .ref a])) rfl (by rw [hml]; rfl) c10 (argsL := [.ref s.heap.size, .int (Int32.ofNat N.slots.size)]) (rest := [.ref a]) rfl rfl (by show 2 * 0 + (1 + 0) ≤ _; decide) (hb hbytes d45) (⟨rfl, n1⟩)
  obtain ⟨rfl, q11⟩ := E11
  have hB11 := hB1.mv (X8.warmed.alike.symm.trans X11.warmed.alike) q11
  have c12 : Steps p.tables e below (s₁.setTop (entryFrame m #[.ref a, .ref b, .int (Int32.ofNat o), .int (Int32.ofNat len), .null] 6)) (T11.setTop (mkF m 48 #[.val (.ref a), .val (.ref b), .val (.int (Int32.ofNat o)), .val (.int (Int32.ofNat len)), .val .null, .val (.ref s.heap.size)] [.int 0, .ref a])) := g11
  obtain ⟨T13, X13, p13, bl13, sl13, st13⟩ := X11.finit hexec hown (wk W (.fieldLink "java/lang/String" 15 "java/lang/String" "coder" "B")) (Or.inr ⟨_, (wk W (.laysFinal "java/lang/String" "java/lang/String" "coder" "B"))⟩) (Or.inl ⟨rfl, hnm⟩) f2 (Or.inl rfl) hB11 (t := .byte) (by decide +kernel) rfl (g := (mkF m 48 #[.val (.ref a), .val (.ref b), .val (.int (Int32.ofNat o)), .val (.int (Int32.ofNat len)), .val .null, .val (.ref s.heap.size)] [.int 0, .ref a])) rfl (rest := []) rfl (hb hbytes d48)
  have c14 : Steps p.tables e below (s₁.setTop (entryFrame m #[.ref a, .ref b, .int (Int32.ofNat o), .int (Int32.ofNat len), .null] 6)) (T13.setTop (mkF m 54 #[.val (.ref a), .val (.ref b), .val (.int (Int32.ofNat o)), .val (.int (Int32.ofNat len)), .val .null, .val (.ref s.heap.size)] [.ref s.heap.size, .ref a])) := (c12.trans (st13 _ (Steps.refl _))).trans (by
    refine XS.aloadN X13.here hexec rfl (hb hbytes d51) rfl rfl ?_
    refine XS.aload X13.here hexec rfl (hb hbytes d52) rfl rfl ?_
    exact Steps.refl _)
  obtain ⟨T15, X15, p15, bl15, sl15, st15⟩ := X13.finit hexec hown (wk W (.fieldLink "java/lang/String" 9 "java/lang/String" "value" "[B")) (Or.inr ⟨_, (wk W (.laysFinal "java/lang/String" "java/lang/String" "value" "[B"))⟩) (Or.inl ⟨rfl, hnm⟩) f1 (Or.inl rfl) bl13 (t := (.array .byte)) (by decide +kernel) rfl (g := (mkF m 54 #[.val (.ref a), .val (.ref b), .val (.int (Int32.ofNat o)), .val (.int (Int32.ofNat len)), .val .null, .val (.ref s.heap.size)] [.ref s.heap.size, .ref a])) rfl (rest := []) rfl (hb hbytes d54)
  have c16 : Steps p.tables e below (s₁.setTop (entryFrame m #[.ref a, .ref b, .int (Int32.ofNat o), .int (Int32.ofNat len), .null] 6)) (T15.setTop (mkF m 57 #[.val (.ref a), .val (.ref b), .val (.int (Int32.ofNat o)), .val (.int (Int32.ofNat len)), .val .null, .val (.ref s.heap.size)] [])) := c14.trans (st15 _ (Steps.refl _))
  have ap := apart (Or.inr ⟨_, (wk W (.laysFinal "java/lang/String" "java/lang/String" "value" "[B"))⟩) (Or.inr ⟨_, (wk W (.laysFinal "java/lang/String" "java/lang/String" "coder" "B"))⟩) f1 f2 (t₁ := .array .byte) (t₂ := .byte) (by decide +kernel) (by decide +kernel) (by decide)
  have al := X8.warmed.alike.symm.trans X15.warmed.alike
  have n7 : T11.heap[s.heap.size]? = some N := by rw [q11]; exact n1.1
  exact ⟨T15, none, _, _, _, X15, by simp, rfl, by omega, (fun _ => rfl), ⟨rfl, _, N, bl15, ((Same.refl D _).set _ (by simp)).set _ (by simp), sl15, (Cell.slots_setSlot_ne _ ap).trans sl13, n1.keep al (p15.other hne (p13.other hne n7)), n2, by rw [al.findClass]; exact n3, n4, n5, fun y c h1 h2 => p15.other h1 (p13.other h1 (by rw [q11]; exact n6 y c h2)), by rw [p15.2.2, p13.2.2, q11]; exact z8⟩, fun fs hl => c16.trans (X15.returnOut hexec hret (hb hbytes d57) hl)⟩
end New4
namespace New1
def yN : MethodName := ⟨"java/lang/String", "<init>", "([C)V"⟩
abbrev yB : ByteArray := jdk_42_method_3_code
theorem d0 : decode yB 0 = .ok (.aload_n 0, 1) := by decide +kernel
theorem d1 : decode yB 1 = .ok (.aload_n 1, 1) := by decide +kernel
theorem d2 : decode yB 2 = .ok (.iconst 0, 1) := by decide +kernel
theorem d3 : decode yB 3 = .ok (.aload_n 1, 1) := by decide +kernel
theorem d4 : decode yB 4 = .ok (.arraylength, 1) := by decide +kernel
theorem d5 : decode yB 5 = .ok (.aconst_null, 1) := by decide +kernel
theorem d6 : decode yB 6 = .ok (.invokespecial 27, 3) := by decide +kernel
theorem d9 : decode yB 9 = .ok (.return_, 1) := by decide +kernel
def site : List Cond := [New4.tab] ++ initW "java/lang/String" 27 New4.yN
def tab : Cond := tabOf yN yB 2 none site
def P (a : Addr) (D : Cell) (fV fC : Field) (b : Addr) (A : Cell) (z : Int32) (args : Array Value) (s : State) : Prop := args = #[.ref a, .ref b] ∧ Blank "java/lang/String" a D s ∧ Found "java/lang/String" "value" "[B" fV s ∧ Found "java/lang/String" "coder" "B" fC s ∧ Ch b A s ∧ StaticIs s "java/lang/String" "COMPACT_STRINGS" "Z" (.int z) ∧ ¬ z = 0 ∧ 0 < A.slots.size ∧ A.slots.size ≤ 536870912 ∧ ∀ i, i < A.slots.size → ¬ 255 < cv A i
def E (a : Addr) (D : Cell) (fV fC : Field) (A : Cell) (r : Option Value) (s u : State) : Prop := Got a D fV fC A 0 A.slots.size r s u
/-- new String(chars), not empty, no char above 255: a Latin-1 String of their low bytes -/
theorem law (l : Launch) (a : Addr) (D : Cell) (fV fC : Field) (b : Addr) (A : Cell) (z : Int32) : Law l yN 2 1 3 52 yB 2 none site (P a D fV fC b A z) (E a D fV fC A) [⟨a, fC.slot⟩, ⟨a, fV.slot⟩] 1 A.slots.size := by
  refine Law.of_walk (plainFor_of_name (by decide +kernel)) (by decide +kernel) (by decide +kernel) (by decide) (fun _ _ h => by rw [h.1]; rfl) (fun _ U U' hal hh h => ⟨h.1, h.2.1.mv hal hh, h.2.2.1.al hal, h.2.2.2.1.al hal, h.2.2.2.2.1.mv hal hh, h.2.2.2.2.2.1.there hal hh, h.2.2.2.2.2.2⟩) (fun r U U' V V' h1 hal h2 h => Got.mv r U U' V V' h1 hal h2 h) ?_
  intro p e s m args below meth c s₁ X0 hexec hbytes hml hret hlk hnm hown hh0 W hP
  obtain ⟨rfl, hB, f1, f2, hA, s1, hz, l0, l2, hp⟩ := hP
  have c1 : Steps p.tables e below (s₁.setTop (entryFrame m #[.ref a, .ref b] 2)) (s₁.setTop (mkF m 0 #[.val (.ref a), .val (.ref b)] [])) := entry rfl
  have c2 : Steps p.tables e below (s₁.setTop (entryFrame m #[.ref a, .ref b] 2)) (s₁.setTop (mkF m 6 #[.val (.ref a), .val (.ref b)] [.null, .int (Int32.ofNat A.slots.size), .int 0, .ref b, .ref a])) := c1.trans (by
    refine XS.aloadN X0.here hexec rfl (hb hbytes d0) rfl rfl ?_
    refine XS.aloadN X0.here hexec rfl (hb hbytes d1) rfl rfl ?_
    refine iconstV X0.here hexec rfl 0 (hb hbytes d2) (by decide) ?_
    refine XS.aloadN X0.here hexec rfl (hb hbytes d3) rfl rfl ?_
    refine X0.alen hexec (hA.1.mv X0.warmed.alike hh0) rfl rfl (hb hbytes d4) ?_
    refine XS.aconstNull X0.here hexec rfl (hb hbytes d5) ?_
    exact Steps.refl _)
  obtain ⟨v3, T3, X3, E3, g3⟩ := X0.callN hexec (New4.law l a D fV fC b A z 0 A.slots.size) rfl hown (wks W (initW "java/lang/String" 27 New4.yN)) (W New4.tab (by simp only [site, List.mem_cons, List.mem_append, true_or, or_true])) (W := 0) (Nat.le_of_ble_eq_true rfl) (Nat.le_of_ble_eq_true rfl) (Nat.le_refl _) (by show 0 + A.slots.size ≤ A.slots.size; omega) (g := (mkF m 6 #[.val (.ref a), .val (.ref b)] [.null, .int (Int32.ofNat A.slots.size), .int (Int32.ofNat 0), .ref b, .ref a])) rfl (by rw [hml]; rfl) c2 (argsL := [.ref b, .int (Int32.ofNat 0), .int (Int32.ofNat A.slots.size), .null]) (rest := []) rfl rfl (by show 2 * 0 + 0 ≤ _; decide) (hb hbytes d6) (⟨rfl, hB.mv X0.warmed.alike hh0, f1.al X0.warmed.alike, f2.al X0.warmed.alike, hA.mv X0.warmed.alike hh0, s1.there X0.warmed.alike hh0, hz, l0, by omega, l2, fun i hi => by rw [Nat.zero_add]; exact hp i hi⟩)
  have e0 := Got.mv _ s₁ s _ _ hh0.symm (Vm.Alike.refl _) rfl E3
  obtain rfl := e0.1
  have c4 : Steps p.tables e below (s₁.setTop (entryFrame m #[.ref a, .ref b] 2)) (T3.setTop (mkF m 9 #[.val (.ref a), .val (.ref b)] [])) := g3
  exact ⟨T3, none, _, _, _, X3, by simp, rfl, by omega, (fun _ => rfl), e0, fun fs hl => c4.trans (X3.returnOut hexec hret (hb hbytes d9) hl)⟩
theorem pays {l : Launch} {R : Room} {p : Program} {e : Env} {below : List Frame} {s : State} {sargs : Array Value} {len W : Nat} (a : Addr) (D : Cell) (fV fC : Field) (b : Addr) (A : Cell) (z : Int32) (htab : tab.before sargs s = true) (hfr : 4 ≤ R.frames) (hlo : W + 65 ≤ R.locals) :
    Back l R p e below s sargs yN len W (fun A₁ a₁ => A₁.cells + 1 ≤ R.cells ∧ A₁.slots + A.slots.size ≤ R.slots ∧ P a D fV fC b A z a₁ A₁.U) (fun A₁ _ v₁ B₁ => E a D fV fC A v₁ A₁.U B₁.U ∧ B₁.locs = A₁.locs ++ [⟨a, fC.slot⟩, ⟨a, fV.slot⟩] ∧ B₁.cells = A₁.cells + 1 ∧ B₁.slots = A₁.slots + A.slots.size) :=
  (law l a D fV fC b A z).pays htab hfr (by omega)
end New1
/-- the byte, read back as charAt reads it, is the char -/
theorem lo8_mask {x : Int32} (h0 : ¬ x < 0) (h1 : ¬ 255 < x) : lo8 x &&& 255 = x := by
  have t : ∀ k : Fin 256, lo8 (Int32.ofNat k.val) &&& 255 = Int32.ofNat k.val := by decide +kernel
  rw [Int32.lt_iff_toInt_lt] at h0 h1
  have e0 : (0 : Int32).toInt = 0 := rfl
  have e1 : (255 : Int32).toInt = 255 := rfl
  obtain ⟨k, hk⟩ : ∃ k : Nat, x.toInt = k := ⟨x.toInt.toNat, by omega⟩
  have hx : x = Int32.ofNat k := Int32.toInt_inj.mp (by rw [hk, Int32.toInt_ofNat_small (by omega)])
  rw [hx]
  exact t ⟨k, by omega⟩
end StrChars
namespace StrChars.Road
open Jvm Sem ClassFile Op Lib Jvm.Stand Jvm.Free Jvm.Free.XT
open Jvm.Lib.Cold (StaticIs)
abbrev ST : String := "java/lang/String"
/-- every table word that New1's law asks, flat -/
abbrev words : List Jvm.Cond := [.code New1.yN New1.yB 2 none, .initialized ST, .methodLink ST 27 New4.yN, .instanceMethod New4.yN,
  .code New4.yN New4.yB 6 none, .fieldLink ST 38 ST "COMPACT_STRINGS" "Z", .laysFinal ST ST "value" "[B", .fieldLink ST 9 ST "value" "[B", .laysFinal ST ST "coder" "B", .fieldLink ST 15 ST "coder" "B",
  .methodLink ST 1 Lib.objectInit, .instanceMethod Lib.objectInit, .code Lib.objectInit ⟨#[0xb1]⟩ 1 none, .methodLink ST 177 Cmp3.yN, .static Cmp3.yN, .methodLink ST 47 CodL.yN, .static CodL.yN,
  .code Cmp3.yN Cmp3.yB 6 (some (.array .byte)), .initialized U16, .arrayClass .byte, .methodLink U16 115 Cmp5.yN, .static Cmp5.yN, .code Cmp5.yN Cmp5.yB 7 (some .int), .code CodL.yN CodL.yB 2 (some .byte)]
theorem tab_of {a : Array Value} {s : State} (h : ∀ w ∈ words, w.before a s = true) : New1.tab.before a s = true := by
  have h5 : Cmp5.tab.before a s = true := unparts (wk h (.code Cmp5.yN Cmp5.yB 7 (some .int))) (wks h (.initialized Cmp5.yN.cls :: Cmp5.site))
  have hc : CodL.tab.before a s = true := unparts (wk h (.code CodL.yN CodL.yB 2 (some .byte))) (wks h (.initialized CodL.yN.cls :: CodL.site))
  have q5 : ∀ w ∈ Cmp5.tab :: words, w.before a s = true := fun w hw => (List.mem_cons.mp hw).elim (fun e => e ▸ h5) (h w)
  have h3 : Cmp3.tab.before a s = true := unparts (wk q5 (.code Cmp3.yN Cmp3.yB 6 (some (.array .byte)))) (wks q5 (.initialized Cmp3.yN.cls :: Cmp3.site))
  have q3 : ∀ w ∈ Cmp3.tab :: CodL.tab :: words, w.before a s = true := fun w hw => (List.mem_cons.mp hw).elim (fun e => e ▸ h3) fun hw => (List.mem_cons.mp hw).elim (fun e => e ▸ hc) (h w)
  have h4 : New4.tab.before a s = true := unparts (wk q3 (.code New4.yN New4.yB 6 none)) (wks q3 (.initialized New4.yN.cls :: New4.site))
  have q4 : ∀ w ∈ New4.tab :: words, w.before a s = true := fun w hw => (List.mem_cons.mp hw).elim (fun e => e ▸ h4) (h w)
  exact unparts (wk q4 (.code New1.yN New1.yB 2 none)) (wks q4 (.initialized New1.yN.cls :: New1.site))
/-- the words ride from the start Z to the walk's own state -/
theorem moved {Z s : State} {a0 args : Array Value} (hZ : Z.Warmed39 s.vm) (hw : ∀ d ∈ words, d.before a0 Z = true) : ∀ d ∈ words, d.before args s = true := fun d hd => by
  have q := hw d hd
  have t : ∀ d ∈ words, d = .arrayClass .byte ∨ (d.onTables && d.keepsFace) = true := by decide +kernel
  rcases t d hd with rfl | t
  · exact RoadKit.mvA hZ q
  · exact RoadKit.mv hZ q t
/-- WHAT COMES BACK, over the tables of the start Z: h the heap at the call, h' behind it -/
def Q (Z : State) (x : Addr) (A : Cell) (h : Heap) (v : Option Value) (h' : Heap) (L : List Loc) : Prop := v = none ∧ (∀ y ∈ L, y.base = x) ∧ RoadKit.Keep h h' [x] ∧ h'.size = h.size + 1 ∧ RoadKit.Exa Z h' x ST ∧ RoadKit.Fld Z h' x ST "value" "[B" (.ref h.size) ∧ RoadKit.Fld Z h' x ST "coder" "B" (.int 0) ∧
  (∃ V : Cell, RoadKit.Arr Z h' h.size V .byte ∧ V.vm = .none ∧ Z.vm.findClass "[B" = some V.cls ∧ V.slots.size = A.slots.size ∧ ∀ j, j < A.slots.size → V.slots[j]? = some (.int (lo8 (cv A j)))) ∧
  ∀ (O n d : String) (w : Value), RoadKit.Fld Z h x O n d w → RoadKit.slotOf Z O n d ≠ RoadKit.slotOf Z ST "value" "[B" → RoadKit.slotOf Z O n d ≠ RoadKit.slotOf Z ST "coder" "B" → RoadKit.Fld Z h' x O n d w
/-- **new String(chars) AT A CALL, IN THE ROAD'S FORM**: for specialBack behind newO: x the fresh String, b the char[] with the cell A -/
theorem back {p : Program} {l : Launch} {e : Env} {R : Room} {s : State} {args : Array Value} {below : List Frame} {len W : Nat} {Z : State} {a0 : Array Value} {h : Heap} (hZ : Z.Warmed39 s.vm) (hw : ∀ d ∈ words, d.before a0 Z = true) {kI : Nat} (wi : (Jvm.Cond.instantiable ST kI).before a0 Z = true)
    {x b : Addr} {A : Cell} {z : Int32} {v0 c0 : Value} (E : RoadKit.Exa Z h x ST) (V : RoadKit.Fld Z h x ST "value" "[B" v0) (C : RoadKit.Fld Z h x ST "coder" "B" c0) (K : RoadKit.Arr Z h b A .char) (hty : Typed .char A) (S : RoadKit.Sta Z h ST "COMPACT_STRINGS" "Z" (.int z)) (hz : ¬ z = 0)
    (l0 : 0 < A.slots.size) (l2 : A.slots.size ≤ 536870912) (hp : ∀ i, i < A.slots.size → ¬ 255 < cv A i) (hfr : 4 ≤ R.frames) (hlo : W + 65 ≤ R.locals) :
    Back l R p e below s args New1.yN len W (fun P a => a = #[.ref x, .ref b] ∧ P.U.heap = h ∧ P.cells + 1 ≤ R.cells ∧ P.slots + A.slots.size ≤ R.slots)
      (fun P _ v B => ∃ L, Q Z x A h v B.U.heap L ∧ B.locs = P.locs ++ L ∧ B.cells = P.cells + 1 ∧ B.slots = P.slots + A.slots.size) := by
  intro m meth c P g ig mk a X hg hsize hdg hW hn hp'
  obtain ⟨rfl, rfl, r1, r2⟩ := hp'
  have al : Z.vm.Alike P.U.vm := hZ.alike.trans X.warmed.alike
  obtain ⟨D, cfV, kV, iV, fV, hD, gV, stV, knV, obV, asV, slV⟩ := id V
  obtain ⟨D', cfC, kC, iC, fC, hD', gC, stC, -, -, asC, slC⟩ := id C
  cases hD.symm.trans hD'
  obtain ⟨D2, kD, e1, e2, e3, e4, e5⟩ := id E
  cases hD.symm.trans e1
  obtain ⟨c2, k2, i1, i2, i3, -⟩ := Cond.instantiable_spec wi
  cases e2.symm.trans i1
  cases e3.symm.trans i2
  obtain ⟨kU, u1, u2⟩ := al.2.2 _ _ e3
  have hB : Blank ST x D P.U := ⟨hD, ⟨knV, fun q hq => by rw [hq] at obV; cases obV⟩, by rw [al.findClass]; exact e2, kU, u1, by rw [u2]; exact i3, by rw [u2]; exact e5 i3⟩
  have F1 : Found ST "value" "[B" fV P.U := ⟨SBG.found_only al ⟨cfV, kV, iV, gV⟩, stV⟩
  have F2 : Found ST "coder" "B" fC P.U := ⟨SBG.found_only al ⟨cfC, kC, iC, gC⟩, stC⟩
  have hA : Ch b A P.U := ⟨⟨K.1, State.isArrayOf_alike al K.2.1, K.2.2, by omega⟩, hty⟩
  have hS : StaticIs P.U ST "COMPACT_STRINGS" "Z" (.int z) := by
    obtain ⟨cfS, iS, kS, fS, st, cS, t1, t2, t3, t4, t5, t6, t7⟩ := S
    exact StaticIs.there (s := { Z with heap := P.U.heap }) ⟨cfS, iS, kS, fS, st, cS, t1, t2, t3, t4, t5, (fun q => by rw [q] at t6; cases t6), t7⟩ al rfl
  obtain ⟨v, B, X', ⟨⟨hv, E', V', q1, q2, q3, q4, q5, q6, q7, q8, q9, q10, q11⟩, hl, hc, hs⟩, st⟩ := New1.pays x D fV fC b A z (tab_of (moved hZ hw)) hfr hlo m meth c P g ig mk _ X hg hsize hdg hW hn ⟨r1, r2, rfl, hB, F1, F2, hA, hS, hz, l0, l2, hp⟩
  have al' : Z.vm.Alike B.U.vm := hZ.alike.trans X'.warmed.alike
  have hsz : E'.slots.size = D.slots.size := by
    obtain ⟨-, -, -, kB, w1, w2, w3⟩ := q1
    obtain ⟨kB', y1, y2⟩ := al'.2.2 _ _ e3
    rw [q2.2.1] at w1
    cases w1.symm.trans y1
    rw [w3, e5 i3, y2]
  refine ⟨v, B, X', ⟨_, ⟨hv, ?_, ⟨by omega, fun y cy hy hn' => q10 y cy (by simpa using hn') hy, fun y cy hy => ?_⟩, q11, ⟨E', _, q1.1, by rw [q2.2.1]; exact e2, by rw [q2.2.1]; exact e3, by rw [q2.1]; exact obV, fun _ => by rw [hsz]; exact e5 i3⟩,
    ⟨E', cfV, kV, iV, fV, q1.1, gV, stV, by rw [q2.1]; exact knV, by rw [q2.1]; exact obV, by rw [q2.2.1]; exact asV, q3⟩, ⟨E', cfC, kC, iC, fC, q1.1, gC, stC, by rw [q2.1]; exact knV, by rw [q2.1]; exact obV, by rw [q2.2.1]; exact asC, q4⟩,
    ⟨V', ⟨q5.1, State.isArrayOf_alike al'.symm q5.2.1, q5.2.2.1⟩, q6, by rw [← al'.findClass]; exact q7, q8, fun j hj => by have := q9 j hj; rwa [Nat.zero_add] at this⟩, fun O n d w F n1 n2 => ?_⟩, hl, hc, hs⟩, st⟩
  · intro y hy
    simp only [List.mem_cons, List.not_mem_nil, or_false] at hy
    rcases hy with rfl | rfl <;> rfl
  · by_cases q : y = x
    · subst q
      cases hD.symm.trans hy
      exact ⟨E', q1.1, q2.2.1, q2.1, hsz⟩
    · exact ⟨cy, q10 y cy q hy, rfl, rfl, rfl⟩
  · obtain ⟨D3, cf, k, i, f, g1, g2, g3, g4, g5, g6, g7⟩ := F
    cases hD.symm.trans g1
    simp only [RoadKit.slotOf, g2, gV, gC, Option.map_some, Option.getD_some] at n1 n2
    exact ⟨E', cf, k, i, f, q1.1, g2, g3, by rw [q2.1]; exact g4, by rw [q2.1]; exact g5, by rw [q2.2.1]; exact g6, by rw [q2.2.2 f.slot (by simp [n1, n2])]; exact g7⟩
end StrChars.Road
namespace StrChars.Road
open Jvm Sem ClassFile Op Lib Jvm.Stand Jvm.Free Jvm.Free.XT
/-- WHAT COMES BACK, the byte[] as a list of values -/
def QA (Z : State) (x : Addr) (zn : Int32) (cs : List Int32) (h : Heap) (v : Option Value) (h' : Heap) (L : List Loc) : Prop := v = none ∧ (∀ y ∈ L, y.base = x) ∧ RoadKit.Keep h h' [x] ∧ h'.size = h.size + 1 ∧ RoadKit.Exa Z h' x ST ∧ RoadKit.Fld Z h' x ST "value" "[B" (.ref h.size) ∧ RoadKit.Fld Z h' x ST "coder" "B" (.int 0) ∧
  (∃ kb, Z.vm.findClass "[B" = some kb ∧ RoadKit.Arv Z h' h.size kb .byte zn (cs.map fun c => .int (lo8 c)) (.int 0)) ∧
  ∀ (O n d : String) (w : Value), RoadKit.Fld Z h x O n d w → RoadKit.slotOf Z O n d ≠ RoadKit.slotOf Z ST "value" "[B" → RoadKit.slotOf Z O n d ≠ RoadKit.slotOf Z ST "coder" "B" → RoadKit.Fld Z h' x O n d w
/-- **new String(chars) AT A CALL, THE ARRAYS AS LISTS**: the char[] at b holds cs, not empty, no char above 255 -/
theorem backArv {p : Program} {l : Launch} {e : Env} {R : Room} {s : State} {args : Array Value} {below : List Frame} {len W : Nat} {Z : State} {a0 : Array Value} {h : Heap} (hZ : Z.Warmed39 s.vm) (hw : ∀ d ∈ words, d.before a0 Z = true) {kI : Nat} (wi : (Jvm.Cond.instantiable ST kI).before a0 Z = true)
    {x b : Addr} {k : ClassId} {zn z : Int32} {cs : List Int32} {dv v0 c0 : Value} (E : RoadKit.Exa Z h x ST) (V : RoadKit.Fld Z h x ST "value" "[B" v0) (C : RoadKit.Fld Z h x ST "coder" "B" c0) (K : RoadKit.Arv Z h b k .char zn (cs.map Value.int) dv) (S : RoadKit.Sta Z h ST "COMPACT_STRINGS" "Z" (.int z)) (hz : ¬ z = 0)
    (hlen : zn.toNatClampNeg = cs.length) (h0 : 0 < cs.length) (hbig : cs.length ≤ 536870912) (hall : ∀ c ∈ cs, ¬ 255 < c) (hfr : 4 ≤ R.frames) (hlo : W + 65 ≤ R.locals) :
    Back l R p e below s args New1.yN len W (fun P a => a = #[.ref x, .ref b] ∧ P.U.heap = h ∧ P.cells + 1 ≤ R.cells ∧ P.slots + cs.length ≤ R.slots)
      (fun P _ v B => ∃ L, QA Z x zn cs h v B.U.heap L ∧ B.locs = P.locs ++ L ∧ B.cells = P.cells + 1 ∧ B.slots = P.slots + cs.length) := by
  obtain ⟨A, K1, K2, K3, K4, K5, K6⟩ := K
  have e : A.slots.size = cs.length := K3.trans hlen
  have hat : ∀ (i : Nat) (hi : i < cs.length), A.slots[i]? = some (.int cs[i]) := fun i hi => by rw [K5 i (by omega)]; simp [List.getD_eq_getElem?_getD, hi]
  have hcv : ∀ (i : Nat) (hi : i < cs.length), cv A i = cs[i] := fun i hi => by unfold cv; rw [hat i hi]
  have hty : Typed .char A := fun i v hv => by
    have hi : i < A.slots.size := (Array.getElem?_eq_some_iff.mp hv).1
    have q := K5 i hi
    rw [hv] at q
    rw [Option.some.inj q]
    exact K6 i hi
  refine Back.mono (back hZ hw wi E V C K1 hty S hz (by omega) (by omega) (fun i hi => by rw [hcv i (by omega)]; exact hall _ (List.getElem_mem _)) hfr hlo) (fun P a hp => ⟨hp.1, hp.2.1, hp.2.2.1, by rw [e]; exact hp.2.2.2⟩) (fun P a v B hp hq => ?_)
  obtain ⟨L, ⟨q1, q2, q3, q4, q5, q6, q7, ⟨V', v1, v2, v3, v4, v5⟩, q9⟩, hl, hc, hs⟩ := hq
  refine ⟨L, ⟨q1, q2, q3, q4, q5, q6, q7, ⟨V'.cls, v3, V', v1, rfl, by rw [v4, e, hlen], K4, fun i hi => ?_, fun i hi => ?_⟩, q9⟩, hl, hc, by rw [hs, e]⟩
  · have hi' : i < cs.length := by omega
    rw [v5 i (by omega), hcv i hi']; simp [List.getD_eq_getElem?_getD, hi']
  · have hi' : i < cs.length := by omega
    simp only [List.getD_eq_getElem?_getD, List.getElem?_map, List.getElem?_eq_getElem hi', Option.map_some, Option.getD_some]
    exact fits_lo8 _
end StrChars.Road
namespace StrChars.Road
open Jvm Sem ClassFile Op Lib Jvm.Stand Jvm.Free Jvm.Free.XT
/-- WHAT COMES BACK, in the writer's own shape -/
def QV (Z : State) (x : Addr) (N : Int32) (bs : List Int32) (h : Heap) (n0 : Nat) (v : Option Value) (h' : Heap) (L : List Loc) : Prop := v = none ∧ RoadKit.Fr n0 L ∧ RoadKit.Keep h h' [x] ∧ RoadKit.Exa Z h' x ST ∧ RoadKit.Fld Z h' x ST "coder" "B" (.int 0) ∧
  ∃ (t : Addr) (kb : ClassId), n0 ≤ t ∧ h.size ≤ t ∧ ¬ t = x ∧ RoadKit.Fld Z h' x ST "value" "[B" (.ref t) ∧ RoadKit.Arv Z h' t kb .byte N (bs.map Value.int) (.int 0)
/-- **new String(chars) AT A CALL, FOR THE WRITER**: a char[] of n known ints, each 0 to 255 -/
theorem backV {p : Program} {l : Launch} {e : Env} {R : Room} {s : State} {args : Array Value} {below : List Frame} {len W : Nat} {Z : State} {a0 : Array Value} {h : Heap} (hZ : Z.Warmed39 s.vm) (hw : ∀ d ∈ words, d.before a0 Z = true) {kI : Nat} (wi : (Jvm.Cond.instantiable ST kI).before a0 Z = true)
    {x b : Addr} {kC : ClassId} {cs bs : List Int32} {d v0 c0 : Value} {z N : Int32} {n n0 : Nat} (hx0 : n0 ≤ x) (hh0 : n0 ≤ h.size) (E : RoadKit.Exa Z h x ST) (V : RoadKit.Fld Z h x ST "value" "[B" v0) (C : RoadKit.Fld Z h x ST "coder" "B" c0) (K : RoadKit.Arv Z h b kC .char N (cs.map Value.int) d) (S : RoadKit.Sta Z h ST "COMPACT_STRINGS" "Z" (.int z)) (hz : ¬ z = 0)
    (hn : cs.length = n) (hN : N = Int32.ofNat n) (l0 : 0 < n) (l2 : n ≤ 4000) (hp : ∀ c ∈ cs, ¬ c < 0 ∧ ¬ (255 : Int32) < c) (hb : bs = cs.map (fun c => c.toInt8.toInt32)) (hfr : 4 ≤ R.frames) (hlo : W + 65 ≤ R.locals) :
    Back l R p e below s args (⟨"java/lang/String", "<init>", "([C)V"⟩ : MethodName) len W (fun P a => a = #[.ref x, .ref b] ∧ P.U.heap = h ∧ P.cells + 1 ≤ R.cells ∧ P.slots + n ≤ R.slots)
      (fun P _ v B => ∃ L, QV Z x N bs h n0 v B.U.heap L ∧ B.locs = P.locs ++ L ∧ B.cells = P.cells + 1 ∧ B.slots = P.slots + n) := by
  subst hn hN hb
  refine Back.mono (backArv hZ hw wi E V C K S hz (n32 (by omega)) l0 (by omega) (fun c hc => (hp c hc).2) hfr hlo) (fun P a hp => hp) (fun P a v B hp hq => ?_)
  obtain ⟨L, ⟨q1, q2, q3, q4, q5, q6, q7, ⟨kb, v1, v2⟩, q9⟩, hl, hc, hs⟩ := hq
  exact ⟨L, ⟨q1, fun y hy => by rw [q2 y hy]; exact hx0, q3, q5, q7, h.size, kb, hh0, Nat.le_refl _, Nat.ne_of_gt E.lt, q6, by rw [List.map_map]; exact v2⟩, hl, hc, hs⟩
end StrChars.Road
namespace StrChars
open Jvm Sem ClassFile Op Lib Jvm.Stand Jvm.Free.XT Jvm.Free.ALB Jvm.Free.JM Jvm.Free
open Jvm.Lib.Cold (StaticIs)
def hi8 (x : Int32) : Int32 := lo8 (x >>> ((8 : Int32) &&& 31))
/-- what StringUTF16.getChar makes of two bytes -/
def pairCh (u v : Int32) : Int32 := (((u &&& 255) <<< ((0 : Int32) &&& 31)) ||| ((v &&& 255) <<< ((8 : Int32) &&& 31))).toUInt32.toUInt16.toUInt32.toInt32
theorem lo8_and (x : Int32) : (lo8 x &&& 255).toBitVec.toNat = x.toBitVec.toNat % 256 := by
  have h : (lo8 x).toBitVec = (x.toBitVec.signExtend 8).signExtend 32 := by rw [lo8, Int8.toBitVec_toInt32, Int32.toBitVec_toInt8]
  rw [Int32.toBitVec_and, BitVec.toNat_and, h]
  have e : ((x.toBitVec.signExtend 8).signExtend 32).toNat % 256 = x.toBitVec.toNat % 256 := by
    rw [BitVec.toNat_signExtend]
    have hlt := x.toBitVec.isLt
    simp only [BitVec.toNat_setWidth, BitVec.toNat_signExtend]
    split <;> split <;> omega
  rw [← e]
  exact Nat.and_two_pow_sub_one_eq_mod _ 8
theorem pair_says {c : Int32} (h0 : ¬ c < 0) (h1 : ¬ 65535 < c) : pairCh (lo8 c) (hi8 c) = c := by
  rw [Int32.lt_iff_toInt_lt] at h0 h1
  have e0 : (0 : Int32).toInt = 0 := rfl
  have e1 : (65535 : Int32).toInt = 65535 := rfl
  have hc : c.toInt = c.toBitVec.toNat := by
    have := c.toBitVec.isLt
    have e : c.toInt = c.toBitVec.toInt := rfl
    rw [e] at h0 h1
    rw [e]
    rw [BitVec.toInt_eq_toNat_cond] at h0 h1 ⊢
    split at h0 <;> split <;> omega
  have hn : c.toBitVec.toNat < 65536 := by omega
  have a1 := lo8_and c
  have a2 : (hi8 c &&& 255).toBitVec.toNat = c.toBitVec.toNat / 256 := by
    rw [hi8, lo8_and]
    have e : ((8 : Int32) &&& 31) = 8 := by decide
    rw [e, Int32.toBitVec_shiftRight]
    have e2 : ((8 : Int32).toBitVec.smod 32) = 8#32 := by decide
    rw [e2, BitVec.sshiftRight_eq', BitVec.toNat_sshiftRight_of_msb_false (by rw [BitVec.msb_eq_false_iff_two_mul_lt]; omega)]
    show c.toBitVec.toNat >>> 8 % 256 = _
    rw [Nat.shiftRight_eq_div_pow]
    omega
  unfold pairCh
  apply Int32.toBitVec_inj.mp
  apply BitVec.eq_of_toNat_eq
  have f0 : ((0 : Int32) &&& 31) = 0 := by decide
  have f8 : ((8 : Int32) &&& 31) = 8 := by decide
  rw [f0, f8]
  have g : (((lo8 c &&& 255) <<< (0 : Int32)) ||| ((hi8 c &&& 255) <<< (8 : Int32))).toBitVec.toNat = c.toBitVec.toNat := by
    rw [Int32.toBitVec_or, Int32.toBitVec_shiftLeft, Int32.toBitVec_shiftLeft]
    have s0 : ((0 : Int32).toBitVec.smod 32) = 0#32 := by decide
    have s8 : ((8 : Int32).toBitVec.smod 32) = 8#32 := by decide
    rw [s0, s8, BitVec.toNat_or]
    simp only [BitVec.shiftLeft_eq', BitVec.toNat_shiftLeft, a1, a2]
    show (c.toBitVec.toNat % 256) <<< 0 % 2 ^ 32 ||| (c.toBitVec.toNat / 256) <<< 8 % 2 ^ 32 = _
    rw [Nat.shiftLeft_zero, Nat.mod_eq_of_lt (show c.toBitVec.toNat % 256 < 2 ^ 32 by omega), Nat.mod_eq_of_lt (show (c.toBitVec.toNat / 256) <<< 8 < 2 ^ 32 by rw [Nat.shiftLeft_eq]; omega), Nat.or_comm, ← Nat.shiftLeft_add_eq_or_of_lt (by omega), Nat.shiftLeft_eq]
    omega
  show BitVec.toNat (((((lo8 c &&& 255) <<< (0 : Int32)) ||| ((hi8 c &&& 255) <<< (8 : Int32))).toBitVec.setWidth 16).setWidth 32) = _
  rw [BitVec.toNat_setWidth, BitVec.toNat_setWidth, g]
  omega
end StrChars
namespace StrChars
open Jvm Sem ClassFile Op Lib Jvm.Stand Jvm.Free.XT Jvm.Free.ALB Jvm.Free.JM Jvm.Free
open Jvm.Lib.Cold (StaticIs)
theorem narrow_ch {c : Int32} (h0 : ¬ c < 0) (h1 : ¬ 65535 < c) : narrow .char (.int c) = .int c := by
  have q : narrow .char (.int (pairCh (lo8 c) (hi8 c))) = .int (pairCh (lo8 c) (hi8 c)) := narrow_c _
  rwa [pair_says h0 h1] at q
end StrChars
namespace StrChars.Road
open Jvm Sem ClassFile Op Lib Jvm.Stand Jvm.Free Jvm.Free.XT
open Jvm.Lib.Cold (StaticIs)
/-- the bytes of the chars cs, low before high -/
def wideBytes : List Int32 → List Value
  | [] => []
  | c :: cs => .int (lo8 c) :: .int (hi8 c) :: wideBytes cs
theorem low_at (d : Value) (cs : List Int32) (j : Nat) (h : j < cs.length) : (cs.map fun c => Value.int (lo8 c)).getD j d = .int (lo8 (cs.getD j 0)) := by
  simp [List.getD_eq_getElem?_getD, h]
/-- an array of N2 bytes vs codes the chars cs by the coder cd -/
def CodA (cs : List Int32) (cd N2 : Int32) (vs : List Value) : Prop := (cd = 0 ∧ N2 = Int32.ofNat cs.length ∧ vs = (cs.map fun c => Value.int (lo8 c)) ∧ ∀ c ∈ cs, ¬ 255 < c) ∨ (cd = 1 ∧ N2 = Int32.ofNat (2 * cs.length) ∧ vs = wideBytes cs ∧ ∃ c ∈ cs, 255 < c)
end StrChars.Road
namespace StrChars
open Jvm Sem ClassFile Op Lib Jvm.Stand Jvm.Free.XT Jvm.Free.ALB Jvm.Free.JM Jvm.Free
open Jvm.Lib.Cold (StaticIs)
theorem lo8_inj {x y : Int32} (h0 : ¬ x < 0) (h1 : ¬ 255 < x) (k0 : ¬ y < 0) (k1 : ¬ 255 < y) (h : lo8 x = lo8 y) : x = y := by
  rw [← lo8_mask h0 h1, ← lo8_mask k0 k1, h]
end StrChars
namespace StrChars.Road
open Jvm Sem ClassFile Op Lib Jvm.Stand Jvm.Free Jvm.Free.XT
open Jvm.Lib.Cold (StaticIs)
/-- what backV says of its String, as the contracts of this text ask it: cs's low bytes, coder 0 -/
theorem codOf {cs : List Int32} {n : Nat} (hn : cs.length = n) (hb : ∀ c ∈ cs, ¬ 255 < c) : CodA cs 0 (Int32.ofNat n) ((cs.map lo8).map Value.int) := Or.inl ⟨rfl, by rw [hn], by simp [List.map_map, Function.comp_def], hb⟩
end StrChars.Road
end Jvm.Pilot.@@N@@
namespace Jvm.Pilot.@@N@@
open Jvm Jvm.ClassFile Sem Op Lib Jvm.Free Jvm.Stand Jvm.LawKit Jvm.RoadKit Bundle Jvm.Pilot.@@N@@.Jvm.D
section Own
variable {p : Program} {l : Launch} {e : Env} {R : Room} {s : State} {m : MethodId} {args : Array Value} {below : List Frame} {meth : Method} {c : Code} {T T' : State} {locs : List Loc} {cells slots : Nat} {G : Outcome → State → Prop} {g g' : JFrame}
/-- from here the walk ends, and ends as G says -/
def OwnGoes (p : Program) (e : Env) (below : List Frame) (G : Outcome → State → Prop) (T : State) (g : JFrame) : Prop := ∃ s₂ o, Steps p.tables e below (T.setTop g) s₂ ∧ s₂.status = .running ∧ Ended s₂ below o ∧ G o s₂
abbrev vI (x : Int32) : Slot := .val (.int x)
abbrev oR (a b c d : Nat) : Room := { frames := a, cells := b, slots := c, locals := d }
abbrev vU : Slot := .unset
theorem own_w {d : Jvm.Cond} {a0 : Array Value} {Z : State} (hw : ∀ d ∈ tables_1, d.before a0 Z = true) (i : Nat) (h : tables_1[i]? = some d) : d.before a0 Z = true := hw _ (List.mem_of_getElem? h)
abbrev vR (a : Addr) : Slot := .val (.ref a)
abbrev OwnG (p : Program) (e : Env) (b : List Frame) (T : State) (m : MethodId) (pc : Nat) (L : Array Slot) (S : List Value) (t : State) : Prop := Steps p.tables e b (T.setTop (mkF m pc L S)) t
theorem OwnGoes.step (h : ∀ t, Steps p.tables e below (T'.setTop g') t → Steps p.tables e below (T.setTop g) t) (k : OwnGoes p e below G T' g') : OwnGoes p e below G T g := by
  obtain ⟨s2, o, h1, r⟩ := k
  exact ⟨s2, o, h _ h1, r⟩
theorem OwnGoes.tr (h : Steps p.tables e below (T.setTop g) (T'.setTop g')) (k : OwnGoes p e below G T' g') : OwnGoes p e below G T g := by
  obtain ⟨s2, o, h1, r⟩ := k
  exact ⟨s2, o, h.trans h1, r⟩
theorem og (T' : State) (m' : MethodId) (pc : Nat) (L : Array Slot) (S : List Value) (h : ∀ t, Steps p.tables e below (T'.setTop (mkF m' pc L S)) t → Steps p.tables e below (T.setTop g) t) (k : OwnGoes p e below G T' (mkF m' pc L S)) : OwnGoes p e below G T g := OwnGoes.step h k
theorem own_leave (X : Stand p l e R s m args below meth c T locs cells slots) (hlk : meth.locks = false) {v : Option Value} (hv : meth.sig.returnType = none → v = none)
    (hret : ∀ fs, (∀ (f : JFrame) (acts : List Action), f.method = m → f.locked = none → f.entered = [] → (doReturn e (T.setTop f) acts v).1 = T.setFrames fs) → Steps p.tables e below (T.setTop g) (T.setFrames fs))
    {k n : Nat} (hc : cells ≤ k) (hs : slots ≤ n) {Q : Option Value → Heap → List Loc → Prop} (hQ : Q v T.heap locs) :
    OwnGoes p e below (fun o U' => ∃ v L, o = .returned v ∧ Q v U'.heap L ∧ FrameEnd s o U' L k n) T g := by
  obtain ⟨fs, hr, hrun, hended, hW, hsame⟩ := X.leave (v := v) hv hlk
  exact ⟨_, _, hret fs hr, hrun, hended, v, locs, rfl, hQ, ⟨_, rfl⟩, hW, hsame.mono hc hs⟩
theorem own_leaveW {Z : State} {EL : List (String × Nat)} {vm1 : Vm} (X : Stand p l e R (s.setVm vm1) m args below meth c T locs cells slots) {n1 : Nat} (hS : s.Since vm1 n1) (hn : n1 ≤ T.heap.size) (hlk : meth.locks = false) {v : Option Value} (hv : meth.sig.returnType = none → v = none)
    (hret : ∀ fs, (∀ (f : JFrame) (acts : List Action), f.method = m → f.locked = none → f.entered = [] → (doReturn e (T.setTop f) acts v).1 = T.setFrames fs) → Steps p.tables e below (T.setTop g) (T.setFrames fs))
    {k n : Nat} (hc : cells ≤ k) (hs : slots ≤ n) {Q : Option Value → Heap → List Loc → Prop} (hR : CHr Z EL s.vm s.heap T.vm T.heap) (hQ : Q v T.heap locs) :
    OwnGoes p e below (fun o U' => ∃ v L, o = .returned v ∧ Q v U'.heap L ∧ CHr Z EL s.vm s.heap U'.vm U'.heap ∧ ReturnedEndW s o U' L k n) T g := by
  obtain ⟨fs, hr, hrun, hended, a1, a2, a3, a4⟩ := X.leaveW hS hn (v := v) hv hlk
  exact ⟨_, _, hret fs hr, hrun, hended, v, locs, rfl, hQ, hR, a1, a2, a3, a4.mono hc hs⟩
theorem own_cls {s : State} {args : Array Value} {C : String} {y y' : MethodName} {m : MethodId} (hn : s.methodNamed? y = some m) (hs : (Cond.selects C y' y').before args s = true) (hc : y'.cls = y.cls) : ∃ mk, s.vm.classes[m.cls]? = some mk ∧ mk.isInterface = false := by
  obtain ⟨c2, r2, m2, q1, q2, q3, q4, kP, hkP, hkPi⟩ := Cond.selects_spec hs
  have a := findClass_of_methodNamed hn
  have b := findClass_of_methodNamed q3
  rw [hc, a] at b
  rw [Option.some.inj b]
  exact ⟨kP, hkP, hkPi⟩
theorem own_notface {s : State} {args : Array Value} {C : String} {y y' : MethodName} (hs : (Cond.selects C y' y').before args s = true) (hc : y'.cls = y.cls) : NotFace s y := fun r0 h0 => own_cls h0 hs hc
theorem own_same {s : State} {args : Array Value} {C : String} {y y' : MethodName} (hd : (Cond.declares y).before args s = true) (hs : (Cond.selects C y' y').before args s = true) (hc : y'.cls = y.cls) (hx : y.cls ≠ "java/lang/invoke/MethodHandle" ∧ y.cls ≠ "java/lang/invoke/VarHandle") : (Cond.sameMethod y.cls y.cls y.name y.desc).before args s = true := by
  obtain ⟨m, meth, h1, -⟩ := Cond.declares_spec hd
  obtain ⟨mk, k1, k2⟩ := own_cls h1 hs hc
  have a := findClass_of_methodNamed h1
  have b := State.methodFound?_of_named h1 hx
  have h1' : s.methodNamed? ⟨y.cls, y.name, y.desc⟩ = some m := h1
  simp [Cond.before, Cond.holds, Cond.value, a, b, h1', k1, k2]
theorem own_decl {s : State} {args : Array Value} {y : MethodName} {bytes : ByteArray} {maxL : Nat} {ret : Option FieldType} (h1 : (Cond.instanceMethod y).before args s = true) (h2 : (Cond.code y bytes maxL ret).before args s = true) : (Cond.declares y).before args s = true := by
  obtain ⟨mk, meth, hn, hm, hst, -⟩ := Cond.instanceMethod_spec h1
  obtain ⟨m2, cM, q1, -, -, -, -, -, -, hsig⟩ := Cond.code_spec hn h2
  cases hm.symm.trans q1
  simp [Cond.before, Cond.holds, Cond.value, hn, hm, hst, hsig]
theorem own_arv_ty {Z : State} {h : Heap} {a b : Addr} {k k' : ClassId} {ty ty' : FieldType} {n n' : Int32} {vs vs' : List Value} {d d' : Value} (A : Arv Z h a k ty n vs d) (B : Arv Z h b k' ty' n' vs' d') (q : ty ≠ ty') : a ≠ b := fun e => by
  subst e
  obtain ⟨c1, ⟨a1, ⟨-, k1, a2, c1', a3⟩, -⟩, -⟩ := A
  obtain ⟨c2, ⟨b1, ⟨-, k2, b2, c2', b3⟩, -⟩, -⟩ := B
  cases a1.symm.trans b1
  cases a2.symm.trans b2
  have := a3.symm.trans b3
  injection this with _ e
  exact q e
theorem own_nar2_char (x : Int32) : nar .char (nar .char x) = nar .char x := by simp only [nar, UInt32.toUInt32_toInt32, UInt16.toUInt16_toUInt32]
theorem own_nar2_byte (x : Int32) : nar .byte (nar .byte x) = nar .byte x := by simp [nar]
theorem own_nar2_boolean (x : Int32) : nar .boolean (nar .boolean x) = nar .boolean x := by simp [nar, Int32.and_assoc]
theorem own_toInt32_lt (x y : Int32) : x < y ↔ x.toInt < y.toInt := Int32.lt_iff_toInt_lt
theorem own_lat255 (x : Int32) : ¬ nar .char (x &&& (255 : Int32)) < 0 ∧ ¬ (255 : Int32) < nar .char (x &&& (255 : Int32)) := by
  have t : ∀ k : Fin 256, ¬ nar .char (Int32.ofNat k.val) < 0 ∧ ¬ (255 : Int32) < nar .char (Int32.ofNat k.val) := by decide +kernel
  have h : (x &&& 255).toBitVec.toNat < 256 := by
    simp only [Int32.toBitVec_and, BitVec.toNat_and]
    exact Nat.lt_succ_of_le Nat.and_le_right
  have e : (x &&& 255) = Int32.ofNat (x &&& 255).toBitVec.toNat := by
    apply Int32.toBitVec_inj.mp
    show _ = BitVec.ofNat 32 _
    rw [BitVec.ofNat_toNat]; simp
  rw [e]
  exact t ⟨_, h⟩
theorem own_nar_lat {x : Int32} (h : ¬ x < 0 ∧ ¬ (255 : Int32) < x) : nar .char x = x := by
  have h1 : ∀ k : Fin 256, nar .char (Int32.ofNat k.val) = Int32.ofNat k.val := by decide +kernel
  obtain ⟨a, b⟩ := h
  rw [Int32.lt_iff_toInt_lt] at a b
  have e1 : (0 : Int32).toInt = 0 := rfl
  have e2 : (255 : Int32).toInt = 255 := rfl
  have e : x = Int32.ofNat x.toInt.toNat := by
    apply Int32.toInt_inj.mp
    rw [Int32.toInt_ofNat_of_lt (by omega)]
    omega
  rw [e]
  exact h1 ⟨x.toInt.toNat, by omega⟩
theorem own_up (cs : List Int32) (h : ∀ c ∈ cs, ¬ c < 0 ∧ ¬ (255 : Int32) < c) : ∀ c ∈ cs, ¬ c < 0 ∧ ¬ (65535 : Int32) < c := fun c hc => ⟨(h c hc).1, fun q => (h c hc).2 (by rw [Int32.lt_iff_toInt_lt] at q ⊢; have e1 : (65535 : Int32).toInt = 65535 := rfl; have e2 : (255 : Int32).toInt = 255 := rfl; omega)⟩
end Own
theorem own_mk {s : State} {vm1 : Vm} {n : Nat} (hS : s.Since vm1 n) (h : s.vm.MethodsKnown) : vm1.MethodsKnown := Vm.MethodsKnown.alikeC hS.1.alike h
theorem own_fk {s : State} {vm1 : Vm} {n : Nat} {fs : List Frame} (hS : s.Since vm1 n) (h : s.vm.FramesKnown fs) : vm1.FramesKnown fs := Vm.FramesKnown.alikeC hS.1.alike h
theorem own_ths {Z : State} {n0 : Nat} {h : Heap} (O : Old Z n0 h) : ThS Z h := fun st k cl cell _ _ _ q _ => O.2.2 st cell q
theorem own_mem0 {P : Int32 → Prop} : ∀ c ∈ ([] : List Int32), P c := fun _ h => nomatch h
theorem own_memS {P : Int32 → Prop} {x : Int32} {L : List Int32} (h : P x) (r : ∀ c ∈ L, P c) : ∀ c ∈ x :: L, P c := fun c q => by
  rcases List.mem_cons.mp q with rfl | q
  · exact h
  · exact r c q
theorem own_safe_null {Z : State} {EL : List (String × Nat)} {vm : Vm} {h : Heap} {a : Addr} {a0 : Array Value} {n : Nat} (hal : Z.vm.Alike vm) (wi : (Jvm.Cond.instantiable "java/lang/String" n).before a0 Z = true) (E : Exa Z h a "java/lang/String") (F : Fld Z h a "java/lang/String" "value" "[B" .null) : Safe Z EL vm h a := fun B => by
  obtain ⟨cell, k, e1, e2, e3, -, -⟩ := E
  obtain ⟨p, -, u, b, -, q, -, G, rfl | rfl⟩ := B
  · obtain ⟨cS, ⟨⟨s1, -, -, ⟨cv, kv, iv, s4, -⟩, -, -, -, s8, -⟩, -⟩, -⟩ := G
    obtain ⟨c2, cf, k2, i2, f2, g1, g2, -, -, -, -, g7⟩ := F
    obtain ⟨kv', z4⟩ := ff_back (U := Wst Z vm h) hal s4
    cases g2.symm.trans z4
    cases (show h[q.sa]? = some q.sC from s1).symm.trans g1
    rw [s8] at g7
    cases g7
  · have hd : h[q.sd]? = some q.SA := G.hd
    cases hd.symm.trans e1
    obtain ⟨cS, -, -, f, -⟩ := G
    have f' : vm.findClass "[B" = some q.SA.cls := f
    rw [hal.findClass] at f'
    obtain ⟨k1, q1, q2⟩ := Vm.findClass_spec f'
    obtain ⟨k2, q3, q4⟩ := Vm.findClass_spec e2
    cases q1.symm.trans q3
    exact absurd (q2.symm.trans q4) (by decide)
theorem own_ins_keep {Z : State} {h h' : Heap} {a : Addr} {C : String} {ws : List Addr} (F : Ins Z h a C true) (K : Keep h h' ws) : Ins Z h' a C true := by
  obtain ⟨c, cT, h1, h2, h3⟩ := F
  obtain ⟨c', q1, q2, q3, -⟩ := K.2.2 _ _ h1
  exact ⟨c', cT, q1, h2, by rw [q2, q3]; exact h3⟩
abbrev mN0 : MethodName := (⟨"java/lang/String", "<init>", "([CIILjava/lang/Void;)V"⟩ : MethodName)
abbrev mN1 : MethodName := (⟨"java/lang/String", "<init>", "([C)V"⟩ : MethodName)
abbrev mN2 : MethodName := (⟨"java/lang/String", "coder", "()B"⟩ : MethodName)
abbrev mN3 : MethodName := (⟨"java/lang/String", "length", "()I"⟩ : MethodName)
abbrev mN4 : MethodName := (⟨"java/lang/String", "isLatin1", "()Z"⟩ : MethodName)
abbrev mN5 : MethodName := (⟨"jdk/internal/util/Preconditions", "checkIndex", "(IILjava/util/function/BiFunction;)I"⟩ : MethodName)
abbrev mN6 : MethodName := (⟨"java/lang/String", "checkIndex", "(II)V"⟩ : MethodName)
abbrev mN7 : MethodName := (⟨"java/util/Objects", "checkIndex", "(II)I"⟩ : MethodName)
abbrev mN8 : MethodName := (⟨"java/lang/StringLatin1", "charAt", "([BI)C"⟩ : MethodName)
abbrev mN9 : MethodName := (⟨"java/lang/String", "charAt", "(I)C"⟩ : MethodName)
abbrev mN10 : MethodName := (⟨"java/lang/StringLatin1", "canEncode", "(I)Z"⟩ : MethodName)
abbrev mN11 : MethodName := (⟨"java/lang/Math", "max", "(II)I"⟩ : MethodName)
abbrev mN12 : MethodName := (⟨"java/lang/Math", "min", "(II)I"⟩ : MethodName)
abbrev mN13 : MethodName := (⟨"java/lang/StringLatin1", "indexOfChar", "([BIII)I"⟩ : MethodName)
abbrev mN14 : MethodName := (⟨"java/lang/StringLatin1", "indexOf", "([BIII)I"⟩ : MethodName)
abbrev mN15 : MethodName := (⟨"java/lang/String", "indexOf", "(II)I"⟩ : MethodName)
abbrev mN16 : MethodName := (⟨"java/lang/String", "indexOf", "(I)I"⟩ : MethodName)
abbrev mN17 : MethodName := (⟨"jdk/internal/util/Preconditions", "checkFromToIndex", "(IIILjava/util/function/BiFunction;)I"⟩ : MethodName)
abbrev mN18 : MethodName := (⟨"java/lang/String", "checkBoundsBeginEnd", "(III)V"⟩ : MethodName)
abbrev mN19 : MethodName := (⟨"java/util/Arrays", "checkLength", "(II)V"⟩ : MethodName)
abbrev mN20 : MethodName := (⟨"java/util/Arrays", "copyOfRangeByte", "([BII)[B"⟩ : MethodName)
abbrev mN21 : MethodName := (⟨"java/util/Arrays", "copyOfRange", "([BII)[B"⟩ : MethodName)
abbrev mN22 : MethodName := (⟨"java/lang/String", "<init>", "([BB)V"⟩ : MethodName)
abbrev mN23 : MethodName := (⟨"java/lang/StringLatin1", "newString", "([BII)Ljava/lang/String;"⟩ : MethodName)
abbrev mN24 : MethodName := (⟨"java/lang/String", "substring", "(II)Ljava/lang/String;"⟩ : MethodName)
abbrev mN25 : MethodName := (⟨"java/util/AbstractCollection", "<init>", "()V"⟩ : MethodName)
abbrev mN26 : MethodName := (⟨"java/util/AbstractList", "<init>", "()V"⟩ : MethodName)
abbrev mN27 : MethodName := (⟨"java/util/ArrayList", "<init>", "()V"⟩ : MethodName)
abbrev mN28 : MethodName := (⟨"java/util/ArrayList", "grow", "(I)[Ljava/lang/Object;"⟩ : MethodName)
abbrev mN29 : MethodName := (⟨"java/util/ArrayList", "grow", "()[Ljava/lang/Object;"⟩ : MethodName)
abbrev mN30 : MethodName := (⟨"java/util/ArrayList", "add", "(Ljava/lang/Object;[Ljava/lang/Object;I)V"⟩ : MethodName)
abbrev mN31 : MethodName := (⟨"java/util/ArrayList", "add", "(Ljava/lang/Object;)Z"⟩ : MethodName)
abbrev mN32 : MethodName := (⟨"com/example/kindling/kindling/web/PathTemplate", "segments", "(Ljava/lang/String;)Ljava/util/List;"⟩ : MethodName)
abbrev mN33 : MethodName := (⟨"java/util/List", "add", "(Ljava/lang/Object;)Z"⟩ : MethodName)
abbrev mN34 : MethodName := (⟨"java/util/ArrayList", "size", "()I"⟩ : MethodName)
abbrev mN35 : MethodName := (⟨"java/util/ArrayList", "elementData", "(I)Ljava/lang/Object;"⟩ : MethodName)
abbrev mN36 : MethodName := (⟨"java/util/ArrayList", "get", "(I)Ljava/lang/Object;"⟩ : MethodName)
abbrev mN37 : MethodName := (⟨"com/example/kindling/kindling/web/PathTemplateSegmentsPinLaw", "draw", "(I)C"⟩ : MethodName)
abbrev mN38 : MethodName := (⟨"com/example/kindling/kindling/web/PathTemplateSegmentsPinLaw", "make", "([CI)Ljava/lang/String;"⟩ : MethodName)
abbrev mN39 : MethodName := (⟨"com/example/kindling/kindling/web/PathTemplateSegmentsPinLaw", "slash", "([CII)Z"⟩ : MethodName)
abbrev mN40 : MethodName := (⟨"com/example/kindling/kindling/web/PathTemplateSegmentsPinLaw", "count", "([CII)I"⟩ : MethodName)
abbrev mN41 : MethodName := (⟨"com/example/kindling/kindling/web/PathTemplateSegmentsPinLaw", "last", "([CII)I"⟩ : MethodName)
abbrev mN42 : MethodName := (⟨"com/example/kindling/kindling/web/PathTemplateSegmentsPinLaw", "in", "([CIII)I"⟩ : MethodName)
abbrev mN43 : MethodName := (⟨"com/example/kindling/kindling/web/PathTemplateSegmentsPinLaw", "charOk", "(Ljava/util/List;[CII)Z"⟩ : MethodName)
abbrev mN44 : MethodName := (⟨"java/util/List", "size", "()I"⟩ : MethodName)
abbrev mN45 : MethodName := (⟨"java/util/List", "get", "(I)Ljava/lang/Object;"⟩ : MethodName)
abbrev mN46 : MethodName := (⟨"com/example/kindling/kindling/web/PathTemplateSegmentsPinLaw", "lenOk", "(Ljava/util/List;[CII)Z"⟩ : MethodName)
/-- the bytes vs (N of them, coder cd) spell the chars cs -/
def OwnStr (cs : List Int32) (cd N : Int32) (vs : List Value) : Prop := StrChars.Road.CodA cs cd N vs ∧ (∀ c ∈ cs, ¬ c < 0 ∧ ¬ (65535 : Int32) < c) ∧ cs.length ≤ 4000
theorem own_str_lat {cs : List Int32} {n : Nat} (hn : cs.length = n) (l2 : n ≤ 4000) (h : ∀ c ∈ cs, ¬ c < 0 ∧ ¬ (255 : Int32) < c) : OwnStr cs 0 (Int32.ofNat n) ((cs.map (fun c => c.toInt8.toInt32)).map Value.int) := ⟨StrChars.Road.codOf hn (fun x hx => (h x hx).2), own_up _ h, by omega⟩

theorem own_arv0 {s : State} {args : Array Value} {t : Term} {a : Addr} {ty : FieldType} (hf : Fit s) (ev : t.eval args s none [] s = some (.ref a)) (h1 : (Cond.arrayOf t ty).value args s none s [] = some true) (h2 : (Cond.eq (Term.length t) (Term.int (0 : Int32))).value args s none s [] = some true) {d : Value} : ∃ k, Arv s s.heap a k ty (0 : Int32) [] d := by
  obtain ⟨cl, A⟩ := Arr.start ev h1
  have hs : cl.slots.size = 0 := by
    have hp := A.plain
    have h0 : s.arrayAt? a = some cl := by
      obtain ⟨-, k, hk, comp, hkind⟩ := A.2.1
      simp [State.arrayAt?, A.1, hk, hkind, hp, A.2.2]
    simp [Cond.value, Term.eval, ev, h0] at h2
    by_cases hb : cl.slots.size < 2147483648
    · simp only [hb, if_true] at h2
      have h3 : cl.slots.size.toInt32 = 0 := by simpa using h2
      have h4 := congrArg Int32.toInt h3
      rw [show (cl.slots.size.toInt32).toInt = (cl.slots.size : Int) from Int32.toInt_ofNat_of_lt (by omega)] at h4
      have e0 : (0 : Int32).toInt = 0 := rfl
      omega
    · simp [hb] at h2
  exact ⟨_, Arv.start (z := 0) hf A (by omega) (by rw [hs]; rfl) (by decide) rfl trivial⟩
theorem own_fld_null {s : State} {args : Array Value} {t : Term} {a : Addr} {C n d : String} (ev : t.eval args s none [] s = some (.ref a)) (h : (Cond.eq (Term.field t C n d) Term.null).value args s none s [] = some true) : Fld s s.heap a C n d .null := by
  simp [Cond.value, Term.eval, ev] at h
  refine Fld.start ?_
  cases hq : s.fieldOf? a C n d with
  | none => simp [hq] at h
  | some v => cases v <;> simp [hq] at h ⊢

theorem own_l0 {cs : List Int32} {N : Int32} {vs : List Value} (h : OwnStr cs 0 N vs) : N = Int32.ofNat cs.length ∧ vs = (cs.map fun c => Value.int (StrChars.lo8 c)) ∧ ∀ c ∈ cs, ¬ 255 < c := by
  rcases h.1 with ⟨-, a, b, c⟩ | ⟨q, -⟩
  · exact ⟨a, b, c⟩
  · exact absurd q (by decide)
theorem own_l1 {cs : List Int32} {N : Int32} {vs : List Value} (h1 : N = Int32.ofNat cs.length) (h2 : vs = (cs.map fun c => Value.int (StrChars.lo8 c))) (h3 : ∀ c ∈ cs, ¬ 255 < c) (h4 : ∀ c ∈ cs, ¬ c < 0 ∧ ¬ (65535 : Int32) < c) (h5 : cs.length ≤ 4000) : OwnStr cs 0 N vs := ⟨Or.inl ⟨rfl, h1, h2, h3⟩, h4, h5⟩
theorem own_nat {n : Nat} (h : n ≤ 4000) : (Int32.ofNat n).toInt = (n : Int) ∧ ¬ Int32.ofNat n < 0 ∧ (Int32.ofNat n).toNatClampNeg = n := by
  have e : (Int32.ofNat n).toInt = (n : Int) := Int32.toInt_ofNat_of_lt (by omega)
  have e0 : (0 : Int32).toInt = 0 := rfl
  refine ⟨e, ?_, ?_⟩
  · rw [Int32.lt_iff_toInt_lt]; omega
  · simp only [Int32.toNatClampNeg]; omega
theorem own_addN (a b : Nat) : Int32.ofNat a + Int32.ofNat b = Int32.ofNat (a + b) := by
  apply Int32.toBitVec_inj.mp
  apply BitVec.eq_of_toNat_eq
  show ((BitVec.ofNat 32 a) + (BitVec.ofNat 32 b)).toNat = (BitVec.ofNat 32 (a + b)).toNat
  simp [BitVec.toNat_ofNat, BitVec.toNat_add]
theorem own_range {α : Type} (vs : List α) (d : α) (n : Nat) (h : n ≤ vs.length) : vs.take n = (List.range n).map fun i => vs.getD (0 + i) d := by
  apply List.ext_getElem?
  intro i
  by_cases hi : i < n
  · have h2 : i < vs.length := by omega
    simp [List.getElem?_take, hi, List.getD_eq_getElem?_getD, h2]
  · simp [List.getElem?_take, hi]
theorem own_shr0 (c : Int32) : c >>> ((0 : Int32) &&& 31) = c := by
  have e : ((0 : Int32) &&& 31) = 0 := by decide
  rw [e]
  apply Int32.toBitVec_inj.mp
  rw [Int32.toBitVec_shiftRight]
  have e1 : ((0 : Int32).toBitVec.smod 32) = 0#32 := by decide
  rw [e1, BitVec.sshiftRight_eq']
  exact BitVec.sshiftRight_zero

theorem own_nar_w {c : Int32} (h : ¬ c < 0 ∧ ¬ (65535 : Int32) < c) : nar .char c = c := by
  have q := StrChars.narrow_ch h.1 h.2
  injection q
def OwnL (N : Int32) (vs : List Value) (i c : Int32) : Prop := ∃ v : Int32, (¬ i < 0 ∧ i < N) ∧ vs.getD i.toNatClampNeg (.int 0) = .int v ∧ (nar .char (v &&& (255 : Int32))) = c ∧ nar .char c = c
theorem own_rg {cs : List Int32} {N : Int32} {vs : List Value} (h : OwnStr cs 0 N vs) {j : Nat} (hj : j < cs.length) : nar .char (cs.getD j 0) = cs.getD j 0 := by
  have e : cs.getD j 0 = cs[j] := by simp [List.getD_eq_getElem?_getD, hj]
  exact own_nar_w (by rw [e]; exact h.2.1 _ (List.getElem_mem _))
theorem own_chL {cs : List Int32} {N : Int32} {vs : List Value} (h : OwnStr cs 0 N vs) {j : Nat} (hj : j < cs.length) : OwnL N vs (Int32.ofNat j) (cs.getD j 0) := by
  obtain ⟨a1, a2, a3⟩ := own_l0 h
  have h3 := h.2.2
  have e : cs.getD j 0 = cs[j] := by simp [List.getD_eq_getElem?_getD, hj]
  have hr : ¬ cs.getD j 0 < 0 ∧ ¬ (65535 : Int32) < cs.getD j 0 := by rw [e]; exact h.2.1 _ (List.getElem_mem _)
  have hc2 : ¬ 255 < cs.getD j 0 := by rw [e]; exact a3 _ (List.getElem_mem _)
  have ej := own_nat (n := j) (by omega)
  have el := own_nat (n := cs.length) h3
  subst a1 a2
  refine ⟨StrChars.lo8 (cs.getD j 0), ⟨ej.2.1, by rw [Int32.lt_iff_toInt_lt]; omega⟩, ?_, ?_, own_nar_w hr⟩
  · rw [ej.2.2, StrChars.Road.low_at _ cs j hj]
  · rw [StrChars.lo8_mask hr.1 hc2, own_nar_w hr]

def own_seg1 : List Int32 → List (List Int32)
  | [] => [[]]
  | c :: r => if c = 47 then [] :: own_seg1 r else match own_seg1 r with | [] => [[c]] | s :: t => (c :: s) :: t
def own_segs : List Int32 → List (List Int32)
  | [] => []
  | c :: r => if c = 47 then own_seg1 r else own_segs r
def OwnIdx (cs : List Int32) (f : Nat) (r : Int32) : Prop := (r = (-1 : Int32) ∧ ∀ j, f ≤ j → j < cs.length → ¬ cs.getD j 0 = 47) ∨ ∃ j, r = Int32.ofNat j ∧ f ≤ j ∧ j < cs.length ∧ cs.getD j 0 = 47 ∧ ∀ k, f ≤ k → k < j → ¬ cs.getD k 0 = 47
theorem own_s1 : ∀ (L : List Int32), (∀ j, j < L.length → ¬ L.getD j 0 = 47) → own_seg1 L = [L]
  | [], _ => rfl
  | c :: r, h => by
    have h0 : ¬ c = 47 := h 0 (by simp)
    have hr := own_s1 r fun j hj => by have := h (j + 1) (by simpa using hj); simpa using this
    simp [own_seg1, h0, hr]
theorem own_s2 : ∀ (L : List Int32) (j : Nat), j < L.length → L.getD j 0 = 47 → (∀ k, k < j → ¬ L.getD k 0 = 47) → own_seg1 L = L.take j :: own_seg1 (L.drop (j + 1))
  | [], j, h, _, _ => absurd h (Nat.not_lt_zero j)
  | c :: r, 0, _, h, _ => by
    have h0 : c = 47 := h
    simp [own_seg1, h0]
  | c :: r, j + 1, hj, h, hk => by
    have h0 : ¬ c = 47 := hk 0 (by omega)
    have hr := own_s2 r j (by simpa using hj) (by simpa using h) fun k q => by have := hk (k + 1) (by omega); simpa using this
    simp [own_seg1, h0, hr]
theorem own_g1 : ∀ (L : List Int32), (∀ j, j < L.length → ¬ L.getD j 0 = 47) → own_segs L = []
  | [], _ => rfl
  | c :: r, h => by
    have h0 : ¬ c = 47 := h 0 (by simp)
    have hr := own_g1 r fun j hj => by have := h (j + 1) (by simpa using hj); simpa using this
    simp [own_segs, h0, hr]
theorem own_g2 : ∀ (L : List Int32) (j : Nat), j < L.length → L.getD j 0 = 47 → (∀ k, k < j → ¬ L.getD k 0 = 47) → own_segs L = own_seg1 (L.drop (j + 1))
  | [], j, h, _, _ => absurd h (Nat.not_lt_zero j)
  | c :: r, 0, _, h, _ => by
    have h0 : c = 47 := h
    simp [own_segs, h0]
  | c :: r, j + 1, hj, h, hk => by
    have h0 : ¬ c = 47 := hk 0 (by omega)
    have hr := own_g2 r j (by simpa using hj) (by simpa using h) fun k q => by have := hk (k + 1) (by omega); simpa using this
    simp [own_segs, h0, hr]
theorem own_dg (cs : List Int32) (i k : Nat) : (cs.drop i).getD k 0 = cs.getD (i + k) 0 := by simp [List.getD_eq_getElem?_getD, List.getElem?_drop]
theorem own_i1 {cs : List Int32} (h : ∀ j, 0 ≤ j → j < cs.length → ¬ cs.getD j 0 = 47) : own_segs cs = [] := own_g1 cs fun j hj => h j (Nat.zero_le j) hj
theorem own_i2 {cs : List Int32} {j : Nat} (h1 : j < cs.length) (h2 : cs.getD j 0 = 47) (h3 : ∀ k, 0 ≤ k → k < j → ¬ cs.getD k 0 = 47) : own_segs cs = own_seg1 (cs.drop (j + 1)) := own_g2 cs j h1 h2 fun k q => h3 k (Nat.zero_le k) q
theorem own_i3 {cs : List Int32} {i : Nat} (h : ∀ j, i + 1 ≤ j → j < cs.length → ¬ cs.getD j 0 = 47) : own_seg1 (cs.drop (i + 1)) = [(cs.drop (i + 1)).take (cs.length - (i + 1))] := by
  rw [own_s1 _ fun j hj => by rw [own_dg]; rw [List.length_drop] at hj; exact h _ (by omega) (by omega)]
  rw [← List.length_drop, List.take_length]
theorem own_i4 {cs : List Int32} {i j : Nat} (h0 : i + 1 ≤ j) (h1 : j < cs.length) (h2 : cs.getD j 0 = 47) (h3 : ∀ k, i + 1 ≤ k → k < j → ¬ cs.getD k 0 = 47) : own_seg1 (cs.drop (i + 1)) = (cs.drop (i + 1)).take (j - (i + 1)) :: own_seg1 (cs.drop (j + 1)) := by
  have e := own_s2 (cs.drop (i + 1)) (j - (i + 1)) (by rw [List.length_drop]; omega) (by rw [own_dg, show i + 1 + (j - (i + 1)) = j by omega]; exact h2) fun k q => by rw [own_dg]; exact h3 _ (by omega) (by omega)
  rw [e, List.drop_drop, show i + 1 + (j - (i + 1) + 1) = j + 1 by omega]
def oc (n i c k : Int32) : Int32 := if i < n ∧ c = 47 then k + 1 else k
def oi (n i c k j : Int32) : Int32 := if i < n ∧ ¬ c = 47 ∧ k - 1 = j then 1 else 0
def OwnPick (S : List (List Int32)) (s o c : Int32) : Prop := ∃ k j, s = Int32.ofNat k ∧ o = Int32.ofNat j ∧ k < S.length ∧ j < (S.getD k []).length ∧ (S.getD k []).getD j 0 = c
def OwnN (n : Int32) : Prop := n = 0 ∨ n = 1 ∨ n = 2 ∨ n = 3 ∨ n = 4
def oT (n c1 c2 c3 c4 : Int32) : List Int32 := ([c1, c2, c3, c4] : List Int32).take n.toNatClampNeg
theorem own_size {n c1 c2 c3 c4 : Int32} (hn : OwnN n) : Int32.ofNat (own_segs (oT n c1 c2 c3 c4)).length = oc n 3 c4 (oc n 2 c3 (oc n 1 c2 (oc n 0 c1 0))) := by
  rcases hn with rfl | rfl | rfl | rfl | rfl <;> by_cases h1 : c1 = 47 <;> by_cases h2 : c2 = 47 <;> by_cases h3 : c3 = 47 <;> by_cases h4 : c4 = 47 <;> simp [oT, own_segs, own_seg1, oc, h1, h2, h3, h4] <;> decide
theorem own_len0 {n c1 c2 c3 c4 : Int32} {k : Nat} (hn : OwnN n) (h3k : k ≤ 3) (hk : k < (own_segs (oT n c1 c2 c3 c4)).length) :
    Int32.ofNat ((own_segs (oT n c1 c2 c3 c4)).getD k []).length = ((oi n 0 c1 0 (Int32.ofNat k) + oi n 1 c2 (oc n 0 c1 0) (Int32.ofNat k)) + oi n 2 c3 (oc n 1 c2 (oc n 0 c1 0)) (Int32.ofNat k)) + oi n 3 c4 (oc n 2 c3 (oc n 1 c2 (oc n 0 c1 0))) (Int32.ofNat k) := by
  obtain rfl | rfl | rfl | rfl : k = 0 ∨ k = 1 ∨ k = 2 ∨ k = 3 := by omega
  all_goals
    rcases hn with rfl | rfl | rfl | rfl | rfl <;> by_cases h1 : c1 = 47 <;> by_cases h2 : c2 = 47 <;> by_cases h3 : c3 = 47 <;> by_cases h4 : c4 = 47 <;> simp [oT, own_segs, own_seg1, oc, oi, h1, h2, h3, h4] at hk ⊢ <;> decide
theorem own_p1 {n c1 c2 c3 c4 : Int32} (hn : OwnN n) (h : (1 : Int32) < n) (h0 : ¬ c2 = 47) (hc : ¬ oc n 0 c1 0 = 0) :
    OwnPick (own_segs (oT n c1 c2 c3 c4)) (oc n 0 c1 0 - 1) (((1 : Int32) - (if (0 : Int32) < n ∧ c1 = 47 then 0 else (-1))) - 1) c2 := by
  rcases hn with rfl | rfl | rfl | rfl | rfl <;> by_cases h1 : c1 = 47 <;> by_cases h3 : c3 = 47 <;> by_cases h4 : c4 = 47 <;> simp [oc, h1] at h hc <;> simp [OwnPick, oT, own_segs, own_seg1, oc, h0, h1, h3, h4] <;> exact ⟨0, by decide, 0, by decide, by simp⟩
theorem own_p2 {n c1 c2 c3 c4 : Int32} (hn : OwnN n) (h : (2 : Int32) < n) (h0 : ¬ c3 = 47) (hc : ¬ oc n 1 c2 (oc n 0 c1 0) = 0) :
    OwnPick (own_segs (oT n c1 c2 c3 c4)) (oc n 1 c2 (oc n 0 c1 0) - 1) (((2 : Int32) - (if (1 : Int32) < n ∧ c2 = 47 then 1 else (if (0 : Int32) < n ∧ c1 = 47 then 0 else (-1)))) - 1) c3 := by
  rcases hn with rfl | rfl | rfl | rfl | rfl <;> by_cases h1 : c1 = 47 <;> by_cases h2 : c2 = 47 <;> by_cases h4 : c4 = 47 <;> simp [oc, h1, h2] at h hc <;> simp [OwnPick, oT, own_segs, own_seg1, oc, h0, h1, h2, h4] <;> first | exact ⟨0, by decide, 0, by decide, by simp⟩ | exact ⟨0, by decide, 1, by decide, by simp⟩ | exact ⟨1, by decide, 0, by decide, by simp⟩
theorem own_p3 {n c1 c2 c3 c4 : Int32} (hn : OwnN n) (h : (3 : Int32) < n) (h0 : ¬ c4 = 47) (hc : ¬ oc n 2 c3 (oc n 1 c2 (oc n 0 c1 0)) = 0) :
    OwnPick (own_segs (oT n c1 c2 c3 c4)) (oc n 2 c3 (oc n 1 c2 (oc n 0 c1 0)) - 1) (((3 : Int32) - (if (2 : Int32) < n ∧ c3 = 47 then 2 else (if (1 : Int32) < n ∧ c2 = 47 then 1 else (if (0 : Int32) < n ∧ c1 = 47 then 0 else (-1))))) - 1) c4 := by
  rcases hn with rfl | rfl | rfl | rfl | rfl <;> by_cases h1 : c1 = 47 <;> by_cases h2 : c2 = 47 <;> by_cases h3 : c3 = 47 <;> simp [oc, h1, h2, h3] at h hc <;> simp [OwnPick, oT, own_segs, own_seg1, oc, h0, h1, h2, h3] <;> first | exact ⟨0, by decide, 0, by decide, by simp⟩ | exact ⟨0, by decide, 1, by decide, by simp⟩ | exact ⟨0, by decide, 2, by decide, by simp⟩ | exact ⟨1, by decide, 0, by decide, by simp⟩ | exact ⟨1, by decide, 1, by decide, by simp⟩ | exact ⟨2, by decide, 0, by decide, by simp⟩

theorem own_ofN {a b : Nat} (ha : a ≤ 4000) (hb : b ≤ 4000) (h : Int32.ofNat a = Int32.ofNat b) : a = b := by
  have := congrArg Int32.toInt h
  rw [(own_nat ha).1, (own_nat hb).1] at this
  omega
theorem own_irr (x : Int32) : ¬ x < x := by rw [Int32.lt_iff_toInt_lt]; omega
theorem own_ltN {a b : Nat} (ha : a ≤ 4000) (hb : b ≤ 4000) : Int32.ofNat a < Int32.ofNat b ↔ a < b := by
  rw [Int32.lt_iff_toInt_lt, (own_nat ha).1, (own_nat hb).1]; omega
theorem own_add1 (a : Nat) : Int32.ofNat a + (1 : Int32) = Int32.ofNat (a + 1) := own_addN a 1
theorem own_subN {a b : Nat} (h : b ≤ a) : Int32.ofNat a - Int32.ofNat b = Int32.ofNat (a - b) := by
  obtain ⟨d, rfl⟩ : ∃ d, a = b + d := ⟨a - b, by omega⟩
  rw [Nat.add_sub_cancel_left, ← own_addN]
  apply Int32.toBitVec_inj.mp
  apply BitVec.eq_of_toNat_eq
  simp
  omega
theorem own_na {cs : List Int32} {N : Int32} {vs : List Value} (h : OwnStr cs 0 N vs) {j : Nat} (hj : j ≤ 4000) : (Int32.ofNat j < N ↔ j < cs.length) ∧ (N < Int32.ofNat j ↔ cs.length < j) := by
  obtain ⟨a1, -⟩ := own_l0 h
  subst a1
  exact ⟨own_ltN hj h.2.2, own_ltN h.2.2 hj⟩
theorem own_ld {cs : List Int32} {N : Int32} {vs : List Value} (h : OwnStr cs 0 N vs) {j : Nat} (hj : j < cs.length) : (¬ Int32.ofNat j < 0 ∧ Int32.ofNat j < N) ∧ vs.getD (Int32.ofNat j).toNatClampNeg (.int 0) = .int (StrChars.lo8 (cs.getD j 0)) := by
  obtain ⟨a1, a2, a3⟩ := own_l0 h
  have h3 := h.2.2
  have ej := own_nat (n := j) (by omega)
  refine ⟨⟨ej.2.1, (own_na h (by omega)).1.mpr hj⟩, ?_⟩
  rw [ej.2.2, a2, StrChars.Road.low_at _ cs j hj]
theorem own_47 {cs : List Int32} {N : Int32} {vs : List Value} (h : OwnStr cs 0 N vs) {j : Nat} (hj : j < cs.length) : StrChars.lo8 (cs.getD j 0) = (47 : Int32) ↔ cs.getD j 0 = 47 := by
  obtain ⟨a1, a2, a3⟩ := own_l0 h
  have e : cs.getD j 0 = cs[j] := by simp [List.getD_eq_getElem?_getD, hj]
  have hm : cs[j] ∈ cs := List.getElem_mem _
  constructor
  · intro q
    rw [e] at q ⊢
    exact StrChars.lo8_inj (h.2.1 _ hm).1 (a3 _ hm) (by decide) (by decide) (q.trans (by decide))
  · intro q; rw [q]; decide
theorem own_sub {cs : List Int32} {N : Int32} {vs : List Value} (h : OwnStr cs 0 N vs) {b l : Nat} (hb : b + l ≤ cs.length) : OwnStr ((cs.drop b).take l) 0 (Int32.ofNat l) ((vs.drop b).take l) := by
  obtain ⟨a1, a2, a3⟩ := own_l0 h
  have h3 := h.2.2
  have hl : ((cs.drop b).take l).length = l := by rw [List.length_take, List.length_drop]; omega
  refine own_l1 (by rw [hl]) (by rw [a2]; simp [List.map_drop, List.map_take]) (fun c hc => a3 c (List.mem_of_mem_drop (List.mem_of_mem_take hc))) (fun c hc => h.2.1 c (List.mem_of_mem_drop (List.mem_of_mem_take hc))) (by omega)
theorem own_range2 {α : Type} (vs : List α) (d : α) (b n : Nat) (h : b + n ≤ vs.length) : (vs.drop b).take n = (List.range n).map fun i => vs.getD (b + i) d := by
  apply List.ext_getElem?
  intro i
  by_cases hi : i < n
  · have h2 : b + i < vs.length := by omega
    simp [List.getElem?_take, hi, List.getD_eq_getElem?_getD, List.getElem?_drop, h2]
  · simp [List.getElem?_take, hi]
theorem own_cr2 {cs : List Int32} {N : Int32} {vs : List Value} (h : OwnStr cs 0 N vs) {b l : Nat} (hb : b + l ≤ cs.length) :
    ¬ Int32.ofNat b < 0 ∧ ¬ Int32.ofNat l < 0 ∧ (Int32.ofNat b).toNatClampNeg + (Int32.ofNat l).toNatClampNeg ≤ N.toNatClampNeg ∧ (0 : Int32).toNatClampNeg + (Int32.ofNat l).toNatClampNeg ≤ (Int32.ofNat l).toNatClampNeg ∧ ((vs.drop b).take l = (List.range (Int32.ofNat l).toNatClampNeg).map fun i => vs.getD ((Int32.ofNat b).toNatClampNeg + i) (.int 0)) ∧ (0 : Int32).toNatClampNeg + (Int32.ofNat l).toNatClampNeg ≤ ([] ++ List.replicate l (Value.int (0 : Int32))).length ∧
    ([] ++ List.replicate l (Value.int (0 : Int32))).take (0 : Int32).toNatClampNeg ++ (vs.drop b).take l ++ ([] ++ List.replicate l (Value.int (0 : Int32))).drop ((0 : Int32).toNatClampNeg + (Int32.ofNat l).toNatClampNeg) = (vs.drop b).take l := by
  obtain ⟨a1, a2, -⟩ := own_l0 h
  have h3 := h.2.2
  have eb := own_nat (n := b) (by omega)
  have el := own_nat (n := l) (by omega)
  have en := own_nat h3
  have e0 : (0 : Int32).toNatClampNeg = 0 := rfl
  have hv : vs.length = cs.length := by rw [a2]; simp
  subst a1
  rw [e0, eb.2.2, el.2.2, en.2.2]
  refine ⟨eb.2.1, el.2.1, by omega, by omega, own_range2 vs _ b l (by omega), by simp, by simp⟩
def OwnEl (Z : State) (h : Heap) (es : List Value) (k : Nat) (sg : List Int32) : Prop := ∃ (x t : Addr) (kk : ClassId) (N : Int32) (vs : List Value), es.getD k .null = .ref x ∧ Exa Z h x "java/lang/String" ∧ Fld Z h x "java/lang/String" "value" "[B" (.ref t) ∧ Fld Z h x "java/lang/String" "coder" "B" (.int 0) ∧ Arv Z h t kk .byte N vs (.int 0) ∧ OwnStr sg 0 N vs
def OwnSegs (Z : State) (h : Heap) (r : Addr) (S : List (List Int32)) : Prop := ∃ (ed : Addr) (ke : ClassId) (nE : Int32) (es : List Value), Exa Z h r "java/util/ArrayList" ∧ Fld Z h r "java/util/ArrayList" "size" "I" (.int (Int32.ofNat S.length)) ∧ Fld Z h r "java/util/ArrayList" "elementData" "[Ljava/lang/Object;" (.ref ed) ∧ Arv Z h ed ke (.object "java/lang/Object") nE es .null ∧ S.length ≤ 4 ∧ ∀ k, k < S.length → OwnEl Z h es k (S.getD k []) ∧ ¬ Int32.ofNat k < 0 ∧ Int32.ofNat k < nE
theorem ef_si6e (m : MethodId) (x0 : Addr) (x1 : Addr) : entryFrame m #[(.ref x0), (.ref x1), (.int 0), (.int 0), .null] 6 = mkF m 0 #[vR x0, vR x1, vI 0, vI 0, .val .null, vU] [] := by
  first | (simp [entryFrame, mkF, argsToLocals, Value.category]; done) | rfl
def Q_si6e (Z : State) (a1 : Addr) (b1 : Addr) (h0 : Heap) (n0 : Nat) (v : Option Value) (h : Heap) (L : List Loc) : Prop := ∃ (t : Addr), ∃ (k : ClassId), v = none ∧ Fr n0 L ∧ Keep h0 h ([a1] : List Addr) ∧ Exa Z h a1 "java/lang/String" ∧ Fld Z h a1 "java/lang/String" "value" "[B" (.ref t) ∧ Fld Z h a1 "java/lang/String" "coder" "B" (.int 0) ∧ Arv Z h t k .byte (0 : Int32) [] (.int 0)
def OwnCx (Z : State) (a0 : Array Value) (wG1 : Int32) (wG3 : Value) (wG5 : Addr) (wK5 : ClassId) : Prop := (Sta Z Z.heap "java/lang/String" "COMPACT_STRINGS" "Z" (.int wG1)) ∧ (¬ (wG1 = (0 : Int32))) ∧ (Sta Z Z.heap "jdk/internal/util/Preconditions" "SIOOBE_FORMATTER" "Ljava/util/function/BiFunction;" wG3) ∧ (wG3.isRef = true) ∧ (∀ a ∈ Bundle.stringAtoms, a.before a0 Z = true) ∧ (Sta Z Z.heap "java/util/ArrayList" "DEFAULTCAPACITY_EMPTY_ELEMENTDATA" "[Ljava/lang/Object;" (.ref wG5)) ∧ (Arv Z Z.heap wG5 wK5 (.object "java/lang/Object") (0 : Int32) [] .null)
theorem pn_52039224 : plainName "java/lang/String" = true := by first | (simp [plainName, overriddenIn]; done) | decide +kernel
theorem d0_0 : decode jdk_42_method_149_code 0 = .ok (.aload_n 0, 1) := by decide +kernel
theorem d0_1 : decode jdk_42_method_149_code 1 = .ok (.invokespecial 1, 3) := by decide +kernel
theorem d0_4 : decode jdk_42_method_149_code 4 = .ok (.iload_n 3, 1) := by decide +kernel
theorem d0_5 : decode jdk_42_method_149_code 5 = .ok (.ifCond .ne 22, 3) := by decide +kernel
theorem d0_8 : decode jdk_42_method_149_code 8 = .ok (.aload_n 0, 1) := by decide +kernel
theorem d0_9 : decode jdk_42_method_149_code 9 = .ok (.ldc 7, 2) := by decide +kernel
theorem d0_11 : decode jdk_42_method_149_code 11 = .ok (.getfield 9, 3) := by decide +kernel
theorem d0_14 : decode jdk_42_method_149_code 14 = .ok (.putfield 9, 3) := by decide +kernel
theorem d0_17 : decode jdk_42_method_149_code 17 = .ok (.aload_n 0, 1) := by decide +kernel
theorem d0_18 : decode jdk_42_method_149_code 18 = .ok (.ldc 7, 2) := by decide +kernel
theorem d0_20 : decode jdk_42_method_149_code 20 = .ok (.getfield 15, 3) := by decide +kernel
theorem d0_23 : decode jdk_42_method_149_code 23 = .ok (.putfield 15, 3) := by decide +kernel
theorem d0_26 : decode jdk_42_method_149_code 26 = .ok (.return_, 1) := by decide +kernel
set_option maxRecDepth 65536 in
set_option maxHeartbeats 40000000 in
theorem rm_si6e (l : Launch) (Z : State) (a0 : Array Value) (hw : ∀ d ∈ tables_1, d.before a0 Z = true) (ws : List Jvm.Cond) (wG1 : Int32) (wG3 : Value) (wG5 : Addr) (wK5 : ClassId) (cx : OwnCx Z a0 wG1 wG3 wG5 wK5) (hEL : EW Z a0 consts_1) (h0 : Heap) (n0 : Nat) (X00 : Old Z n0 h0) (a1 : Addr) (b1 : Addr) (f0 : Exa Z h0 a1 "java/lang/String") (f1 : Fld Z h0 a1 "java/lang/String" "value" "[B" .null) (f2 : Fld Z h0 a1 "java/lang/String" "coder" "B" (.int 0)) (f3 : n0 ≤ a1) :
    MetFree l mN0 (head1 (Jvm.Cond.code mN0 jdk_42_method_149_code 6 none :: ws) (oR 1 4 8 12)) (fun a U => a = #[(.ref a1), (.ref b1), (.int 0), (.int 0), .null] ∧ Z.Warmed39 U.vm ∧ U.heap = h0 ∧ CHv Z consts_1 U.vm h0) (fun _ _ _ _ _ => True) (fun _ U o U' => ∃ v L, o = .returned v ∧ Q_si6e Z a1 b1 h0 n0 v U'.heap L ∧ CHr Z consts_1 U.vm U.heap U'.vm U'.heap ∧ ReturnedEndW U o U' L (oR 1 4 8 12).cells (oR 1 4 8 12).slots) := by
  refine MetFree.of_bodySF (plainFor_of_name pn_52039224) hisR ?_
  intro p e s m args below meth c s₁ Bd hml0 hP hK
  obtain ⟨rfl, hZ, hh, hH⟩ := hP
  obtain ⟨wO2, wP5, wO4, wrG3, hstr, wO5, wV5⟩ := id cx
  have hx := Bd.exec
  have hby := Bd.bytes
  have hlk := Bd.notSynchronized
  have hml : c.maxLocals = 6 := hml0
  have hown : s.vm.findClass "java/lang/String" = some m.cls := findClass_of_methodNamed Bd.named
  have hnm := (name_of_methodNamed Bd.named Bd.method).1
  have X0 : Stand p l e (oR 1 4 8 12) (s.setVm s.vm) m #[(.ref a1), (.ref b1), (.int 0), (.int 0), .null] below meth c s₁ [] 0 0 := Stand.of_body Bd
  have e0 : s₁.heap = h0 := by rw [← hh, Bd.state]; rfl
  have N0 := Fr.nil n0
  have Z0 : n0 ≤ h0.size := X00.1 ▸ X00.2.1
  have K0 : Keep h0 h0 ([a1] : List Addr) := Keep.refl _ _
  have R0 : CHr Z consts_1 s.vm h0 s.vm h0 := CHr.refl hH
  have hS0 : s.Since s.vm h0.size := State.WarmedH.since (State.WarmedH.refl s) _
  have hk0 : h0.size ≤ h0.size := Nat.le_refl _
  have Sf0_a1 : Safe Z consts_1 s.vm h0 a1 := (own_safe_null (vm := s.vm) hZ.alike (own_w hw 10 rfl) f0 f1)
  show OwnGoes p e below _ s₁ (entryFrame m _ _)
  refine og s₁ m 0 #[vR a1, vR b1, vI 0, vI 0, .val .null, vU] [] (fun tgt kgo => castTop (ef_si6e m a1 b1) kgo) ?_
  refine og s₁ m 1 #[vR a1, vR b1, vI 0, vI 0, .val .null, vU] [(.ref a1)] (fun tgt kgo => ?_) ?_
  · refine XS.aloadN X0.here hx rfl (hb hby d0_0) rfl rfl ?_
    exact kgo
  obtain ⟨T1, X1, e1, st1⟩ := initO X0 hx hZ hown (own_w hw 19 rfl) (own_w hw 20 rfl) (own_w hw 21 rfl) e0 (g := (mkF m 1 #[vR a1, vR b1, vI 0, vI 0, .val .null, vU] [(.ref a1)])) rfl (by rw [hml]; rfl) rfl (hb hby d0_1) (by decide) (W := 0) (Nat.le_of_eq rfl) (by decide)
  refine og T1 m 4 #[vR a1, vR b1, vI 0, vI 0, .val .null, vU] [] st1 ?_
  refine og T1 m 9 #[vR a1, vR b1, vI 0, vI 0, .val .null, vU] [(.ref a1)] (fun tgt kgo => ?_) ?_
  · refine XS.iloadN X1.here hx rfl (hb hby d0_4) rfl ?_
    refine XS.ifNo X1.here hx rfl (hb hby d0_5) rfl ((if0 _ _).trans (teq (by decide : (0 : Int32) = (0 : Int32))).2) ?_
    refine XS.aloadN X1.here hx rfl (hb hby d0_8) rfl rfl ?_
    exact kgo
  obtain ⟨b2, T2, h2, kk2, t2, k2, X2, e2, E2, hS2, hk2, hZ2, ho2, A2, Fc2, Fv2, V2, lt2, lu2, Rc2, Lt2, ns2, st2⟩ := ldcCH X1 hx hZ hown (own_w hw 22 rfl) hstr e1 hS0 hk0 hEL (by decide) R0.1 (vs := []) (z := (0 : Int32)) (by decide +kernel) (by decide) (by decide +kernel) (g := (mkF m 9 #[vR a1, vR b1, vI 0, vI 0, .val .null, vU] [(.ref a1)])) rfl (hb hby d0_9) (n := 0) (by decide) (by decide) (by decide) (by decide)
  refine og T2 m 11 #[vR a1, vR b1, vI 0, vI 0, .val .null, vU] [(.ref b2), (.ref a1)] st2 ?_
  have F2_1 := f0.ext E2
  have F2_2 := f1.ext E2
  have F2_3 := f2.ext E2
  have F2_4 := Rc2.safe f0.lt Sf0_a1
  have Ol2 := X00.ext E2
  have K2 : Keep h0 h2 ([a1] : List Addr) := K0.ext E2
  have R2 := R0.trans Rc2
  have nl2_a1 := ns2 _ F2_4
  obtain ⟨T3, X3, e3, st3⟩ := getF X2 hx hZ2 ho2 (host := "") (Or.inl (own_w hw 28 rfl)) Via.refl e2 Fv2 (g := (mkF m 11 #[vR a1, vR b1, vI 0, vI 0, .val .null, vU] [(.ref b2), (.ref a1)])) rfl rfl (hb hby d0_11)
  refine og T3 m 14 #[vR a1, vR b1, vI 0, vI 0, .val .null, vU] [(.ref t2), (.ref a1)] st3 ?_
  obtain ⟨T4, h4, X4, e4, W4, st4⟩ := putF X3 hx hZ2 ho2 (host := "") (Or.inl (own_w hw 28 rfl)) Via.refl e3 F2_2 F2_1 (Or.inr ⟨(own_w hw 24 rfl), rfl, hnm⟩) (own_w hw 10 rfl) (ty := (.array .byte)) (by decide) rfl rfl (g := (mkF m 14 #[vR a1, vR b1, vI 0, vI 0, .val .null, vU] [(.ref t2), (.ref a1)])) rfl rfl (hb hby d0_14)
  refine og T4 m 17 #[vR a1, vR b1, vI 0, vI 0, .val .null, vU] [] st4 ?_
  have Fw4 := F2_2.same W4
  have F4_5 := F2_1.wr W4
  have F4_6 := F2_3.other W4 (Or.inr (slot_ne (Or.inr (own_w hw 25 rfl)) (Or.inr (own_w hw 24 rfl)) (by decide) (t := .byte) (t' := (.array .byte)) (by decide) (by decide)))
  have F4_7 := Safe.wr W4 F2_4 R2.1 F2_4
  have F4_8 := A2.wr W4
  have F4_9 := Fc2.other W4 (Or.inl (Ne.symm nl2_a1.1))
  have F4_10 := Fv2.other W4 (Or.inl (Ne.symm nl2_a1.1))
  have F4_11 := V2.other W4 (Ne.symm nl2_a1.2)
  have Ol4 := Ol2.wr W4 f3
  have K4 : Keep h0 h4 ([a1] : List Addr) := K2.wr W4 (Or.inl (List.mem_of_getElem? (i := 0) rfl))
  have R4 := R2.trans (CHr.wr W4 F2_4 R2.1)
  have hk4 := Nat.le_trans hk2 (Keep.of_wr W4).1
  have N4 := Fr.snoc X4 N0 f3
  refine og T4 m 18 #[vR a1, vR b1, vI 0, vI 0, .val .null, vU] [(.ref a1)] (fun tgt kgo => ?_) ?_
  · refine XS.aloadN X4.here hx rfl (hb hby d0_17) rfl rfl ?_
    exact kgo
  obtain ⟨b5, T5, h5, kk5, t5, k5, X5, e5, E5, hS5, hk5, hZ5, ho5, A5, Fc5, Fv5, V5, lt5, lu5, Rc5, Lt5, ns5, st5⟩ := ldcCH X4 hx hZ2 ho2 (own_w hw 22 rfl) hstr e4 hS2 hk4 hEL (by decide) R4.1 (vs := []) (z := (0 : Int32)) (by decide +kernel) (by decide) (by decide +kernel) (g := (mkF m 18 #[vR a1, vR b1, vI 0, vI 0, .val .null, vU] [(.ref a1)])) rfl (hb hby d0_18) (n := 0) (by decide) (by decide) (by decide) (by decide)
  refine og T5 m 20 #[vR a1, vR b1, vI 0, vI 0, .val .null, vU] [(.ref b5), (.ref a1)] st5 ?_
  have F5_12 := F4_5.ext E5
  have F5_13 := Fw4.ext E5
  have F5_14 := F4_6.ext E5
  have F5_15 := Rc5.safe F4_5.lt F4_7
  have F5_16 := F4_8.ext E5
  have F5_17 := F4_9.ext E5
  have F5_18 := F4_10.ext E5
  have F5_19 := F4_11.ext E5
  have Ol5 := Ol4.ext E5
  have K5 : Keep h0 h5 ([a1] : List Addr) := K4.ext E5
  have R5 := R4.trans Rc5
  have nl5_a1 := ns5 _ F5_15
  obtain ⟨T6, X6, e6, st6⟩ := getF X5 hx hZ5 ho5 (host := "") (Or.inl (own_w hw 29 rfl)) Via.refl e5 Fc5 (g := (mkF m 20 #[vR a1, vR b1, vI 0, vI 0, .val .null, vU] [(.ref b5), (.ref a1)])) rfl rfl (hb hby d0_20)
  refine og T6 m 23 #[vR a1, vR b1, vI 0, vI 0, .val .null, vU] [(.int 0), (.ref a1)] st6 ?_
  obtain ⟨T7, h7, X7, e7, W7, st7⟩ := putFN X6 hx hZ5 ho5 (own_w hw 29 rfl) Via.refl e6 F5_14 F5_12 (Or.inr ⟨(own_w hw 25 rfl), rfl, hnm⟩) (own_w hw 10 rfl) (ty := .byte) (v' := (.int (nar .byte (0 : Int32)))) (by decide) rfl (fits_nar_byte _) (g := (mkF m 23 #[vR a1, vR b1, vI 0, vI 0, .val .null, vU] [(.int 0), (.ref a1)])) rfl rfl (hb hby d0_23)
  refine og T7 m 26 #[vR a1, vR b1, vI 0, vI 0, .val .null, vU] [] st7 ?_
  have Fw7 := F5_14.same W7
  rw [(by decide : nar .byte (0 : Int32) = (0 : Int32))] at Fw7
  have F7_20 := F5_12.wr W7
  have F7_21 := F5_13.other W7 (Or.inr (slot_ne (Or.inr (own_w hw 24 rfl)) (Or.inr (own_w hw 25 rfl)) (by decide) (t := (.array .byte)) (t' := .byte) (by decide) (by decide)))
  have F7_22 := Safe.wr W7 F5_15 R5.1 F5_15
  have F7_23 := F5_16.wr W7
  have F7_24 := F5_17.other W7 (Or.inl (Ne.symm nl2_a1.1))
  have F7_25 := F5_18.other W7 (Or.inl (Ne.symm nl2_a1.1))
  have F7_26 := F5_19.other W7 (Ne.symm nl2_a1.2)
  have F7_27 := A5.wr W7
  have F7_28 := Fc5.other W7 (Or.inl (Ne.symm nl5_a1.1))
  have F7_29 := Fv5.other W7 (Or.inl (Ne.symm nl5_a1.1))
  have F7_30 := V5.other W7 (Ne.symm nl5_a1.2)
  have Ol7 := Ol5.wr W7 f3
  have K7 : Keep h0 h7 ([a1] : List Addr) := K5.wr W7 (Or.inl (List.mem_of_getElem? (i := 0) rfl))
  have R7 := R5.trans (CHr.wr W7 F5_15 R5.1)
  have hk7 := Nat.le_trans hk5 (Keep.of_wr W7).1
  have N7 := Fr.snoc X7 N4 f3
  refine own_leaveW (Z := Z) (EL := consts_1) X7 hS5 (e7 ▸ hk7) hlk (v := none) (fun _ => rfl) (fun fs hr => X7.returnOut hx Bd.returns (hb hby d0_26) hr) (by decide) (by decide) ?_ ?_
  · rw [hh, e7]
    exact R7.trans (CHv.at X7 hZ5 hEL R7.1)
  show Q_si6e Z a1 b1 h0 n0 _ T7.heap _
  rw [e7]
  exact ⟨t2, k2, rfl, N7, K7, F7_20, F7_21, Fw7, F7_26⟩
theorem ef_si2e (m : MethodId) (x0 : Addr) (x1 : Addr) : entryFrame m #[(.ref x0), (.ref x1)] 2 = mkF m 0 #[vR x0, vR x1] [] := by
  first | (simp [entryFrame, mkF, argsToLocals, Value.category]; done) | rfl
def Q_si2e (Z : State) (a1 : Addr) (b1 : Addr) (kc : ClassId) (h0 : Heap) (n0 : Nat) (v : Option Value) (h : Heap) (L : List Loc) : Prop := ∃ (t : Addr), ∃ (k : ClassId), v = none ∧ Fr n0 L ∧ Keep h0 h ([a1] : List Addr) ∧ Exa Z h a1 "java/lang/String" ∧ Fld Z h a1 "java/lang/String" "value" "[B" (.ref t) ∧ Fld Z h a1 "java/lang/String" "coder" "B" (.int 0) ∧ Arv Z h t k .byte (0 : Int32) [] (.int 0)
theorem d1_0 : decode jdk_42_method_3_code 0 = .ok (.aload_n 0, 1) := by decide +kernel
theorem d1_1 : decode jdk_42_method_3_code 1 = .ok (.aload_n 1, 1) := by decide +kernel
theorem d1_2 : decode jdk_42_method_3_code 2 = .ok (.iconst 0, 1) := by decide +kernel
theorem d1_3 : decode jdk_42_method_3_code 3 = .ok (.aload_n 1, 1) := by decide +kernel
theorem d1_4 : decode jdk_42_method_3_code 4 = .ok (.arraylength, 1) := by decide +kernel
theorem d1_5 : decode jdk_42_method_3_code 5 = .ok (.aconst_null, 1) := by decide +kernel
theorem d1_6 : decode jdk_42_method_3_code 6 = .ok (.invokespecial 27, 3) := by decide +kernel
theorem pd_10261703 : parseMethodDescriptor "([CIILjava/lang/Void;)V" = some ⟨[(.array .char), .int, .int, (.object "java/lang/Void")], none⟩ := by decide +kernel
theorem d1_9 : decode jdk_42_method_3_code 9 = .ok (.return_, 1) := by decide +kernel
set_option maxRecDepth 65536 in
set_option maxHeartbeats 40000000 in
theorem rm_si2e (l : Launch) (Z : State) (a0 : Array Value) (hw : ∀ d ∈ tables_1, d.before a0 Z = true) (ws : List Jvm.Cond) (wG1 : Int32) (wG3 : Value) (wG5 : Addr) (wK5 : ClassId) (cx : OwnCx Z a0 wG1 wG3 wG5 wK5) (hEL : EW Z a0 consts_1) (h0 : Heap) (n0 : Nat) (X00 : Old Z n0 h0) (a1 : Addr) (b1 : Addr) (kc : ClassId) (f0 : Exa Z h0 a1 "java/lang/String") (f1 : Fld Z h0 a1 "java/lang/String" "value" "[B" .null) (f2 : Fld Z h0 a1 "java/lang/String" "coder" "B" (.int 0)) (f3 : n0 ≤ a1) (f4 : Arv Z h0 b1 kc .char (0 : Int32) [] (.int 0)) :
    MetFree l mN1 (head1 (Jvm.Cond.code mN1 jdk_42_method_3_code 2 none :: ws) (oR 2 4 8 29)) (fun a U => a = #[(.ref a1), (.ref b1)] ∧ Z.Warmed39 U.vm ∧ U.heap = h0 ∧ CHv Z consts_1 U.vm h0) (fun _ _ _ _ _ => True) (fun _ U o U' => ∃ v L, o = .returned v ∧ Q_si2e Z a1 b1 kc h0 n0 v U'.heap L ∧ CHr Z consts_1 U.vm U.heap U'.vm U'.heap ∧ ReturnedEndW U o U' L (oR 2 4 8 29).cells (oR 2 4 8 29).slots) := by
  refine MetFree.of_bodySF (plainFor_of_name pn_52039224) hisR ?_
  intro p e s m args below meth c s₁ Bd hml0 hP hK
  obtain ⟨rfl, hZ, hh, hH⟩ := hP
  obtain ⟨wO2, wP5, wO4, wrG3, hstr, wO5, wV5⟩ := id cx
  have hx := Bd.exec
  have hby := Bd.bytes
  have hlk := Bd.notSynchronized
  have hml : c.maxLocals = 2 := hml0
  have hown : s.vm.findClass "java/lang/String" = some m.cls := findClass_of_methodNamed Bd.named
  have hnm := (name_of_methodNamed Bd.named Bd.method).1
  have X0 : Stand p l e (oR 2 4 8 29) (s.setVm s.vm) m #[(.ref a1), (.ref b1)] below meth c s₁ [] 0 0 := Stand.of_body Bd
  have e0 : s₁.heap = h0 := by rw [← hh, Bd.state]; rfl
  have N0 := Fr.nil n0
  have Z0 : n0 ≤ h0.size := X00.1 ▸ X00.2.1
  have K0 : Keep h0 h0 ([a1] : List Addr) := Keep.refl _ _
  have R0 : CHr Z consts_1 s.vm h0 s.vm h0 := CHr.refl hH
  have hS0 : s.Since s.vm h0.size := State.WarmedH.since (State.WarmedH.refl s) _
  have hk0 : h0.size ≤ h0.size := Nat.le_refl _
  have Sf0_a1 : Safe Z consts_1 s.vm h0 a1 := (own_safe_null (vm := s.vm) hZ.alike (own_w hw 10 rfl) f0 f1)
  show OwnGoes p e below _ s₁ (entryFrame m _ _)
  refine og s₁ m 0 #[vR a1, vR b1] [] (fun tgt kgo => castTop (ef_si2e m a1 b1) kgo) ?_
  refine og s₁ m 6 #[vR a1, vR b1] [.null, (.int 0), (.int 0), (.ref b1), (.ref a1)] (fun tgt kgo => ?_) ?_
  · refine XS.aloadN X0.here hx rfl (hb hby d1_0) rfl rfl ?_
    refine XS.aloadN X0.here hx rfl (hb hby d1_1) rfl rfl ?_
    refine XS.iconst X0.here hx rfl (hb hby d1_2) ?_
    show OwnG p e below s₁ m 3 #[vR a1, vR b1] [(.int 0), (.ref b1), (.ref a1)] tgt
    refine XS.aloadN X0.here hx rfl (hb hby d1_3) rfl rfl ?_
    show OwnG p e below s₁ m 4 #[vR a1, vR b1] [(.ref b1), (.int 0), (.ref b1), (.ref a1)] tgt
    obtain ⟨cl1, Ar1, q1, S1, M1, -, -⟩ := f4
    refine X0.arraylength hx (by rw [e0]; exact Ar1.1) (State.isArrayOf_alike hZ.alike Ar1.2.1) (g := (mkF m 4 #[vR a1, vR b1] [(.ref b1), (.int 0), (.ref b1), (.ref a1)])) rfl rfl (hb hby d1_4) _ ?_
    rw [len_of S1 M1]
    refine XS.aconstNull X0.here hx rfl (hb hby d1_5) ?_
    exact kgo
  obtain ⟨_, _, ⟨T2, L2, k2, n2⟩, -, X2, Si2, Gr2, ⟨Lc2, hQ2, l2, y2, z2, Rc2⟩, st2⟩ := X0.specialBackS hx (y := mN0) rfl hown (mvT hZ (own_w hw 15 rfl)) (mvT hZ (own_w hw 16 rfl)) (mvT hZ (own_w hw 18 rfl)) (by decide) (backOfSH (W := 0) (rm_si6e l Z a0 hw [] wG1 wG3 wG5 wK5 cx hEL h0 n0 X00 a1 b1 f0 f1 f2 f3) hZ (own_w hw 18 rfl) (own_w hw 11 rfl) (by decide) (by decide) hEL R0.1) (g := (mkF m 6 #[vR a1, vR b1] [.null, (.int 0), (.int 0), (.ref b1), (.ref a1)])) rfl (by rw [hml]; rfl) (Steps.refl _) (a := a1) (argsL := [(.ref b1), (.int 0), (.int 0), .null]) (rest := []) (lenOf pd_10261703 rfl) rfl (Nat.le_of_eq rfl) (hb hby d1_6) (fun _ _ => ⟨rfl, e0, (by decide : 0 + 4 ≤ _), (by decide : 0 + 8 ≤ _)⟩)
  dsimp only [Pt.U, Pt.locs, Pt.cells, Pt.slots] at X2 l2 y2 z2 st2 hQ2 Si2 Gr2 Rc2
  subst l2 y2 z2
  obtain ⟨t_2, k_2, rfl, Nq2, Kq2, fq2_0, fq2_1, fq2_2, fq2_3⟩ := hQ2
  refine OwnGoes.tr (T' := T2) (g' := (mkF m 9 #[vR a1, vR b1] [])) st2 ?_
  have N2 := Fr.app N0 Nq2
  have gz2 : h0.size ≤ T2.heap.size := Rc2.2.1
  obtain ⟨X2, hS2, hZ2, ho2⟩ := rebS hS0 hk0 X2 Si2 gz2 hZ hown
  have F2_1 := f0.keep Kq2
  have F2_2 := f4.keep Kq2 (ninS (Ne.symm (Exa.neArv f0 f4 (own_w hw 10 rfl))) nin0)
  have F2_3 := Rc2.safe f0.lt Sf0_a1
  have Ol2 := X00.keep Kq2 (allS f3 all0)
  have K2 : Keep h0 T2.heap ([a1] : List Addr) := K0.trans Kq2 (allS (Or.inl (List.mem_of_getElem? (i := 0) rfl)) all0)
  have R2 := R0.trans Rc2
  refine own_leaveW (Z := Z) (EL := consts_1) X2 hS2 (Nat.le_refl _) hlk (v := none) (fun _ => rfl) (fun fs hr => X2.returnOut hx Bd.returns (hb hby d1_9) hr) (by decide) (by decide) ?_ ?_
  · rw [hh]
    exact R2.trans (CHv.at X2 hZ2 hEL R2.1)
  show Q_si2e Z a1 b1 kc h0 n0 _ T2.heap _
  exact ⟨t_2, k_2, rfl, N2, K2, fq2_0, fq2_1, fq2_2, fq2_3⟩
theorem ef_coder0 (m : MethodId) (x0 : Addr) : entryFrame m #[(.ref x0)] 1 = mkF m 0 #[vR x0] [] := by
  first | (simp [entryFrame, mkF, argsToLocals, Value.category]; done) | rfl
def Q_coder0 (Z : State) (a1 : Addr) (h0 : Heap) (n0 : Nat) (v : Option Value) (h : Heap) (L : List Loc) : Prop := v = some (.int 0) ∧ Fr n0 L ∧ h = h0
theorem d2_0 : decode jdk_42_method_152_code 0 = .ok (.getstatic 38, 3) := by decide +kernel
theorem d2_3 : decode jdk_42_method_152_code 3 = .ok (.ifCond .eq 10, 3) := by decide +kernel
theorem d2_6 : decode jdk_42_method_152_code 6 = .ok (.aload_n 0, 1) := by decide +kernel
theorem d2_7 : decode jdk_42_method_152_code 7 = .ok (.getfield 15, 3) := by decide +kernel
theorem d2_10 : decode jdk_42_method_152_code 10 = .ok (.goto 4, 3) := by decide +kernel
theorem d2_14 : decode jdk_42_method_152_code 14 = .ok (.ireturn, 1) := by decide +kernel
set_option maxRecDepth 65536 in
set_option maxHeartbeats 40000000 in
theorem rm_coder0 (l : Launch) (Z : State) (a0 : Array Value) (hw : ∀ d ∈ tables_1, d.before a0 Z = true) (ws : List Jvm.Cond) (wG1 : Int32) (wG3 : Value) (wG5 : Addr) (wK5 : ClassId) (cx : OwnCx Z a0 wG1 wG3 wG5 wK5) (hEL : EW Z a0 consts_1) (h0 : Heap) (n0 : Nat) (X00 : Old Z n0 h0) (a1 : Addr) (f0 : Exa Z h0 a1 "java/lang/String") (f1 : Fld Z h0 a1 "java/lang/String" "coder" "B" (.int 0)) :
    MetFree l mN2 (head1 (Jvm.Cond.code mN2 jdk_42_method_152_code 1 (some .byte) :: ws) (oR 0 0 0 0)) (fun a U => a = #[(.ref a1)] ∧ Z.Warmed39 U.vm ∧ U.heap = h0) (fun _ _ _ _ _ => True) (fun _ U o U' => ∃ v L, o = .returned v ∧ Q_coder0 Z a1 h0 n0 v U'.heap L ∧ FrameEnd U o U' L (oR 0 0 0 0).cells (oR 0 0 0 0).slots) := by
  refine MetFree.of_bodySF (plainFor_of_name pn_52039224) hisR ?_
  intro p e s m args below meth c s₁ Bd hml0 hP hK
  obtain ⟨rfl, hZ, hh⟩ := hP
  obtain ⟨wO2, wP5, wO4, wrG3, hstr, wO5, wV5⟩ := id cx
  have hx := Bd.exec
  have hby := Bd.bytes
  have hlk := Bd.notSynchronized
  have hml : c.maxLocals = 1 := hml0
  have hown : s.vm.findClass "java/lang/String" = some m.cls := findClass_of_methodNamed Bd.named
  have hnm := (name_of_methodNamed Bd.named Bd.method).1
  have X0 : Stand p l e (oR 0 0 0 0) s m #[(.ref a1)] below meth c s₁ [] 0 0 := Stand.of_body Bd
  have e0 : s₁.heap = h0 := by rw [← hh, Bd.state]; rfl
  have N0 := Fr.nil n0
  have Z0 : n0 ≤ h0.size := X00.1 ▸ X00.2.1
  have K0 : Keep h0 h0 ([] : List Addr) := Keep.refl _ _
  show OwnGoes p e below _ s₁ (entryFrame m _ _)
  refine og s₁ m 0 #[vR a1] [] (fun tgt kgo => castTop (ef_coder0 m a1) kgo) ?_
  obtain ⟨T1, X1, e1, st1⟩ := getS2 X0 hx hZ hown (host := "") (Or.inl (own_w hw 73 rfl)) Via.refl e0 (wO2.ext X00.2) (g := (mkF m 0 #[vR a1] [])) rfl (hb hby d2_0)
  refine og T1 m 3 #[vR a1] [(.int wG1)] st1 ?_
  refine og T1 m 7 #[vR a1] [(.ref a1)] (fun tgt kgo => ?_) ?_
  · refine XS.ifNo X1.here hx rfl (hb hby d2_3) rfl ((if0 _ _).trans (feq wP5).1) ?_
    refine XS.aloadN X1.here hx rfl (hb hby d2_6) rfl rfl ?_
    exact kgo
  obtain ⟨T2, X2, e2, st2⟩ := getF X1 hx hZ hown (host := "") (Or.inl (own_w hw 29 rfl)) Via.refl e1 f1 (g := (mkF m 7 #[vR a1] [(.ref a1)])) rfl rfl (hb hby d2_7)
  refine og T2 m 10 #[vR a1] [(.int 0)] st2 ?_
  refine og T2 m 14 #[vR a1] [(.int 0)] (fun tgt kgo => ?_) ?_
  · refine XS.goto X2.here hx rfl (pc0 := 10) (pc' := 14) rfl (hb hby d2_10) (by decide) (by decide) ?_
    exact kgo
  refine own_leave X2 hlk (v := some (.int 0)) (fun h => by rw [Bd.returns] at h; cases h) (fun fs hr => retN X2 hx (t := .byte) Bd.returns (by simp) (hb hby d2_14) (by rw [(by decide : nar .byte (0 : Int32) = (0 : Int32))]; exact hr)) (by decide) (by decide) ?_
  show Q_coder0 Z a1 h0 n0 _ T2.heap _
  rw [e2]
  exact ⟨rfl, N0, rfl⟩
theorem ef_len (m : MethodId) (x0 : Addr) : entryFrame m #[(.ref x0)] 1 = mkF m 0 #[vR x0] [] := by
  first | (simp [entryFrame, mkF, argsToLocals, Value.category]; done) | rfl
def Q_len (Z : State) (a1 : Addr) (ta : Addr) (ka : ClassId) (na : Int32) (vsa : List Value) (h0 : Heap) (n0 : Nat) (v : Option Value) (h : Heap) (L : List Loc) : Prop := v = some (.int na) ∧ Fr n0 L ∧ h = h0
theorem d3_0 : decode jdk_42_method_54_code 0 = .ok (.aload_n 0, 1) := by decide +kernel
theorem d3_1 : decode jdk_42_method_54_code 1 = .ok (.getfield 9, 3) := by decide +kernel
theorem d3_4 : decode jdk_42_method_54_code 4 = .ok (.arraylength, 1) := by decide +kernel
theorem d3_5 : decode jdk_42_method_54_code 5 = .ok (.aload_n 0, 1) := by decide +kernel
theorem d3_6 : decode jdk_42_method_54_code 6 = .ok (.invokevirtual 335, 3) := by decide +kernel
theorem pd_61459997 : parseMethodDescriptor "()B" = some ⟨[], some .byte⟩ := by decide +kernel
theorem d3_9 : decode jdk_42_method_54_code 9 = .ok (.ishr, 1) := by decide +kernel
theorem d3_10 : decode jdk_42_method_54_code 10 = .ok (.ireturn, 1) := by decide +kernel
set_option maxRecDepth 65536 in
set_option maxHeartbeats 40000000 in
theorem rm_len (l : Launch) (Z : State) (a0 : Array Value) (hw : ∀ d ∈ tables_1, d.before a0 Z = true) (ws : List Jvm.Cond) (wG1 : Int32) (wG3 : Value) (wG5 : Addr) (wK5 : ClassId) (cx : OwnCx Z a0 wG1 wG3 wG5 wK5) (hEL : EW Z a0 consts_1) (h0 : Heap) (n0 : Nat) (X00 : Old Z n0 h0) (a1 : Addr) (ta : Addr) (ka : ClassId) (na : Int32) (vsa : List Value) (f0 : Exa Z h0 a1 "java/lang/String") (f1 : Fld Z h0 a1 "java/lang/String" "value" "[B" (.ref ta)) (f2 : Fld Z h0 a1 "java/lang/String" "coder" "B" (.int 0)) (f3 : Arv Z h0 ta ka .byte na vsa (.int 0)) :
    MetFree l mN3 (head1 (Jvm.Cond.code mN3 jdk_42_method_54_code 1 (some .int) :: ws) (oR 1 0 0 13)) (fun a U => a = #[(.ref a1)] ∧ Z.Warmed39 U.vm ∧ U.heap = h0) (fun _ _ _ _ _ => True) (fun _ U o U' => ∃ v L, o = .returned v ∧ Q_len Z a1 ta ka na vsa h0 n0 v U'.heap L ∧ FrameEnd U o U' L (oR 1 0 0 13).cells (oR 1 0 0 13).slots) := by
  refine MetFree.of_bodySF (plainFor_of_name pn_52039224) hisR ?_
  intro p e s m args below meth c s₁ Bd hml0 hP hK
  obtain ⟨rfl, hZ, hh⟩ := hP
  obtain ⟨wO2, wP5, wO4, wrG3, hstr, wO5, wV5⟩ := id cx
  have hx := Bd.exec
  have hby := Bd.bytes
  have hlk := Bd.notSynchronized
  have hml : c.maxLocals = 1 := hml0
  have hown : s.vm.findClass "java/lang/String" = some m.cls := findClass_of_methodNamed Bd.named
  have hnm := (name_of_methodNamed Bd.named Bd.method).1
  have X0 : Stand p l e (oR 1 0 0 13) s m #[(.ref a1)] below meth c s₁ [] 0 0 := Stand.of_body Bd
  have e0 : s₁.heap = h0 := by rw [← hh, Bd.state]; rfl
  have N0 := Fr.nil n0
  have Z0 : n0 ≤ h0.size := X00.1 ▸ X00.2.1
  have K0 : Keep h0 h0 ([] : List Addr) := Keep.refl _ _
  show OwnGoes p e below _ s₁ (entryFrame m _ _)
  refine og s₁ m 0 #[vR a1] [] (fun tgt kgo => castTop (ef_len m a1) kgo) ?_
  refine og s₁ m 1 #[vR a1] [(.ref a1)] (fun tgt kgo => ?_) ?_
  · refine XS.aloadN X0.here hx rfl (hb hby d3_0) rfl rfl ?_
    exact kgo
  obtain ⟨T1, X1, e1, st1⟩ := getF X0 hx hZ hown (host := "") (Or.inl (own_w hw 28 rfl)) Via.refl e0 f1 (g := (mkF m 1 #[vR a1] [(.ref a1)])) rfl rfl (hb hby d3_1)
  refine og T1 m 4 #[vR a1] [(.ref ta)] st1 ?_
  refine og T1 m 6 #[vR a1] [(.ref a1), (.int na)] (fun tgt kgo => ?_) ?_
  · obtain ⟨cl2, Ar2, q2, S2, M2, -, -⟩ := f3
    refine X1.arraylength hx (by rw [e1]; exact Ar2.1) (State.isArrayOf_alike hZ.alike Ar2.2.1) (g := (mkF m 4 #[vR a1] [(.ref ta)])) rfl rfl (hb hby d3_4) _ ?_
    rw [len_of S2 M2]
    refine XS.aloadN X1.here hx rfl (hb hby d3_5) rfl rfl ?_
    exact kgo
  obtain ⟨cq3, kq3, q3a, q3b, q3c⟩ := isOf (s := s) hZ e1 f0
  obtain ⟨_, _, ⟨T3, L3, k3, n3⟩, -, X3, ⟨Lc3, hQ3, l3, y3, z3⟩, st3⟩ := X1.virtualBack hx (y := mN2) (z := mN2) hown (mvT hZ (own_w hw 79 rfl)) (mvT hZ (own_w hw 80 rfl)) (notFace_of_selects (args := #[]) (mvT hZ (own_w hw 82 rfl))) (mvT hZ (own_w hw 82 rfl)) (mvT hZ (own_w hw 81 rfl)) (by decide) (backOf (W := 1) (rm_coder0 l Z a0 hw [] wG1 wG3 wG5 wK5 cx hEL h0 n0 X00 a1 f0 f2) hZ (own_w hw 83 rfl) (own_w hw 11 rfl) (by decide) (by decide)) q3a q3c (g := (mkF m 6 #[vR a1] [(.ref a1), (.int na)])) rfl (by rw [hml]; rfl) (Steps.refl _) (argsL := []) (rest := [(.int na)]) (lenOf pd_61459997 rfl) rfl (Nat.le_of_eq rfl) (hb hby d3_6) (fun _ _ => ⟨rfl, e1, (by decide : 0 + 0 ≤ _), (by decide : 0 + 0 ≤ _)⟩)
  dsimp only [Pt.U, Pt.locs, Pt.cells, Pt.slots] at X3 l3 y3 z3 st3 hQ3
  subst l3 y3 z3
  obtain ⟨rfl, Nq3, eq3⟩ := hQ3
  refine OwnGoes.tr (T' := T3) (g' := (mkF m 9 #[vR a1] [(.int 0), (.int na)])) st3 ?_
  have N3 := Fr.app N0 Nq3
  refine og T3 m 10 #[vR a1] [(.int (na >>> ((0 : Int32) &&& 31)))] (fun tgt kgo => ?_) ?_
  · refine XS.ishr X3.here hx rfl (hb hby d3_9) rfl ?_
    exact kgo
  refine og T3 m 10 #[vR a1] [(.int na)] (fun tgt kgo => castTop (by rw [(own_shr0 na)]) kgo) ?_
  refine own_leave X3 hlk (v := some (.int na)) (fun h => by rw [Bd.returns] at h; cases h) (fun fs hr => retI X3 hx Bd.returns (hb hby d3_10) hr) (by decide) (by decide) ?_
  show Q_len Z a1 ta ka na vsa h0 n0 _ T3.heap _
  rw [eq3]
  exact ⟨rfl, N3, rfl⟩
theorem ef_isl1 (m : MethodId) (x0 : Addr) : entryFrame m #[(.ref x0)] 1 = mkF m 0 #[vR x0] [] := by
  first | (simp [entryFrame, mkF, argsToLocals, Value.category]; done) | rfl
def Q_isl1 (Z : State) (a1 : Addr) (h0 : Heap) (n0 : Nat) (v : Option Value) (h : Heap) (L : List Loc) : Prop := v = some (.int 1) ∧ Fr n0 L ∧ h = h0
theorem d4_0 : decode jdk_42_method_154_code 0 = .ok (.getstatic 38, 3) := by decide +kernel
theorem d4_3 : decode jdk_42_method_154_code 3 = .ok (.ifCond .eq 14, 3) := by decide +kernel
theorem d4_6 : decode jdk_42_method_154_code 6 = .ok (.aload_n 0, 1) := by decide +kernel
theorem d4_7 : decode jdk_42_method_154_code 7 = .ok (.getfield 15, 3) := by decide +kernel
theorem d4_10 : decode jdk_42_method_154_code 10 = .ok (.ifCond .ne 7, 3) := by decide +kernel
theorem d4_13 : decode jdk_42_method_154_code 13 = .ok (.iconst 1, 1) := by decide +kernel
theorem d4_14 : decode jdk_42_method_154_code 14 = .ok (.goto 4, 3) := by decide +kernel
theorem d4_18 : decode jdk_42_method_154_code 18 = .ok (.ireturn, 1) := by decide +kernel
set_option maxRecDepth 65536 in
set_option maxHeartbeats 40000000 in
theorem rm_isl1 (l : Launch) (Z : State) (a0 : Array Value) (hw : ∀ d ∈ tables_1, d.before a0 Z = true) (ws : List Jvm.Cond) (wG1 : Int32) (wG3 : Value) (wG5 : Addr) (wK5 : ClassId) (cx : OwnCx Z a0 wG1 wG3 wG5 wK5) (hEL : EW Z a0 consts_1) (h0 : Heap) (n0 : Nat) (X00 : Old Z n0 h0) (a1 : Addr) (f0 : Exa Z h0 a1 "java/lang/String") (f1 : Fld Z h0 a1 "java/lang/String" "coder" "B" (.int 0)) :
    MetFree l mN4 (head1 (Jvm.Cond.code mN4 jdk_42_method_154_code 1 (some .boolean) :: ws) (oR 0 0 0 0)) (fun a U => a = #[(.ref a1)] ∧ Z.Warmed39 U.vm ∧ U.heap = h0) (fun _ _ _ _ _ => True) (fun _ U o U' => ∃ v L, o = .returned v ∧ Q_isl1 Z a1 h0 n0 v U'.heap L ∧ FrameEnd U o U' L (oR 0 0 0 0).cells (oR 0 0 0 0).slots) := by
  refine MetFree.of_bodySF (plainFor_of_name pn_52039224) hisR ?_
  intro p e s m args below meth c s₁ Bd hml0 hP hK
  obtain ⟨rfl, hZ, hh⟩ := hP
  obtain ⟨wO2, wP5, wO4, wrG3, hstr, wO5, wV5⟩ := id cx
  have hx := Bd.exec
  have hby := Bd.bytes
  have hlk := Bd.notSynchronized
  have hml : c.maxLocals = 1 := hml0
  have hown : s.vm.findClass "java/lang/String" = some m.cls := findClass_of_methodNamed Bd.named
  have hnm := (name_of_methodNamed Bd.named Bd.method).1
  have X0 : Stand p l e (oR 0 0 0 0) s m #[(.ref a1)] below meth c s₁ [] 0 0 := Stand.of_body Bd
  have e0 : s₁.heap = h0 := by rw [← hh, Bd.state]; rfl
  have N0 := Fr.nil n0
  have Z0 : n0 ≤ h0.size := X00.1 ▸ X00.2.1
  have K0 : Keep h0 h0 ([] : List Addr) := Keep.refl _ _
  show OwnGoes p e below _ s₁ (entryFrame m _ _)
  refine og s₁ m 0 #[vR a1] [] (fun tgt kgo => castTop (ef_isl1 m a1) kgo) ?_
  obtain ⟨T1, X1, e1, st1⟩ := getS2 X0 hx hZ hown (host := "") (Or.inl (own_w hw 73 rfl)) Via.refl e0 (wO2.ext X00.2) (g := (mkF m 0 #[vR a1] [])) rfl (hb hby d4_0)
  refine og T1 m 3 #[vR a1] [(.int wG1)] st1 ?_
  refine og T1 m 7 #[vR a1] [(.ref a1)] (fun tgt kgo => ?_) ?_
  · refine XS.ifNo X1.here hx rfl (hb hby d4_3) rfl ((if0 _ _).trans (feq wP5).1) ?_
    refine XS.aloadN X1.here hx rfl (hb hby d4_6) rfl rfl ?_
    exact kgo
  obtain ⟨T2, X2, e2, st2⟩ := getF X1 hx hZ hown (host := "") (Or.inl (own_w hw 29 rfl)) Via.refl e1 f1 (g := (mkF m 7 #[vR a1] [(.ref a1)])) rfl rfl (hb hby d4_7)
  refine og T2 m 10 #[vR a1] [(.int 0)] st2 ?_
  refine og T2 m 18 #[vR a1] [(.int 1)] (fun tgt kgo => ?_) ?_
  · refine XS.ifNo X2.here hx rfl (hb hby d4_10) rfl ((if0 _ _).trans (teq (by decide : (0 : Int32) = (0 : Int32))).2) ?_
    refine XS.iconst X2.here hx rfl (hb hby d4_13) ?_
    refine XS.goto X2.here hx rfl (pc0 := 14) (pc' := 18) rfl (hb hby d4_14) (by decide) (by decide) ?_
    exact kgo
  refine own_leave X2 hlk (v := some (.int 1)) (fun h => by rw [Bd.returns] at h; cases h) (fun fs hr => retN X2 hx (t := .boolean) Bd.returns (by simp) (hb hby d4_18) (by rw [(by decide : nar .boolean (1 : Int32) = (1 : Int32))]; exact hr)) (by decide) (by decide) ?_
  show Q_isl1 Z a1 h0 n0 _ T2.heap _
  rw [e2]
  exact ⟨rfl, N0, rfl⟩
theorem ef_pci (m : MethodId) (x0 : Int32) (x1 : Int32) (x2 : Value) (hr_x2 : x2.isRef = true) : entryFrame m #[(.int x0), (.int x1), x2] 3 = mkF m 0 #[vI x0, vI x1, .val x2] [] := by
  cases x2 <;> first | (simp [Value.isRef] at hr_x2; done) | (simp [entryFrame, mkF, argsToLocals, Value.category]; done) | rfl
def Q_pci (Z : State) (i1 : Int32) (nn1 : Int32) (h0 : Heap) (n0 : Nat) (v : Option Value) (h : Heap) (L : List Loc) : Prop := v = some (.int i1) ∧ Fr n0 L ∧ h = h0
theorem pn_82171711 : plainName "jdk/internal/util/Preconditions" = true := by first | (simp [plainName, overriddenIn]; done) | decide +kernel
theorem d5_0 : decode jdk_41_method_11_code 0 = .ok (.iload_n 0, 1) := by decide +kernel
theorem d5_1 : decode jdk_41_method_11_code 1 = .ok (.ifCond .lt 8, 3) := by decide +kernel
theorem d5_4 : decode jdk_41_method_11_code 4 = .ok (.iload_n 0, 1) := by decide +kernel
theorem d5_5 : decode jdk_41_method_11_code 5 = .ok (.iload_n 1, 1) := by decide +kernel
theorem d5_6 : decode jdk_41_method_11_code 6 = .ok (.if_icmp .lt 10, 3) := by decide +kernel
theorem d5_16 : decode jdk_41_method_11_code 16 = .ok (.iload_n 0, 1) := by decide +kernel
theorem d5_17 : decode jdk_41_method_11_code 17 = .ok (.ireturn, 1) := by decide +kernel
set_option maxRecDepth 65536 in
set_option maxHeartbeats 40000000 in
theorem rm_pci (l : Launch) (Z : State) (a0 : Array Value) (hw : ∀ d ∈ tables_1, d.before a0 Z = true) (ws : List Jvm.Cond) (wG1 : Int32) (wG3 : Value) (wG5 : Addr) (wK5 : ClassId) (cx : OwnCx Z a0 wG1 wG3 wG5 wK5) (hEL : EW Z a0 consts_1) (h0 : Heap) (n0 : Nat) (X00 : Old Z n0 h0) (i1 : Int32) (nn1 : Int32) (hi0 : ¬ (i1 < (0 : Int32))) (hi1 : i1 < nn1) :
    MetFree l mN5 (head1 (Jvm.Cond.code mN5 jdk_41_method_11_code 3 (some .int) :: ws) (oR 0 0 0 0)) (fun a U => a = #[(.int i1), (.int nn1), wG3] ∧ Z.Warmed39 U.vm ∧ U.heap = h0) (fun _ _ _ _ _ => True) (fun _ U o U' => ∃ v L, o = .returned v ∧ Q_pci Z i1 nn1 h0 n0 v U'.heap L ∧ FrameEnd U o U' L (oR 0 0 0 0).cells (oR 0 0 0 0).slots) := by
  refine MetFree.of_bodySF (plainFor_of_name pn_82171711) hisR ?_
  intro p e s m args below meth c s₁ Bd hml0 hP hK
  obtain ⟨rfl, hZ, hh⟩ := hP
  obtain ⟨wO2, wP5, wO4, wrG3, hstr, wO5, wV5⟩ := id cx
  have hx := Bd.exec
  have hby := Bd.bytes
  have hlk := Bd.notSynchronized
  have hml : c.maxLocals = 3 := hml0
  have hown : s.vm.findClass "jdk/internal/util/Preconditions" = some m.cls := findClass_of_methodNamed Bd.named
  have hnm := (name_of_methodNamed Bd.named Bd.method).1
  have X0 : Stand p l e (oR 0 0 0 0) s m #[(.int i1), (.int nn1), wG3] below meth c s₁ [] 0 0 := Stand.of_body Bd
  have e0 : s₁.heap = h0 := by rw [← hh, Bd.state]; rfl
  have N0 := Fr.nil n0
  have Z0 : n0 ≤ h0.size := X00.1 ▸ X00.2.1
  have K0 : Keep h0 h0 ([] : List Addr) := Keep.refl _ _
  show OwnGoes p e below _ s₁ (entryFrame m _ _)
  refine og s₁ m 0 #[vI i1, vI nn1, .val wG3] [] (fun tgt kgo => castTop (ef_pci m i1 nn1 wG3 wrG3) kgo) ?_
  refine og s₁ m 17 #[vI i1, vI nn1, .val wG3] [(.int i1)] (fun tgt kgo => ?_) ?_
  · refine XS.iloadN X0.here hx rfl (hb hby d5_0) rfl ?_
    refine XS.ifNo X0.here hx rfl (hb hby d5_1) rfl ((if0 _ _).trans (flt hi0).1) ?_
    refine XS.iloadN X0.here hx rfl (hb hby d5_4) rfl ?_
    show OwnG p e below s₁ m 5 #[vI i1, vI nn1, .val wG3] [(.int i1)] tgt
    refine XS.iloadN X0.here hx rfl (hb hby d5_5) rfl ?_
    refine XS.icmpYes X0.here hx rfl (pc0 := 6) (pc' := 16) rfl (hb hby d5_6) rfl (tlt hi1).1 (by decide) (by decide) ?_
    refine XS.iloadN X0.here hx rfl (hb hby d5_16) rfl ?_
    exact kgo
  refine own_leave X0 hlk (v := some (.int i1)) (fun h => by rw [Bd.returns] at h; cases h) (fun fs hr => retI X0 hx Bd.returns (hb hby d5_17) hr) (by decide) (by decide) ?_
  show Q_pci Z i1 nn1 h0 n0 _ s₁.heap _
  rw [e0]
  exact ⟨rfl, N0, rfl⟩
theorem ef_pcn (m : MethodId) (x0 : Int32) (x1 : Int32) : entryFrame m #[(.int x0), (.int x1), .null] 3 = mkF m 0 #[vI x0, vI x1, .val .null] [] := by
  first | (simp [entryFrame, mkF, argsToLocals, Value.category]; done) | rfl
def Q_pcn (Z : State) (i1 : Int32) (nn1 : Int32) (h0 : Heap) (n0 : Nat) (v : Option Value) (h : Heap) (L : List Loc) : Prop := v = some (.int i1) ∧ Fr n0 L ∧ h = h0
set_option maxRecDepth 65536 in
set_option maxHeartbeats 40000000 in
theorem rm_pcn (l : Launch) (Z : State) (a0 : Array Value) (hw : ∀ d ∈ tables_1, d.before a0 Z = true) (ws : List Jvm.Cond) (wG1 : Int32) (wG3 : Value) (wG5 : Addr) (wK5 : ClassId) (cx : OwnCx Z a0 wG1 wG3 wG5 wK5) (hEL : EW Z a0 consts_1) (h0 : Heap) (n0 : Nat) (X00 : Old Z n0 h0) (i1 : Int32) (nn1 : Int32) (hi0 : ¬ (i1 < (0 : Int32))) (hi1 : i1 < nn1) :
    MetFree l mN5 (head1 (Jvm.Cond.code mN5 jdk_41_method_11_code 3 (some .int) :: ws) (oR 0 0 0 0)) (fun a U => a = #[(.int i1), (.int nn1), .null] ∧ Z.Warmed39 U.vm ∧ U.heap = h0) (fun _ _ _ _ _ => True) (fun _ U o U' => ∃ v L, o = .returned v ∧ Q_pcn Z i1 nn1 h0 n0 v U'.heap L ∧ FrameEnd U o U' L (oR 0 0 0 0).cells (oR 0 0 0 0).slots) := by
  refine MetFree.of_bodySF (plainFor_of_name pn_82171711) hisR ?_
  intro p e s m args below meth c s₁ Bd hml0 hP hK
  obtain ⟨rfl, hZ, hh⟩ := hP
  obtain ⟨wO2, wP5, wO4, wrG3, hstr, wO5, wV5⟩ := id cx
  have hx := Bd.exec
  have hby := Bd.bytes
  have hlk := Bd.notSynchronized
  have hml : c.maxLocals = 3 := hml0
  have hown : s.vm.findClass "jdk/internal/util/Preconditions" = some m.cls := findClass_of_methodNamed Bd.named
  have hnm := (name_of_methodNamed Bd.named Bd.method).1
  have X0 : Stand p l e (oR 0 0 0 0) s m #[(.int i1), (.int nn1), .null] below meth c s₁ [] 0 0 := Stand.of_body Bd
  have e0 : s₁.heap = h0 := by rw [← hh, Bd.state]; rfl
  have N0 := Fr.nil n0
  have Z0 : n0 ≤ h0.size := X00.1 ▸ X00.2.1
  have K0 : Keep h0 h0 ([] : List Addr) := Keep.refl _ _
  show OwnGoes p e below _ s₁ (entryFrame m _ _)
  refine og s₁ m 0 #[vI i1, vI nn1, .val .null] [] (fun tgt kgo => castTop (ef_pcn m i1 nn1) kgo) ?_
  refine og s₁ m 17 #[vI i1, vI nn1, .val .null] [(.int i1)] (fun tgt kgo => ?_) ?_
  · refine XS.iloadN X0.here hx rfl (hb hby d5_0) rfl ?_
    refine XS.ifNo X0.here hx rfl (hb hby d5_1) rfl ((if0 _ _).trans (flt hi0).1) ?_
    refine XS.iloadN X0.here hx rfl (hb hby d5_4) rfl ?_
    show OwnG p e below s₁ m 5 #[vI i1, vI nn1, .val .null] [(.int i1)] tgt
    refine XS.iloadN X0.here hx rfl (hb hby d5_5) rfl ?_
    refine XS.icmpYes X0.here hx rfl (pc0 := 6) (pc' := 16) rfl (hb hby d5_6) rfl (tlt hi1).1 (by decide) (by decide) ?_
    refine XS.iloadN X0.here hx rfl (hb hby d5_16) rfl ?_
    exact kgo
  refine own_leave X0 hlk (v := some (.int i1)) (fun h => by rw [Bd.returns] at h; cases h) (fun fs hr => retI X0 hx Bd.returns (hb hby d5_17) hr) (by decide) (by decide) ?_
  show Q_pcn Z i1 nn1 h0 n0 _ s₁.heap _
  rw [e0]
  exact ⟨rfl, N0, rfl⟩
theorem ef_sci (m : MethodId) (x0 : Int32) (x1 : Int32) : entryFrame m #[(.int x0), (.int x1)] 2 = mkF m 0 #[vI x0, vI x1] [] := by
  first | (simp [entryFrame, mkF, argsToLocals, Value.category]; done) | rfl
def Q_sci (Z : State) (i1 : Int32) (nn1 : Int32) (h0 : Heap) (n0 : Nat) (v : Option Value) (h : Heap) (L : List Loc) : Prop := v = none ∧ Fr n0 L ∧ h = h0
theorem d6_0 : decode jdk_42_method_155_code 0 = .ok (.iload_n 0, 1) := by decide +kernel
theorem d6_1 : decode jdk_42_method_155_code 1 = .ok (.iload_n 1, 1) := by decide +kernel
theorem d6_2 : decode jdk_42_method_155_code 2 = .ok (.getstatic 1053, 3) := by decide +kernel
theorem d6_5 : decode jdk_42_method_155_code 5 = .ok (.invokestatic 1059, 3) := by decide +kernel
theorem pd_25906315 : parseMethodDescriptor "(IILjava/util/function/BiFunction;)I" = some ⟨[.int, .int, (.object "java/util/function/BiFunction")], some .int⟩ := by decide +kernel
theorem d6_8 : decode jdk_42_method_155_code 8 = .ok (.pop, 1) := by decide +kernel
theorem d6_9 : decode jdk_42_method_155_code 9 = .ok (.return_, 1) := by decide +kernel
set_option maxRecDepth 65536 in
set_option maxHeartbeats 40000000 in
theorem rm_sci (l : Launch) (Z : State) (a0 : Array Value) (hw : ∀ d ∈ tables_1, d.before a0 Z = true) (ws : List Jvm.Cond) (wG1 : Int32) (wG3 : Value) (wG5 : Addr) (wK5 : ClassId) (cx : OwnCx Z a0 wG1 wG3 wG5 wK5) (hEL : EW Z a0 consts_1) (h0 : Heap) (n0 : Nat) (X00 : Old Z n0 h0) (i1 : Int32) (nn1 : Int32) (hi0 : ¬ (i1 < (0 : Int32))) (hi1 : i1 < nn1) :
    MetFree l mN6 (head1 (Jvm.Cond.code mN6 jdk_42_method_155_code 2 none :: ws) (oR 1 0 0 14)) (fun a U => a = #[(.int i1), (.int nn1)] ∧ Z.Warmed39 U.vm ∧ U.heap = h0) (fun _ _ _ _ _ => True) (fun _ U o U' => ∃ v L, o = .returned v ∧ Q_sci Z i1 nn1 h0 n0 v U'.heap L ∧ FrameEnd U o U' L (oR 1 0 0 14).cells (oR 1 0 0 14).slots) := by
  refine MetFree.of_bodySF (plainFor_of_name pn_52039224) hisR ?_
  intro p e s m args below meth c s₁ Bd hml0 hP hK
  obtain ⟨rfl, hZ, hh⟩ := hP
  obtain ⟨wO2, wP5, wO4, wrG3, hstr, wO5, wV5⟩ := id cx
  have hx := Bd.exec
  have hby := Bd.bytes
  have hlk := Bd.notSynchronized
  have hml : c.maxLocals = 2 := hml0
  have hown : s.vm.findClass "java/lang/String" = some m.cls := findClass_of_methodNamed Bd.named
  have hnm := (name_of_methodNamed Bd.named Bd.method).1
  have X0 : Stand p l e (oR 1 0 0 14) s m #[(.int i1), (.int nn1)] below meth c s₁ [] 0 0 := Stand.of_body Bd
  have e0 : s₁.heap = h0 := by rw [← hh, Bd.state]; rfl
  have N0 := Fr.nil n0
  have Z0 : n0 ≤ h0.size := X00.1 ▸ X00.2.1
  have K0 : Keep h0 h0 ([] : List Addr) := Keep.refl _ _
  show OwnGoes p e below _ s₁ (entryFrame m _ _)
  refine og s₁ m 0 #[vI i1, vI nn1] [] (fun tgt kgo => castTop (ef_sci m i1 nn1) kgo) ?_
  refine og s₁ m 2 #[vI i1, vI nn1] [(.int nn1), (.int i1)] (fun tgt kgo => ?_) ?_
  · refine XS.iloadN X0.here hx rfl (hb hby d6_0) rfl ?_
    refine XS.iloadN X0.here hx rfl (hb hby d6_1) rfl ?_
    exact kgo
  obtain ⟨T1, X1, e1, st1⟩ := getS2 X0 hx hZ hown (host := "") (Or.inl (own_w hw 143 rfl)) Via.refl e0 (wO4.ext X00.2) (g := (mkF m 2 #[vI i1, vI nn1] [(.int nn1), (.int i1)])) rfl (hb hby d6_2)
  refine og T1 m 5 #[vI i1, vI nn1] [wG3, (.int nn1), (.int i1)] st1 ?_
  obtain ⟨_, _, ⟨T2, L2, k2, n2⟩, -, X2, ⟨Lc2, hQ2, l2, y2, z2⟩, st2⟩ := Jvm.LawKit.callS X1 hx (y := mN5) hown (mvT hZ (own_w hw 235 rfl)) (mvT hZ (own_w hw 216 rfl)) (mvT hZ (own_w hw 144 rfl)) (mvT hZ (own_w hw 217 rfl)) (by decide) (backOf (W := 0) (rm_pci l Z a0 hw [] wG1 wG3 wG5 wK5 cx hEL h0 n0 X00 i1 nn1 hi0 hi1) hZ (own_w hw 217 rfl) (own_w hw 144 rfl) (by decide) (by decide)) (g := (mkF m 5 #[vI i1, vI nn1] [wG3, (.int nn1), (.int i1)])) rfl (by rw [hml]; rfl) (argsL := [(.int i1), (.int nn1), wG3]) (rest := []) (lenOf pd_25906315 rfl) rfl (Nat.le_of_eq rfl) (hb hby d6_5) (fun _ _ => ⟨rfl, e1, (by decide : 0 + 0 ≤ _), (by decide : 0 + 0 ≤ _)⟩)
  dsimp only [Pt.U, Pt.locs, Pt.cells, Pt.slots] at X2 l2 y2 z2 st2 hQ2
  subst l2 y2 z2
  obtain ⟨rfl, Nq2, eq2⟩ := hQ2
  refine og T2 m 8 #[vI i1, vI nn1] [(.int i1)] st2 ?_
  have N2 := Fr.app N0 Nq2
  refine og T2 m 9 #[vI i1, vI nn1] [] (fun tgt kgo => ?_) ?_
  · refine XS.pop X2.here hx rfl (hb hby d6_8) rfl rfl ?_
    exact kgo
  refine own_leave X2 hlk (v := none) (fun _ => rfl) (fun fs hr => X2.returnOut hx Bd.returns (hb hby d6_9) hr) (by decide) (by decide) ?_
  show Q_sci Z i1 nn1 h0 n0 _ T2.heap _
  rw [eq2]
  exact ⟨rfl, N2, rfl⟩
theorem ef_oci (m : MethodId) (x0 : Int32) (x1 : Int32) : entryFrame m #[(.int x0), (.int x1)] 2 = mkF m 0 #[vI x0, vI x1] [] := by
  first | (simp [entryFrame, mkF, argsToLocals, Value.category]; done) | rfl
def Q_oci (Z : State) (i1 : Int32) (nn1 : Int32) (h0 : Heap) (n0 : Nat) (v : Option Value) (h : Heap) (L : List Loc) : Prop := v = some (.int i1) ∧ Fr n0 L ∧ h = h0
theorem pn_59230025 : plainName "java/util/Objects" = true := by first | (simp [plainName, overriddenIn]; done) | decide +kernel
theorem d7_0 : decode jdk_31_method_17_code 0 = .ok (.iload_n 0, 1) := by decide +kernel
theorem d7_1 : decode jdk_31_method_17_code 1 = .ok (.iload_n 1, 1) := by decide +kernel
theorem d7_2 : decode jdk_31_method_17_code 2 = .ok (.aconst_null, 1) := by decide +kernel
theorem d7_3 : decode jdk_31_method_17_code 3 = .ok (.invokestatic 105, 3) := by decide +kernel
theorem d7_6 : decode jdk_31_method_17_code 6 = .ok (.ireturn, 1) := by decide +kernel
set_option maxRecDepth 65536 in
set_option maxHeartbeats 40000000 in
theorem rm_oci (l : Launch) (Z : State) (a0 : Array Value) (hw : ∀ d ∈ tables_1, d.before a0 Z = true) (ws : List Jvm.Cond) (wG1 : Int32) (wG3 : Value) (wG5 : Addr) (wK5 : ClassId) (cx : OwnCx Z a0 wG1 wG3 wG5 wK5) (hEL : EW Z a0 consts_1) (h0 : Heap) (n0 : Nat) (X00 : Old Z n0 h0) (i1 : Int32) (nn1 : Int32) (hi0 : ¬ (i1 < (0 : Int32))) (hi1 : i1 < nn1) :
    MetFree l mN7 (head1 (Jvm.Cond.code mN7 jdk_31_method_17_code 2 (some .int) :: ws) (oR 1 0 0 14)) (fun a U => a = #[(.int i1), (.int nn1)] ∧ Z.Warmed39 U.vm ∧ U.heap = h0) (fun _ _ _ _ _ => True) (fun _ U o U' => ∃ v L, o = .returned v ∧ Q_oci Z i1 nn1 h0 n0 v U'.heap L ∧ FrameEnd U o U' L (oR 1 0 0 14).cells (oR 1 0 0 14).slots) := by
  refine MetFree.of_bodySF (plainFor_of_name pn_59230025) hisR ?_
  intro p e s m args below meth c s₁ Bd hml0 hP hK
  obtain ⟨rfl, hZ, hh⟩ := hP
  obtain ⟨wO2, wP5, wO4, wrG3, hstr, wO5, wV5⟩ := id cx
  have hx := Bd.exec
  have hby := Bd.bytes
  have hlk := Bd.notSynchronized
  have hml : c.maxLocals = 2 := hml0
  have hown : s.vm.findClass "java/util/Objects" = some m.cls := findClass_of_methodNamed Bd.named
  have hnm := (name_of_methodNamed Bd.named Bd.method).1
  have X0 : Stand p l e (oR 1 0 0 14) s m #[(.int i1), (.int nn1)] below meth c s₁ [] 0 0 := Stand.of_body Bd
  have e0 : s₁.heap = h0 := by rw [← hh, Bd.state]; rfl
  have N0 := Fr.nil n0
  have Z0 : n0 ≤ h0.size := X00.1 ▸ X00.2.1
  have K0 : Keep h0 h0 ([] : List Addr) := Keep.refl _ _
  show OwnGoes p e below _ s₁ (entryFrame m _ _)
  refine og s₁ m 0 #[vI i1, vI nn1] [] (fun tgt kgo => castTop (ef_oci m i1 nn1) kgo) ?_
  refine og s₁ m 3 #[vI i1, vI nn1] [.null, (.int nn1), (.int i1)] (fun tgt kgo => ?_) ?_
  · refine XS.iloadN X0.here hx rfl (hb hby d7_0) rfl ?_
    refine XS.iloadN X0.here hx rfl (hb hby d7_1) rfl ?_
    refine XS.aconstNull X0.here hx rfl (hb hby d7_2) ?_
    exact kgo
  obtain ⟨_, _, ⟨T1, L1, k1, n1⟩, -, X1, ⟨Lc1, hQ1, l1, y1, z1⟩, st1⟩ := Jvm.LawKit.callS X0 hx (y := mN5) hown (mvT hZ (own_w hw 215 rfl)) (mvT hZ (own_w hw 216 rfl)) (mvT hZ (own_w hw 144 rfl)) (mvT hZ (own_w hw 217 rfl)) (by decide) (backOf (W := 0) (rm_pcn l Z a0 hw [] wG1 wG3 wG5 wK5 cx hEL h0 n0 X00 i1 nn1 hi0 hi1) hZ (own_w hw 217 rfl) (own_w hw 144 rfl) (by decide) (by decide)) (g := (mkF m 3 #[vI i1, vI nn1] [.null, (.int nn1), (.int i1)])) rfl (by rw [hml]; rfl) (argsL := [(.int i1), (.int nn1), .null]) (rest := []) (lenOf pd_25906315 rfl) rfl (Nat.le_of_eq rfl) (hb hby d7_3) (fun _ _ => ⟨rfl, e0, (by decide : 0 + 0 ≤ _), (by decide : 0 + 0 ≤ _)⟩)
  dsimp only [Pt.U, Pt.locs, Pt.cells, Pt.slots] at X1 l1 y1 z1 st1 hQ1
  subst l1 y1 z1
  obtain ⟨rfl, Nq1, eq1⟩ := hQ1
  refine og T1 m 6 #[vI i1, vI nn1] [(.int i1)] st1 ?_
  have N1 := Fr.app N0 Nq1
  refine own_leave X1 hlk (v := some (.int i1)) (fun h => by rw [Bd.returns] at h; cases h) (fun fs hr => retI X1 hx Bd.returns (hb hby d7_6) hr) (by decide) (by decide) ?_
  show Q_oci Z i1 nn1 h0 n0 _ T1.heap _
  rw [eq1]
  exact ⟨rfl, N1, rfl⟩
theorem ef_l1ch (m : MethodId) (x0 : Addr) (x1 : Int32) : entryFrame m #[(.ref x0), (.int x1)] 2 = mkF m 0 #[vR x0, vI x1] [] := by
  first | (simp [entryFrame, mkF, argsToLocals, Value.category]; done) | rfl
def Q_l1ch (Z : State) (ta : Addr) (ka : ClassId) (na : Int32) (vsa : List Value) (i1 : Int32) (c1 : Int32) (h0 : Heap) (n0 : Nat) (v : Option Value) (h : Heap) (L : List Loc) : Prop := v = some (.int c1) ∧ Fr n0 L ∧ h = h0
theorem pn_54843740 : plainName "java/lang/StringLatin1" = true := by first | (simp [plainName, overriddenIn]; done) | decide +kernel
theorem d8_0 : decode jdk_43_method_2_code 0 = .ok (.iload_n 1, 1) := by decide +kernel
theorem d8_1 : decode jdk_43_method_2_code 1 = .ok (.aload_n 0, 1) := by decide +kernel
theorem d8_2 : decode jdk_43_method_2_code 2 = .ok (.arraylength, 1) := by decide +kernel
theorem d8_3 : decode jdk_43_method_2_code 3 = .ok (.invokestatic 9, 3) := by decide +kernel
theorem pd_53897226 : parseMethodDescriptor "(II)V" = some ⟨[.int, .int], none⟩ := by decide +kernel
theorem d8_6 : decode jdk_43_method_2_code 6 = .ok (.aload_n 0, 1) := by decide +kernel
theorem d8_7 : decode jdk_43_method_2_code 7 = .ok (.iload_n 1, 1) := by decide +kernel
theorem d8_8 : decode jdk_43_method_2_code 8 = .ok (.baload, 1) := by decide +kernel
theorem d8_9 : decode jdk_43_method_2_code 9 = .ok (.sipush 255, 3) := by decide +kernel
theorem d8_12 : decode jdk_43_method_2_code 12 = .ok (.iand, 1) := by decide +kernel
theorem d8_13 : decode jdk_43_method_2_code 13 = .ok (.i2c, 1) := by decide +kernel
theorem d8_14 : decode jdk_43_method_2_code 14 = .ok (.ireturn, 1) := by decide +kernel
set_option maxRecDepth 65536 in
set_option maxHeartbeats 40000000 in
theorem rm_l1ch (l : Launch) (Z : State) (a0 : Array Value) (hw : ∀ d ∈ tables_1, d.before a0 Z = true) (ws : List Jvm.Cond) (wG1 : Int32) (wG3 : Value) (wG5 : Addr) (wK5 : ClassId) (cx : OwnCx Z a0 wG1 wG3 wG5 wK5) (hEL : EW Z a0 consts_1) (h0 : Heap) (n0 : Nat) (X00 : Old Z n0 h0) (ta : Addr) (ka : ClassId) (na : Int32) (vsa : List Value) (i1 : Int32) (c1 : Int32) (f0 : Arv Z h0 ta ka .byte na vsa (.int 0)) (hg : OwnL na vsa i1 c1) :
    MetFree l mN8 (head1 (Jvm.Cond.code mN8 jdk_43_method_2_code 2 (some .char) :: ws) (oR 2 0 0 27)) (fun a U => a = #[(.ref ta), (.int i1)] ∧ Z.Warmed39 U.vm ∧ U.heap = h0) (fun _ _ _ _ _ => True) (fun _ U o U' => ∃ v L, o = .returned v ∧ Q_l1ch Z ta ka na vsa i1 c1 h0 n0 v U'.heap L ∧ FrameEnd U o U' L (oR 2 0 0 27).cells (oR 2 0 0 27).slots) := by
  refine MetFree.of_bodySF (plainFor_of_name pn_54843740) hisR ?_
  intro p e s m args below meth c s₁ Bd hml0 hP hK
  obtain ⟨rfl, hZ, hh⟩ := hP
  obtain ⟨wO2, wP5, wO4, wrG3, hstr, wO5, wV5⟩ := id cx
  have hx := Bd.exec
  have hby := Bd.bytes
  have hlk := Bd.notSynchronized
  have hml : c.maxLocals = 2 := hml0
  have hown : s.vm.findClass "java/lang/StringLatin1" = some m.cls := findClass_of_methodNamed Bd.named
  have hnm := (name_of_methodNamed Bd.named Bd.method).1
  have X0 : Stand p l e (oR 2 0 0 27) s m #[(.ref ta), (.int i1)] below meth c s₁ [] 0 0 := Stand.of_body Bd
  have e0 : s₁.heap = h0 := by rw [← hh, Bd.state]; rfl
  have N0 := Fr.nil n0
  have Z0 : n0 ≤ h0.size := X00.1 ▸ X00.2.1
  have K0 : Keep h0 h0 ([] : List Addr) := Keep.refl _ _
  show OwnGoes p e below _ s₁ (entryFrame m _ _)
  refine og s₁ m 0 #[vR ta, vI i1] [] (fun tgt kgo => castTop (ef_l1ch m ta i1) kgo) ?_
  obtain ⟨v0, hi, hv, hp, hn⟩ := hg
  refine og s₁ m 3 #[vR ta, vI i1] [(.int na), (.int i1)] (fun tgt kgo => ?_) ?_
  · refine XS.iloadN X0.here hx rfl (hb hby d8_0) rfl ?_
    refine XS.aloadN X0.here hx rfl (hb hby d8_1) rfl rfl ?_
    show OwnG p e below s₁ m 2 #[vR ta, vI i1] [(.ref ta), (.int i1)] tgt
    obtain ⟨cl1, Ar1, q1, S1, M1, -, -⟩ := f0
    refine X0.arraylength hx (by rw [e0]; exact Ar1.1) (State.isArrayOf_alike hZ.alike Ar1.2.1) (g := (mkF m 2 #[vR ta, vI i1] [(.ref ta), (.int i1)])) rfl rfl (hb hby d8_2) _ ?_
    rw [len_of S1 M1]
    exact kgo
  obtain ⟨_, _, ⟨T2, L2, k2, n2⟩, -, X2, ⟨Lc2, hQ2, l2, y2, z2⟩, st2⟩ := Jvm.LawKit.callS X0 hx (y := mN6) hown (mvT hZ (own_w hw 232 rfl)) (mvT hZ (own_w hw 233 rfl)) (mvT hZ (own_w hw 11 rfl)) (mvT hZ (own_w hw 234 rfl)) (by decide) (backOf (W := 0) (rm_sci l Z a0 hw [] wG1 wG3 wG5 wK5 cx hEL h0 n0 X00 i1 na hi.1 hi.2) hZ (own_w hw 234 rfl) (own_w hw 11 rfl) (by decide) (by decide)) (g := (mkF m 3 #[vR ta, vI i1] [(.int na), (.int i1)])) rfl (by rw [hml]; rfl) (argsL := [(.int i1), (.int na)]) (rest := []) (lenOf pd_53897226 rfl) rfl (Nat.le_of_eq rfl) (hb hby d8_3) (fun _ _ => ⟨rfl, e0, (by decide : 0 + 0 ≤ _), (by decide : 0 + 0 ≤ _)⟩)
  dsimp only [Pt.U, Pt.locs, Pt.cells, Pt.slots] at X2 l2 y2 z2 st2 hQ2
  subst l2 y2 z2
  obtain ⟨rfl, Nq2, eq2⟩ := hQ2
  refine og T2 m 6 #[vR ta, vI i1] [] st2 ?_
  have N2 := Fr.app N0 Nq2
  refine og T2 m 14 #[vR ta, vI i1] [(.int (nar .char (v0 &&& (255 : Int32))))] (fun tgt kgo => ?_) ?_
  · refine XS.aloadN X2.here hx rfl (hb hby d8_6) rfl rfl ?_
    refine XS.iloadN X2.here hx rfl (hb hby d8_7) rfl ?_
    show OwnG p e below T2 m 8 #[vR ta, vI i1] [(.int i1), (.ref ta)] tgt
    obtain ⟨cl3, Ar3, q3, S3, M3, H3, G3⟩ := f0
    refine X2.baloadBytes hx (j := i1) (v := (.int v0)) (by rw [eq2]; exact Ar3.1) (State.isArrayOf_alike hZ.alike Ar3.2.1) Ar3.2.2 (inb_of S3 hi) (Has.at H3 (inb_of S3 hi) hv) (g := (mkF m 8 #[vR ta, vI i1] [(.int i1), (.ref ta)])) rfl rfl (hb hby d8_8) _ ?_
    show OwnG p e below T2 m 9 #[vR ta, vI i1] [(.int v0)] tgt
    refine XS.sipush X2.here hx rfl (hb hby d8_9) ?_
    refine XS.iand X2.here hx rfl (hb hby d8_12) rfl ?_
    refine XS.i2c X2.here hx rfl (hb hby d8_13) rfl ?_
    exact kgo
  refine og T2 m 14 #[vR ta, vI i1] [(.int c1)] (fun tgt kgo => castTop (by rw [hp]) kgo) ?_
  refine own_leave X2 hlk (v := some (.int c1)) (fun h => by rw [Bd.returns] at h; cases h) (fun fs hr => retN X2 hx (t := .char) Bd.returns (by simp) (hb hby d8_14) (by rw [hn]; exact hr)) (by decide) (by decide) ?_
  show Q_l1ch Z ta ka na vsa i1 c1 h0 n0 _ T2.heap _
  rw [eq2]
  exact ⟨rfl, N2, rfl⟩
theorem ef_chL (m : MethodId) (x0 : Addr) (x1 : Int32) : entryFrame m #[(.ref x0), (.int x1)] 2 = mkF m 0 #[vR x0, vI x1] [] := by
  first | (simp [entryFrame, mkF, argsToLocals, Value.category]; done) | rfl
def Q_chL (Z : State) (a1 : Addr) (ta : Addr) (ka : ClassId) (na : Int32) (vsa : List Value) (i1 : Int32) (c1 : Int32) (h0 : Heap) (n0 : Nat) (v : Option Value) (h : Heap) (L : List Loc) : Prop := v = some (.int c1) ∧ Fr n0 L ∧ h = h0
theorem d9_0 : decode jdk_42_method_56_code 0 = .ok (.aload_n 0, 1) := by decide +kernel
theorem d9_1 : decode jdk_42_method_56_code 1 = .ok (.invokevirtual 492, 3) := by decide +kernel
theorem pd_15861835 : parseMethodDescriptor "()Z" = some ⟨[], some .boolean⟩ := by decide +kernel
theorem d9_4 : decode jdk_42_method_56_code 4 = .ok (.ifCond .eq 12, 3) := by decide +kernel
theorem d9_7 : decode jdk_42_method_56_code 7 = .ok (.aload_n 0, 1) := by decide +kernel
theorem d9_8 : decode jdk_42_method_56_code 8 = .ok (.getfield 9, 3) := by decide +kernel
theorem d9_11 : decode jdk_42_method_56_code 11 = .ok (.iload_n 1, 1) := by decide +kernel
theorem d9_12 : decode jdk_42_method_56_code 12 = .ok (.invokestatic 495, 3) := by decide +kernel
theorem pd_30427418 : parseMethodDescriptor "([BI)C" = some ⟨[(.array .byte), .int], some .char⟩ := by decide +kernel
theorem d9_15 : decode jdk_42_method_56_code 15 = .ok (.ireturn, 1) := by decide +kernel
set_option maxRecDepth 65536 in
set_option maxHeartbeats 40000000 in
theorem rm_chL (l : Launch) (Z : State) (a0 : Array Value) (hw : ∀ d ∈ tables_1, d.before a0 Z = true) (ws : List Jvm.Cond) (wG1 : Int32) (wG3 : Value) (wG5 : Addr) (wK5 : ClassId) (cx : OwnCx Z a0 wG1 wG3 wG5 wK5) (hEL : EW Z a0 consts_1) (h0 : Heap) (n0 : Nat) (X00 : Old Z n0 h0) (a1 : Addr) (ta : Addr) (ka : ClassId) (na : Int32) (vsa : List Value) (i1 : Int32) (c1 : Int32) (f0 : Exa Z h0 a1 "java/lang/String") (f1 : Fld Z h0 a1 "java/lang/String" "value" "[B" (.ref ta)) (f2 : Fld Z h0 a1 "java/lang/String" "coder" "B" (.int 0)) (f3 : Arv Z h0 ta ka .byte na vsa (.int 0)) (hg : OwnL na vsa i1 c1) :
    MetFree l mN9 (head1 (Jvm.Cond.code mN9 jdk_42_method_56_code 2 (some .char) :: ws) (oR 3 0 0 40)) (fun a U => a = #[(.ref a1), (.int i1)] ∧ Z.Warmed39 U.vm ∧ U.heap = h0) (fun _ _ _ _ _ => True) (fun _ U o U' => ∃ v L, o = .returned v ∧ Q_chL Z a1 ta ka na vsa i1 c1 h0 n0 v U'.heap L ∧ FrameEnd U o U' L (oR 3 0 0 40).cells (oR 3 0 0 40).slots) := by
  refine MetFree.of_bodySF (plainFor_of_name pn_52039224) hisR ?_
  intro p e s m args below meth c s₁ Bd hml0 hP hK
  obtain ⟨rfl, hZ, hh⟩ := hP
  obtain ⟨wO2, wP5, wO4, wrG3, hstr, wO5, wV5⟩ := id cx
  have hx := Bd.exec
  have hby := Bd.bytes
  have hlk := Bd.notSynchronized
  have hml : c.maxLocals = 2 := hml0
  have hown : s.vm.findClass "java/lang/String" = some m.cls := findClass_of_methodNamed Bd.named
  have hnm := (name_of_methodNamed Bd.named Bd.method).1
  have X0 : Stand p l e (oR 3 0 0 40) s m #[(.ref a1), (.int i1)] below meth c s₁ [] 0 0 := Stand.of_body Bd
  have e0 : s₁.heap = h0 := by rw [← hh, Bd.state]; rfl
  have N0 := Fr.nil n0
  have Z0 : n0 ≤ h0.size := X00.1 ▸ X00.2.1
  have K0 : Keep h0 h0 ([] : List Addr) := Keep.refl _ _
  show OwnGoes p e below _ s₁ (entryFrame m _ _)
  refine og s₁ m 0 #[vR a1, vI i1] [] (fun tgt kgo => castTop (ef_chL m a1 i1) kgo) ?_
  obtain ⟨_, _, _, _, hn⟩ := id hg
  refine og s₁ m 1 #[vR a1, vI i1] [(.ref a1)] (fun tgt kgo => ?_) ?_
  · refine XS.aloadN X0.here hx rfl (hb hby d9_0) rfl rfl ?_
    exact kgo
  obtain ⟨cq1, kq1, q1a, q1b, q1c⟩ := isOf (s := s) hZ e0 f0
  obtain ⟨_, _, ⟨T1, L1, k1, n1⟩, -, X1, ⟨Lc1, hQ1, l1, y1, z1⟩, st1⟩ := X0.virtualBack hx (y := mN4) (z := mN4) hown (mvT hZ (own_w hw 68 rfl)) (mvT hZ (own_w hw 69 rfl)) (notFace_of_selects (args := #[]) (mvT hZ (own_w hw 71 rfl))) (mvT hZ (own_w hw 71 rfl)) (mvT hZ (own_w hw 70 rfl)) (by decide) (backOf (W := 0) (rm_isl1 l Z a0 hw [] wG1 wG3 wG5 wK5 cx hEL h0 n0 X00 a1 f0 f2) hZ (own_w hw 72 rfl) (own_w hw 11 rfl) (by decide) (by decide)) q1a q1c (g := (mkF m 1 #[vR a1, vI i1] [(.ref a1)])) rfl (by rw [hml]; rfl) (Steps.refl _) (argsL := []) (rest := []) (lenOf pd_15861835 rfl) rfl (Nat.le_of_eq rfl) (hb hby d9_1) (fun _ _ => ⟨rfl, e0, (by decide : 0 + 0 ≤ _), (by decide : 0 + 0 ≤ _)⟩)
  dsimp only [Pt.U, Pt.locs, Pt.cells, Pt.slots] at X1 l1 y1 z1 st1 hQ1
  subst l1 y1 z1
  obtain ⟨rfl, Nq1, eq1⟩ := hQ1
  refine OwnGoes.tr (T' := T1) (g' := (mkF m 4 #[vR a1, vI i1] [(.int 1)])) st1 ?_
  have N1 := Fr.app N0 Nq1
  refine og T1 m 8 #[vR a1, vI i1] [(.ref a1)] (fun tgt kgo => ?_) ?_
  · refine XS.ifNo X1.here hx rfl (hb hby d9_4) rfl ((if0 _ _).trans (feq (by decide : ¬ ((1 : Int32) = (0 : Int32)))).1) ?_
    refine XS.aloadN X1.here hx rfl (hb hby d9_7) rfl rfl ?_
    exact kgo
  obtain ⟨T2, X2, e2, st2⟩ := getF X1 hx hZ hown (host := "") (Or.inl (own_w hw 28 rfl)) Via.refl eq1 f1 (g := (mkF m 8 #[vR a1, vI i1] [(.ref a1)])) rfl rfl (hb hby d9_8)
  refine og T2 m 11 #[vR a1, vI i1] [(.ref ta)] st2 ?_
  refine og T2 m 12 #[vR a1, vI i1] [(.int i1), (.ref ta)] (fun tgt kgo => ?_) ?_
  · refine XS.iloadN X2.here hx rfl (hb hby d9_11) rfl ?_
    exact kgo
  obtain ⟨_, _, ⟨T3, L3, k3, n3⟩, -, X3, ⟨Lc3, hQ3, l3, y3, z3⟩, st3⟩ := Jvm.LawKit.callS X2 hx (y := mN8) hown (mvT hZ (own_w hw 229 rfl)) (mvT hZ (own_w hw 230 rfl)) (mvT hZ (own_w hw 86 rfl)) (mvT hZ (own_w hw 231 rfl)) (by decide) (backOf (W := 0) (rm_l1ch l Z a0 hw [] wG1 wG3 wG5 wK5 cx hEL h0 n0 X00 ta ka na vsa i1 c1 f3 hg) hZ (own_w hw 231 rfl) (own_w hw 86 rfl) (by decide) (by decide)) (g := (mkF m 12 #[vR a1, vI i1] [(.int i1), (.ref ta)])) rfl (by rw [hml]; rfl) (argsL := [(.ref ta), (.int i1)]) (rest := []) (lenOf pd_30427418 rfl) rfl (Nat.le_of_eq rfl) (hb hby d9_12) (fun _ _ => ⟨rfl, e2, (by decide : 0 + 0 ≤ _), (by decide : 0 + 0 ≤ _)⟩)
  dsimp only [Pt.U, Pt.locs, Pt.cells, Pt.slots] at X3 l3 y3 z3 st3 hQ3
  subst l3 y3 z3
  obtain ⟨rfl, Nq3, eq3⟩ := hQ3
  refine og T3 m 15 #[vR a1, vI i1] [(.int c1)] st3 ?_
  have N3 := Fr.app N1 Nq3
  refine own_leave X3 hlk (v := some (.int c1)) (fun h => by rw [Bd.returns] at h; cases h) (fun fs hr => retN X3 hx (t := .char) Bd.returns (by simp) (hb hby d9_15) (by rw [hn]; exact hr)) (by decide) (by decide) ?_
  show Q_chL Z a1 ta ka na vsa i1 c1 h0 n0 _ T3.heap _
  rw [eq3]
  exact ⟨rfl, N3, rfl⟩
theorem ef_canE (m : MethodId)  : entryFrame m #[(.int 47)] 1 = mkF m 0 #[vI 47] [] := by
  first | (simp [entryFrame, mkF, argsToLocals, Value.category]; done) | rfl
def Q_canE (Z : State)  (h0 : Heap) (n0 : Nat) (v : Option Value) (h : Heap) (L : List Loc) : Prop := v = some (.int 1) ∧ Fr n0 L ∧ h = h0
theorem d10_0 : decode jdk_43_method_4_code 0 = .ok (.iload_n 0, 1) := by decide +kernel
theorem d10_1 : decode jdk_43_method_4_code 1 = .ok (.ifCond .lt 14, 3) := by decide +kernel
theorem d10_4 : decode jdk_43_method_4_code 4 = .ok (.iload_n 0, 1) := by decide +kernel
theorem d10_5 : decode jdk_43_method_4_code 5 = .ok (.sipush 255, 3) := by decide +kernel
theorem d10_8 : decode jdk_43_method_4_code 8 = .ok (.if_icmp .gt 7, 3) := by decide +kernel
theorem d10_11 : decode jdk_43_method_4_code 11 = .ok (.iconst 1, 1) := by decide +kernel
theorem d10_12 : decode jdk_43_method_4_code 12 = .ok (.goto 4, 3) := by decide +kernel
theorem d10_16 : decode jdk_43_method_4_code 16 = .ok (.ireturn, 1) := by decide +kernel
set_option maxRecDepth 65536 in
set_option maxHeartbeats 40000000 in
theorem rm_canE (l : Launch) (Z : State) (a0 : Array Value) (hw : ∀ d ∈ tables_1, d.before a0 Z = true) (ws : List Jvm.Cond) (wG1 : Int32) (wG3 : Value) (wG5 : Addr) (wK5 : ClassId) (cx : OwnCx Z a0 wG1 wG3 wG5 wK5) (hEL : EW Z a0 consts_1) (h0 : Heap) (n0 : Nat) (X00 : Old Z n0 h0)  :
    MetFree l mN10 (head1 (Jvm.Cond.code mN10 jdk_43_method_4_code 1 (some .boolean) :: ws) (oR 0 0 0 0)) (fun a U => a = #[(.int 47)] ∧ Z.Warmed39 U.vm ∧ U.heap = h0) (fun _ _ _ _ _ => True) (fun _ U o U' => ∃ v L, o = .returned v ∧ Q_canE Z  h0 n0 v U'.heap L ∧ FrameEnd U o U' L (oR 0 0 0 0).cells (oR 0 0 0 0).slots) := by
  refine MetFree.of_bodySF (plainFor_of_name pn_54843740) hisR ?_
  intro p e s m args below meth c s₁ Bd hml0 hP hK
  obtain ⟨rfl, hZ, hh⟩ := hP
  obtain ⟨wO2, wP5, wO4, wrG3, hstr, wO5, wV5⟩ := id cx
  have hx := Bd.exec
  have hby := Bd.bytes
  have hlk := Bd.notSynchronized
  have hml : c.maxLocals = 1 := hml0
  have hown : s.vm.findClass "java/lang/StringLatin1" = some m.cls := findClass_of_methodNamed Bd.named
  have hnm := (name_of_methodNamed Bd.named Bd.method).1
  have X0 : Stand p l e (oR 0 0 0 0) s m #[(.int 47)] below meth c s₁ [] 0 0 := Stand.of_body Bd
  have e0 : s₁.heap = h0 := by rw [← hh, Bd.state]; rfl
  have N0 := Fr.nil n0
  have Z0 : n0 ≤ h0.size := X00.1 ▸ X00.2.1
  have K0 : Keep h0 h0 ([] : List Addr) := Keep.refl _ _
  show OwnGoes p e below _ s₁ (entryFrame m _ _)
  refine og s₁ m 0 #[vI 47] [] (fun tgt kgo => castTop (ef_canE m ) kgo) ?_
  refine og s₁ m 16 #[vI 47] [(.int 1)] (fun tgt kgo => ?_) ?_
  · refine XS.iloadN X0.here hx rfl (hb hby d10_0) rfl ?_
    refine XS.ifNo X0.here hx rfl (hb hby d10_1) rfl ((if0 _ _).trans (flt (by decide : ¬ ((47 : Int32) < (0 : Int32)))).1) ?_
    refine XS.iloadN X0.here hx rfl (hb hby d10_4) rfl ?_
    show OwnG p e below s₁ m 5 #[vI 47] [(.int 47)] tgt
    refine XS.sipush X0.here hx rfl (hb hby d10_5) ?_
    refine XS.icmpNo X0.here hx rfl (hb hby d10_8) rfl (flt (by decide : ¬ ((255 : Int32) < (47 : Int32)))).2.2.1 ?_
    refine XS.iconst X0.here hx rfl (hb hby d10_11) ?_
    show OwnG p e below s₁ m 12 #[vI 47] [(.int 1)] tgt
    refine XS.goto X0.here hx rfl (pc0 := 12) (pc' := 16) rfl (hb hby d10_12) (by decide) (by decide) ?_
    exact kgo
  refine own_leave X0 hlk (v := some (.int 1)) (fun h => by rw [Bd.returns] at h; cases h) (fun fs hr => retN X0 hx (t := .boolean) Bd.returns (by simp) (hb hby d10_16) (by rw [(by decide : nar .boolean (1 : Int32) = (1 : Int32))]; exact hr)) (by decide) (by decide) ?_
  show Q_canE Z  h0 n0 _ s₁.heap _
  rw [e0]
  exact ⟨rfl, N0, rfl⟩
theorem ef_max0 (m : MethodId) (x0 : Int32) : entryFrame m #[(.int x0), (.int 0)] 2 = mkF m 0 #[vI x0, vI 0] [] := by
  first | (simp [entryFrame, mkF, argsToLocals, Value.category]; done) | rfl
def Q_max0 (Z : State) (x1 : Int32) (h0 : Heap) (n0 : Nat) (v : Option Value) (h : Heap) (L : List Loc) : Prop := v = some (.int x1) ∧ Fr n0 L ∧ h = h0
theorem d11_0 : decode jdk_29_method_65_code 0 = .ok (.iload_n 0, 1) := by decide +kernel
theorem d11_1 : decode jdk_29_method_65_code 1 = .ok (.iload_n 1, 1) := by decide +kernel
theorem d11_2 : decode jdk_29_method_65_code 2 = .ok (.if_icmp .lt 7, 3) := by decide +kernel
theorem d11_5 : decode jdk_29_method_65_code 5 = .ok (.iload_n 0, 1) := by decide +kernel
theorem d11_6 : decode jdk_29_method_65_code 6 = .ok (.goto 4, 3) := by decide +kernel
theorem d11_10 : decode jdk_29_method_65_code 10 = .ok (.ireturn, 1) := by decide +kernel
set_option maxRecDepth 65536 in
set_option maxHeartbeats 40000000 in
theorem rm_max0 (l : Launch) (Z : State) (a0 : Array Value) (hw : ∀ d ∈ tables_1, d.before a0 Z = true) (ws : List Jvm.Cond) (wG1 : Int32) (wG3 : Value) (wG5 : Addr) (wK5 : ClassId) (cx : OwnCx Z a0 wG1 wG3 wG5 wK5) (hEL : EW Z a0 consts_1) (h0 : Heap) (n0 : Nat) (X00 : Old Z n0 h0) (x1 : Int32) (hx1 : ¬ (x1 < (0 : Int32))) :
    MetFree l mN11 (head1 (Jvm.Cond.code mN11 jdk_29_method_65_code 2 (some .int) :: ws) (oR 0 0 0 0)) (fun a U => a = #[(.int x1), (.int 0)] ∧ Z.Warmed39 U.vm ∧ U.heap = h0) (fun _ _ _ _ _ => True) (fun _ U o U' => ∃ v L, o = .returned v ∧ Q_max0 Z x1 h0 n0 v U'.heap L ∧ FrameEnd U o U' L (oR 0 0 0 0).cells (oR 0 0 0 0).slots) := by
  refine MetFree.of_bodySF (Jvm.Free.JP.mathPlain rfl (by decide +kernel)) hisR ?_
  intro p e s m args below meth c s₁ Bd hml0 hP hK
  obtain ⟨rfl, hZ, hh⟩ := hP
  obtain ⟨wO2, wP5, wO4, wrG3, hstr, wO5, wV5⟩ := id cx
  have hx := Bd.exec
  have hby := Bd.bytes
  have hlk := Bd.notSynchronized
  have hml : c.maxLocals = 2 := hml0
  have hown : s.vm.findClass "java/lang/Math" = some m.cls := findClass_of_methodNamed Bd.named
  have hnm := (name_of_methodNamed Bd.named Bd.method).1
  have X0 : Stand p l e (oR 0 0 0 0) s m #[(.int x1), (.int 0)] below meth c s₁ [] 0 0 := Stand.of_body Bd
  have e0 : s₁.heap = h0 := by rw [← hh, Bd.state]; rfl
  have N0 := Fr.nil n0
  have Z0 : n0 ≤ h0.size := X00.1 ▸ X00.2.1
  have K0 : Keep h0 h0 ([] : List Addr) := Keep.refl _ _
  show OwnGoes p e below _ s₁ (entryFrame m _ _)
  refine og s₁ m 0 #[vI x1, vI 0] [] (fun tgt kgo => castTop (ef_max0 m x1) kgo) ?_
  refine og s₁ m 10 #[vI x1, vI 0] [(.int x1)] (fun tgt kgo => ?_) ?_
  · refine XS.iloadN X0.here hx rfl (hb hby d11_0) rfl ?_
    refine XS.iloadN X0.here hx rfl (hb hby d11_1) rfl ?_
    refine XS.icmpNo X0.here hx rfl (hb hby d11_2) rfl (flt hx1).1 ?_
    show OwnG p e below s₁ m 5 #[vI x1, vI 0] [] tgt
    refine XS.iloadN X0.here hx rfl (hb hby d11_5) rfl ?_
    refine XS.goto X0.here hx rfl (pc0 := 6) (pc' := 10) rfl (hb hby d11_6) (by decide) (by decide) ?_
    exact kgo
  refine own_leave X0 hlk (v := some (.int x1)) (fun h => by rw [Bd.returns] at h; cases h) (fun fs hr => retI X0 hx Bd.returns (hb hby d11_10) hr) (by decide) (by decide) ?_
  show Q_max0 Z x1 h0 n0 _ s₁.heap _
  rw [e0]
  exact ⟨rfl, N0, rfl⟩
theorem ef_max10 (m : MethodId)  : entryFrame m #[(.int 10), (.int 1)] 2 = mkF m 0 #[vI 10, vI 1] [] := by
  first | (simp [entryFrame, mkF, argsToLocals, Value.category]; done) | rfl
def Q_max10 (Z : State)  (h0 : Heap) (n0 : Nat) (v : Option Value) (h : Heap) (L : List Loc) : Prop := v = some (.int 10) ∧ Fr n0 L ∧ h = h0
set_option maxRecDepth 65536 in
set_option maxHeartbeats 40000000 in
theorem rm_max10 (l : Launch) (Z : State) (a0 : Array Value) (hw : ∀ d ∈ tables_1, d.before a0 Z = true) (ws : List Jvm.Cond) (wG1 : Int32) (wG3 : Value) (wG5 : Addr) (wK5 : ClassId) (cx : OwnCx Z a0 wG1 wG3 wG5 wK5) (hEL : EW Z a0 consts_1) (h0 : Heap) (n0 : Nat) (X00 : Old Z n0 h0)  :
    MetFree l mN11 (head1 (Jvm.Cond.code mN11 jdk_29_method_65_code 2 (some .int) :: ws) (oR 0 0 0 0)) (fun a U => a = #[(.int 10), (.int 1)] ∧ Z.Warmed39 U.vm ∧ U.heap = h0) (fun _ _ _ _ _ => True) (fun _ U o U' => ∃ v L, o = .returned v ∧ Q_max10 Z  h0 n0 v U'.heap L ∧ FrameEnd U o U' L (oR 0 0 0 0).cells (oR 0 0 0 0).slots) := by
  refine MetFree.of_bodySF (Jvm.Free.JP.mathPlain rfl (by decide +kernel)) hisR ?_
  intro p e s m args below meth c s₁ Bd hml0 hP hK
  obtain ⟨rfl, hZ, hh⟩ := hP
  obtain ⟨wO2, wP5, wO4, wrG3, hstr, wO5, wV5⟩ := id cx
  have hx := Bd.exec
  have hby := Bd.bytes
  have hlk := Bd.notSynchronized
  have hml : c.maxLocals = 2 := hml0
  have hown : s.vm.findClass "java/lang/Math" = some m.cls := findClass_of_methodNamed Bd.named
  have hnm := (name_of_methodNamed Bd.named Bd.method).1
  have X0 : Stand p l e (oR 0 0 0 0) s m #[(.int 10), (.int 1)] below meth c s₁ [] 0 0 := Stand.of_body Bd
  have e0 : s₁.heap = h0 := by rw [← hh, Bd.state]; rfl
  have N0 := Fr.nil n0
  have Z0 : n0 ≤ h0.size := X00.1 ▸ X00.2.1
  have K0 : Keep h0 h0 ([] : List Addr) := Keep.refl _ _
  show OwnGoes p e below _ s₁ (entryFrame m _ _)
  refine og s₁ m 0 #[vI 10, vI 1] [] (fun tgt kgo => castTop (ef_max10 m ) kgo) ?_
  refine og s₁ m 10 #[vI 10, vI 1] [(.int 10)] (fun tgt kgo => ?_) ?_
  · refine XS.iloadN X0.here hx rfl (hb hby d11_0) rfl ?_
    refine XS.iloadN X0.here hx rfl (hb hby d11_1) rfl ?_
    refine XS.icmpNo X0.here hx rfl (hb hby d11_2) rfl (flt (by decide : ¬ ((10 : Int32) < (1 : Int32)))).1 ?_
    show OwnG p e below s₁ m 5 #[vI 10, vI 1] [] tgt
    refine XS.iloadN X0.here hx rfl (hb hby d11_5) rfl ?_
    refine XS.goto X0.here hx rfl (pc0 := 6) (pc' := 10) rfl (hb hby d11_6) (by decide) (by decide) ?_
    exact kgo
  refine own_leave X0 hlk (v := some (.int 10)) (fun h => by rw [Bd.returns] at h; cases h) (fun fs hr => retI X0 hx Bd.returns (hb hby d11_10) hr) (by decide) (by decide) ?_
  show Q_max10 Z  h0 n0 _ s₁.heap _
  rw [e0]
  exact ⟨rfl, N0, rfl⟩
theorem ef_minx (m : MethodId) (x0 : Int32) (x1 : Int32) : entryFrame m #[(.int x0), (.int x1)] 2 = mkF m 0 #[vI x0, vI x1] [] := by
  first | (simp [entryFrame, mkF, argsToLocals, Value.category]; done) | rfl
def Q_minx (Z : State) (x1 : Int32) (h0 : Heap) (n0 : Nat) (v : Option Value) (h : Heap) (L : List Loc) : Prop := v = some (.int x1) ∧ Fr n0 L ∧ h = h0
theorem d12_0 : decode jdk_29_method_69_code 0 = .ok (.iload_n 0, 1) := by decide +kernel
theorem d12_1 : decode jdk_29_method_69_code 1 = .ok (.iload_n 1, 1) := by decide +kernel
theorem d12_2 : decode jdk_29_method_69_code 2 = .ok (.if_icmp .gt 7, 3) := by decide +kernel
theorem d12_5 : decode jdk_29_method_69_code 5 = .ok (.iload_n 0, 1) := by decide +kernel
theorem d12_6 : decode jdk_29_method_69_code 6 = .ok (.goto 4, 3) := by decide +kernel
theorem d12_10 : decode jdk_29_method_69_code 10 = .ok (.ireturn, 1) := by decide +kernel
set_option maxRecDepth 65536 in
set_option maxHeartbeats 40000000 in
theorem rm_minx (l : Launch) (Z : State) (a0 : Array Value) (hw : ∀ d ∈ tables_1, d.before a0 Z = true) (ws : List Jvm.Cond) (wG1 : Int32) (wG3 : Value) (wG5 : Addr) (wK5 : ClassId) (cx : OwnCx Z a0 wG1 wG3 wG5 wK5) (hEL : EW Z a0 consts_1) (h0 : Heap) (n0 : Nat) (X00 : Old Z n0 h0) (x1 : Int32) (hx1 : ¬ (x1 < x1)) :
    MetFree l mN12 (head1 (Jvm.Cond.code mN12 jdk_29_method_69_code 2 (some .int) :: ws) (oR 0 0 0 0)) (fun a U => a = #[(.int x1), (.int x1)] ∧ Z.Warmed39 U.vm ∧ U.heap = h0) (fun _ _ _ _ _ => True) (fun _ U o U' => ∃ v L, o = .returned v ∧ Q_minx Z x1 h0 n0 v U'.heap L ∧ FrameEnd U o U' L (oR 0 0 0 0).cells (oR 0 0 0 0).slots) := by
  refine MetFree.of_bodySF (Jvm.Free.JP.mathPlain rfl (by decide +kernel)) hisR ?_
  intro p e s m args below meth c s₁ Bd hml0 hP hK
  obtain ⟨rfl, hZ, hh⟩ := hP
  obtain ⟨wO2, wP5, wO4, wrG3, hstr, wO5, wV5⟩ := id cx
  have hx := Bd.exec
  have hby := Bd.bytes
  have hlk := Bd.notSynchronized
  have hml : c.maxLocals = 2 := hml0
  have hown : s.vm.findClass "java/lang/Math" = some m.cls := findClass_of_methodNamed Bd.named
  have hnm := (name_of_methodNamed Bd.named Bd.method).1
  have X0 : Stand p l e (oR 0 0 0 0) s m #[(.int x1), (.int x1)] below meth c s₁ [] 0 0 := Stand.of_body Bd
  have e0 : s₁.heap = h0 := by rw [← hh, Bd.state]; rfl
  have N0 := Fr.nil n0
  have Z0 : n0 ≤ h0.size := X00.1 ▸ X00.2.1
  have K0 : Keep h0 h0 ([] : List Addr) := Keep.refl _ _
  show OwnGoes p e below _ s₁ (entryFrame m _ _)
  refine og s₁ m 0 #[vI x1, vI x1] [] (fun tgt kgo => castTop (ef_minx m x1 x1) kgo) ?_
  refine og s₁ m 10 #[vI x1, vI x1] [(.int x1)] (fun tgt kgo => ?_) ?_
  · refine XS.iloadN X0.here hx rfl (hb hby d12_0) rfl ?_
    refine XS.iloadN X0.here hx rfl (hb hby d12_1) rfl ?_
    refine XS.icmpNo X0.here hx rfl (hb hby d12_2) rfl (flt hx1).2.2.1 ?_
    show OwnG p e below s₁ m 5 #[vI x1, vI x1] [] tgt
    refine XS.iloadN X0.here hx rfl (hb hby d12_5) rfl ?_
    refine XS.goto X0.here hx rfl (pc0 := 6) (pc' := 10) rfl (hb hby d12_6) (by decide) (by decide) ?_
    exact kgo
  refine own_leave X0 hlk (v := some (.int x1)) (fun h => by rw [Bd.returns] at h; cases h) (fun fs hr => retI X0 hx Bd.returns (hb hby d12_10) hr) (by decide) (by decide) ?_
  show Q_minx Z x1 h0 n0 _ s₁.heap _
  rw [e0]
  exact ⟨rfl, N0, rfl⟩
theorem ef_ioc (m : MethodId) (x0 : Addr) (x2 : Int32) (x3 : Int32) : entryFrame m #[(.ref x0), (.int 47), (.int x2), (.int x3)] 6 = mkF m 0 #[vR x0, vI 47, vI x2, vI x3, vU, vU] [] := by
  first | (simp [entryFrame, mkF, argsToLocals, Value.category]; done) | rfl
def Q_ioc (Z : State) (ta : Addr) (ka : ClassId) (na : Int32) (vsa : List Value) (cs1 : List Int32) (fr1 : Nat) (h0 : Heap) (n0 : Nat) (v : Option Value) (h : Heap) (L : List Loc) : Prop := ∃ (r : Int32), v = some (.int r) ∧ Fr n0 L ∧ h = h0 ∧ (OwnIdx cs1 fr1 r)
theorem d13_0 : decode jdk_43_method_23_code 0 = .ok (.iload_n 1, 1) := by decide +kernel
theorem d13_1 : decode jdk_43_method_23_code 1 = .ok (.i2b, 1) := by decide +kernel
theorem d13_2 : decode jdk_43_method_23_code 2 = .ok (.istore 4, 2) := by decide +kernel
theorem d13_4 : decode jdk_43_method_23_code 4 = .ok (.iload_n 2, 1) := by decide +kernel
theorem d13_5 : decode jdk_43_method_23_code 5 = .ok (.istore 5, 2) := by decide +kernel
theorem d13_7 : decode jdk_43_method_23_code 7 = .ok (.iload 5, 2) := by decide +kernel
theorem d13_9 : decode jdk_43_method_23_code 9 = .ok (.iload_n 3, 1) := by decide +kernel
theorem d13_10 : decode jdk_43_method_23_code 10 = .ok (.if_icmp .ge 21, 3) := by decide +kernel
theorem d13_31 : decode jdk_43_method_23_code 31 = .ok (.iconst (-1), 1) := by decide +kernel
theorem d13_32 : decode jdk_43_method_23_code 32 = .ok (.ireturn, 1) := by decide +kernel
theorem d13_13 : decode jdk_43_method_23_code 13 = .ok (.aload_n 0, 1) := by decide +kernel
theorem d13_14 : decode jdk_43_method_23_code 14 = .ok (.iload 5, 2) := by decide +kernel
theorem d13_16 : decode jdk_43_method_23_code 16 = .ok (.baload, 1) := by decide +kernel
theorem d13_17 : decode jdk_43_method_23_code 17 = .ok (.iload 4, 2) := by decide +kernel
theorem d13_19 : decode jdk_43_method_23_code 19 = .ok (.if_icmp .ne 6, 3) := by decide +kernel
theorem d13_22 : decode jdk_43_method_23_code 22 = .ok (.iload 5, 2) := by decide +kernel
theorem d13_24 : decode jdk_43_method_23_code 24 = .ok (.ireturn, 1) := by decide +kernel
theorem d13_25 : decode jdk_43_method_23_code 25 = .ok (.iinc 5 1, 3) := by decide +kernel
theorem d13_28 : decode jdk_43_method_23_code 28 = .ok (.goto (-21), 3) := by decide +kernel
set_option maxRecDepth 65536 in
set_option maxHeartbeats 40000000 in
theorem rm_ioc (l : Launch) (Z : State) (a0 : Array Value) (hw : ∀ d ∈ tables_1, d.before a0 Z = true) (ws : List Jvm.Cond) (wG1 : Int32) (wG3 : Value) (wG5 : Addr) (wK5 : ClassId) (cx : OwnCx Z a0 wG1 wG3 wG5 wK5) (hEL : EW Z a0 consts_1) (h0 : Heap) (n0 : Nat) (X00 : Old Z n0 h0) (ta : Addr) (ka : ClassId) (na : Int32) (vsa : List Value) (cs1 : List Int32) (fr1 : Nat) (f0 : Arv Z h0 ta ka .byte na vsa (.int 0)) (hos : OwnStr cs1 (0 : Int32) na vsa) (hf : fr1 ≤ cs1.length) :
    MetFree l mN13 (head1 (Jvm.Cond.code mN13 jdk_43_method_23_code 6 (some .int) :: ws) (oR 0 0 0 0)) (fun a U => a = #[(.ref ta), (.int 47), (.int (Int32.ofNat fr1)), (.int na)] ∧ Z.Warmed39 U.vm ∧ U.heap = h0) (fun _ _ _ _ _ => True) (fun _ U o U' => ∃ v L, o = .returned v ∧ Q_ioc Z ta ka na vsa cs1 fr1 h0 n0 v U'.heap L ∧ FrameEnd U o U' L (oR 0 0 0 0).cells (oR 0 0 0 0).slots) := by
  refine MetFree.of_bodySF (plainFor_of_name pn_54843740) hisR ?_
  intro p e s m args below meth c s₁ Bd hml0 hP hK
  obtain ⟨rfl, hZ, hh⟩ := hP
  obtain ⟨wO2, wP5, wO4, wrG3, hstr, wO5, wV5⟩ := id cx
  have hx := Bd.exec
  have hby := Bd.bytes
  have hlk := Bd.notSynchronized
  have hml : c.maxLocals = 6 := hml0
  have hown : s.vm.findClass "java/lang/StringLatin1" = some m.cls := findClass_of_methodNamed Bd.named
  have hnm := (name_of_methodNamed Bd.named Bd.method).1
  have X0 : Stand p l e (oR 0 0 0 0) s m #[(.ref ta), (.int 47), (.int (Int32.ofNat fr1)), (.int na)] below meth c s₁ [] 0 0 := Stand.of_body Bd
  have e0 : s₁.heap = h0 := by rw [← hh, Bd.state]; rfl
  have N0 := Fr.nil n0
  have Z0 : n0 ≤ h0.size := X00.1 ▸ X00.2.1
  have K0 : Keep h0 h0 ([] : List Addr) := Keep.refl _ _
  show OwnGoes p e below _ s₁ (entryFrame m _ _)
  refine og s₁ m 0 #[vR ta, vI 47, vI (Int32.ofNat fr1), vI na, vU, vU] [] (fun tgt kgo => castTop (ef_ioc m ta (Int32.ofNat fr1) na) kgo) ?_
  refine og s₁ m 7 #[vR ta, vI 47, vI (Int32.ofNat fr1), vI na, vI 47, vI (Int32.ofNat fr1)] [] (fun tgt kgo => ?_) ?_
  · refine XS.iloadN X0.here hx rfl (hb hby d13_0) rfl ?_
    refine XS.i2b X0.here hx rfl (hb hby d13_1) rfl ?_
    refine XS.istore X0.here hx rfl (hb hby d13_2) rfl (l' := #[vR ta, vI 47, vI (Int32.ofNat fr1), vI na, vI 47, vU]) rfl ?_
    show OwnG p e below s₁ m 4 #[vR ta, vI 47, vI (Int32.ofNat fr1), vI na, vI 47, vU] [] tgt
    refine XS.iloadN X0.here hx rfl (hb hby d13_4) rfl ?_
    refine XS.istore X0.here hx rfl (hb hby d13_5) rfl (l' := #[vR ta, vI 47, vI (Int32.ofNat fr1), vI na, vI 47, vI (Int32.ofNat fr1)]) rfl ?_
    exact kgo
  have hloop : ∀ (kt it : Nat), it + kt = cs1.length → fr1 ≤ it → (∀ j, fr1 ≤ j → j < it → ¬ cs1.getD j 0 = 47) → OwnGoes p e below (fun o U' => ∃ v L, o = .returned v ∧ Q_ioc Z ta ka na vsa cs1 fr1 h0 n0 v U'.heap L ∧ FrameEnd s o U' L (oR 0 0 0 0).cells (oR 0 0 0 0).slots) s₁ (mkF m 7 #[vR ta, vI 47, vI (Int32.ofNat fr1), vI na, vI 47, vI (Int32.ofNat it)] []) := by
    intro kt
    induction kt with
    | zero =>
      intro it hit hle hinv
      refine og s₁ m 32 #[vR ta, vI 47, vI (Int32.ofNat fr1), vI na, vI 47, vI (Int32.ofNat it)] [(.int (-1))] (fun tgt kgo => ?_) ?_
      · refine XS.iload X0.here hx rfl (hb hby d13_7) rfl ?_
        refine XS.iloadN X0.here hx rfl (hb hby d13_9) rfl ?_
        refine XS.icmpYes X0.here hx rfl (pc0 := 10) (pc' := 31) rfl (hb hby d13_10) rfl (flt (fun q => absurd ((own_na hos (by have := hos.2.2; omega)).1.mp q) (by omega))).2.1 (by decide) (by decide) ?_
        show OwnG p e below s₁ m 31 #[vR ta, vI 47, vI (Int32.ofNat fr1), vI na, vI 47, vI (Int32.ofNat it)] [] tgt
        refine XS.iconst X0.here hx rfl (hb hby d13_31) ?_
        exact kgo
      refine own_leave X0 hlk (v := some (.int (-1))) (fun h => by rw [Bd.returns] at h; cases h) (fun fs hr => retI X0 hx Bd.returns (hb hby d13_32) hr) (by decide) (by decide) ?_
      show Q_ioc Z ta ka na vsa cs1 fr1 h0 n0 _ s₁.heap _
      rw [e0]
      exact ⟨(-1 : Int32), rfl, N0, rfl, (Or.inl ⟨rfl, fun j h1 h2 => hinv j h1 (by omega)⟩)⟩
    | succ kt ih =>
      intro it hit hle hinv
      have hlt : it < cs1.length := by omega
      refine og s₁ m 19 #[vR ta, vI 47, vI (Int32.ofNat fr1), vI na, vI 47, vI (Int32.ofNat it)] [(.int 47), (.int (StrChars.lo8 (cs1.getD it 0)))] (fun tgt kgo => ?_) ?_
      · refine XS.iload X0.here hx rfl (hb hby d13_7) rfl ?_
        refine XS.iloadN X0.here hx rfl (hb hby d13_9) rfl ?_
        refine XS.icmpNo X0.here hx rfl (hb hby d13_10) rfl (tlt ((own_na hos (by have := hos.2.2; omega)).1.mpr hlt)).2.1 ?_
        show OwnG p e below s₁ m 13 #[vR ta, vI 47, vI (Int32.ofNat fr1), vI na, vI 47, vI (Int32.ofNat it)] [] tgt
        refine XS.aloadN X0.here hx rfl (hb hby d13_13) rfl rfl ?_
        refine XS.iload X0.here hx rfl (hb hby d13_14) rfl ?_
        show OwnG p e below s₁ m 16 #[vR ta, vI 47, vI (Int32.ofNat fr1), vI na, vI 47, vI (Int32.ofNat it)] [(.int (Int32.ofNat it)), (.ref ta)] tgt
        obtain ⟨cl2, Ar2, q2, S2, M2, H2, G2⟩ := f0
        refine X0.baloadBytes hx (j := (Int32.ofNat it)) (v := (.int (StrChars.lo8 (cs1.getD it 0)))) (by rw [e0]; exact Ar2.1) (State.isArrayOf_alike hZ.alike Ar2.2.1) Ar2.2.2 (inb_of S2 (own_ld hos hlt).1) (Has.at H2 (inb_of S2 (own_ld hos hlt).1) (own_ld hos hlt).2) (g := (mkF m 16 #[vR ta, vI 47, vI (Int32.ofNat fr1), vI na, vI 47, vI (Int32.ofNat it)] [(.int (Int32.ofNat it)), (.ref ta)])) rfl rfl (hb hby d13_16) _ ?_
        show OwnG p e below s₁ m 17 #[vR ta, vI 47, vI (Int32.ofNat fr1), vI na, vI 47, vI (Int32.ofNat it)] [(.int (StrChars.lo8 (cs1.getD it 0)))] tgt
        refine XS.iload X0.here hx rfl (hb hby d13_17) rfl ?_
        exact kgo
      by_cases cc3 : (StrChars.lo8 (cs1.getD it 0)) = (47 : Int32)
      · skip
        refine og s₁ m 24 #[vR ta, vI 47, vI (Int32.ofNat fr1), vI na, vI 47, vI (Int32.ofNat it)] [(.int (Int32.ofNat it))] (fun tgt kgo => ?_) ?_
        · refine XS.icmpNo X0.here hx rfl (hb hby d13_19) rfl (teq cc3).2 ?_
          refine XS.iload X0.here hx rfl (hb hby d13_22) rfl ?_
          exact kgo
        refine own_leave X0 hlk (v := some (.int (Int32.ofNat it))) (fun h => by rw [Bd.returns] at h; cases h) (fun fs hr => retI X0 hx Bd.returns (hb hby d13_24) hr) (by decide) (by decide) ?_
        show Q_ioc Z ta ka na vsa cs1 fr1 h0 n0 _ s₁.heap _
        rw [e0]
        exact ⟨(Int32.ofNat it), rfl, N0, rfl, (Or.inr ⟨it, rfl, hle, hlt, (own_47 hos hlt).mp cc3, hinv⟩)⟩
      refine og s₁ m 7 #[vR ta, vI 47, vI (Int32.ofNat fr1), vI na, vI 47, vI ((Int32.ofNat it) + (1 : Int32))] [] (fun tgt kgo => ?_) ?_
      · refine XS.icmpYes X0.here hx rfl (pc0 := 19) (pc' := 25) rfl (hb hby d13_19) rfl (feq cc3).2 (by decide) (by decide) ?_
        refine XS.iinc X0.here hx rfl (hb hby d13_25) rfl (l' := #[vR ta, vI 47, vI (Int32.ofNat fr1), vI na, vI 47, vI ((Int32.ofNat it) + (1 : Int32))]) rfl ?_
        refine XS.goto X0.here hx rfl (pc0 := 28) (pc' := 7) rfl (hb hby d13_28) (by decide) (by decide) ?_
        exact kgo
      refine og s₁ m 7 #[vR ta, vI 47, vI (Int32.ofNat fr1), vI na, vI 47, vI (Int32.ofNat (it + 1))] [] (fun tgt kgo => castTop (by rw [(own_add1 it)]) kgo) ?_
      exact ih (it + 1) (by omega) (by omega) (fun j h1 h2 => by
          by_cases hj : j < it
          · exact hinv j h1 hj
          · obtain rfl : j = it := by omega
            exact fun q => cc3 ((own_47 hos hlt).mpr q))
  exact hloop (cs1.length - fr1) fr1 (by omega) (Nat.le_refl _) (fun j h1 h2 => absurd h2 (by omega))
theorem ef_lio (m : MethodId) (x0 : Addr) (x2 : Int32) (x3 : Int32) : entryFrame m #[(.ref x0), (.int 47), (.int x2), (.int x3)] 4 = mkF m 0 #[vR x0, vI 47, vI x2, vI x3] [] := by
  first | (simp [entryFrame, mkF, argsToLocals, Value.category]; done) | rfl
def Q_lio (Z : State) (ta : Addr) (ka : ClassId) (na : Int32) (vsa : List Value) (cs1 : List Int32) (fr1 : Nat) (h0 : Heap) (n0 : Nat) (v : Option Value) (h : Heap) (L : List Loc) : Prop := ∃ (r : Int32), v = some (.int r) ∧ Fr n0 L ∧ h = h0 ∧ (OwnIdx cs1 fr1 r)
theorem d14_0 : decode jdk_43_method_22_code 0 = .ok (.iload_n 1, 1) := by decide +kernel
theorem d14_1 : decode jdk_43_method_22_code 1 = .ok (.invokestatic 88, 3) := by decide +kernel
theorem pd_1097859 : parseMethodDescriptor "(I)Z" = some ⟨[.int], some .boolean⟩ := by decide +kernel
theorem d14_4 : decode jdk_43_method_22_code 4 = .ok (.ifCond .ne 5, 3) := by decide +kernel
theorem d14_9 : decode jdk_43_method_22_code 9 = .ok (.iload_n 2, 1) := by decide +kernel
theorem d14_10 : decode jdk_43_method_22_code 10 = .ok (.iconst 0, 1) := by decide +kernel
theorem d14_11 : decode jdk_43_method_22_code 11 = .ok (.invokestatic 92, 3) := by decide +kernel
theorem pd_50523903 : parseMethodDescriptor "(II)I" = some ⟨[.int, .int], some .int⟩ := by decide +kernel
theorem d14_14 : decode jdk_43_method_22_code 14 = .ok (.istore_n 2, 1) := by decide +kernel
theorem d14_15 : decode jdk_43_method_22_code 15 = .ok (.iload_n 3, 1) := by decide +kernel
theorem d14_16 : decode jdk_43_method_22_code 16 = .ok (.aload_n 0, 1) := by decide +kernel
theorem d14_17 : decode jdk_43_method_22_code 17 = .ok (.arraylength, 1) := by decide +kernel
theorem d14_18 : decode jdk_43_method_22_code 18 = .ok (.invokestatic 38, 3) := by decide +kernel
theorem d14_21 : decode jdk_43_method_22_code 21 = .ok (.istore_n 3, 1) := by decide +kernel
theorem d14_22 : decode jdk_43_method_22_code 22 = .ok (.iload_n 2, 1) := by decide +kernel
theorem d14_23 : decode jdk_43_method_22_code 23 = .ok (.iload_n 3, 1) := by decide +kernel
theorem d14_24 : decode jdk_43_method_22_code 24 = .ok (.if_icmp .lt 5, 3) := by decide +kernel
theorem d14_29 : decode jdk_43_method_22_code 29 = .ok (.aload_n 0, 1) := by decide +kernel
theorem d14_30 : decode jdk_43_method_22_code 30 = .ok (.iload_n 1, 1) := by decide +kernel
theorem d14_31 : decode jdk_43_method_22_code 31 = .ok (.iload_n 2, 1) := by decide +kernel
theorem d14_32 : decode jdk_43_method_22_code 32 = .ok (.iload_n 3, 1) := by decide +kernel
theorem d14_33 : decode jdk_43_method_22_code 33 = .ok (.invokestatic 95, 3) := by decide +kernel
theorem pd_68989375 : parseMethodDescriptor "([BIII)I" = some ⟨[(.array .byte), .int, .int, .int], some .int⟩ := by decide +kernel
theorem d14_36 : decode jdk_43_method_22_code 36 = .ok (.ireturn, 1) := by decide +kernel
theorem d14_27 : decode jdk_43_method_22_code 27 = .ok (.iconst (-1), 1) := by decide +kernel
theorem d14_28 : decode jdk_43_method_22_code 28 = .ok (.ireturn, 1) := by decide +kernel
set_option maxRecDepth 65536 in
set_option maxHeartbeats 40000000 in
theorem rm_lio (l : Launch) (Z : State) (a0 : Array Value) (hw : ∀ d ∈ tables_1, d.before a0 Z = true) (ws : List Jvm.Cond) (wG1 : Int32) (wG3 : Value) (wG5 : Addr) (wK5 : ClassId) (cx : OwnCx Z a0 wG1 wG3 wG5 wK5) (hEL : EW Z a0 consts_1) (h0 : Heap) (n0 : Nat) (X00 : Old Z n0 h0) (ta : Addr) (ka : ClassId) (na : Int32) (vsa : List Value) (cs1 : List Int32) (fr1 : Nat) (f0 : Arv Z h0 ta ka .byte na vsa (.int 0)) (hos : OwnStr cs1 (0 : Int32) na vsa) (hf : fr1 ≤ 4000) :
    MetFree l mN14 (head1 (Jvm.Cond.code mN14 jdk_43_method_22_code 4 (some .int) :: ws) (oR 1 0 0 17)) (fun a U => a = #[(.ref ta), (.int 47), (.int (Int32.ofNat fr1)), (.int na)] ∧ Z.Warmed39 U.vm ∧ U.heap = h0) (fun _ _ _ _ _ => True) (fun _ U o U' => ∃ v L, o = .returned v ∧ Q_lio Z ta ka na vsa cs1 fr1 h0 n0 v U'.heap L ∧ FrameEnd U o U' L (oR 1 0 0 17).cells (oR 1 0 0 17).slots) := by
  refine MetFree.of_bodySF (plainFor_of_name pn_54843740) hisR ?_
  intro p e s m args below meth c s₁ Bd hml0 hP hK
  obtain ⟨rfl, hZ, hh⟩ := hP
  obtain ⟨wO2, wP5, wO4, wrG3, hstr, wO5, wV5⟩ := id cx
  have hx := Bd.exec
  have hby := Bd.bytes
  have hlk := Bd.notSynchronized
  have hml : c.maxLocals = 4 := hml0
  have hown : s.vm.findClass "java/lang/StringLatin1" = some m.cls := findClass_of_methodNamed Bd.named
  have hnm := (name_of_methodNamed Bd.named Bd.method).1
  have X0 : Stand p l e (oR 1 0 0 17) s m #[(.ref ta), (.int 47), (.int (Int32.ofNat fr1)), (.int na)] below meth c s₁ [] 0 0 := Stand.of_body Bd
  have e0 : s₁.heap = h0 := by rw [← hh, Bd.state]; rfl
  have N0 := Fr.nil n0
  have Z0 : n0 ≤ h0.size := X00.1 ▸ X00.2.1
  have K0 : Keep h0 h0 ([] : List Addr) := Keep.refl _ _
  show OwnGoes p e below _ s₁ (entryFrame m _ _)
  refine og s₁ m 0 #[vR ta, vI 47, vI (Int32.ofNat fr1), vI na] [] (fun tgt kgo => castTop (ef_lio m ta (Int32.ofNat fr1) na) kgo) ?_
  refine og s₁ m 1 #[vR ta, vI 47, vI (Int32.ofNat fr1), vI na] [(.int 47)] (fun tgt kgo => ?_) ?_
  · refine XS.iloadN X0.here hx rfl (hb hby d14_0) rfl ?_
    exact kgo
  obtain ⟨_, _, ⟨T1, L1, k1, n1⟩, -, X1, ⟨Lc1, hQ1, l1, y1, z1⟩, st1⟩ := Jvm.LawKit.callS X0 hx (y := mN10) hown (mvT hZ (own_w hw 88 rfl)) (mvT hZ (own_w hw 89 rfl)) (mvT hZ (own_w hw 86 rfl)) (mvT hZ (own_w hw 90 rfl)) (by decide) (backOf (W := 0) (rm_canE l Z a0 hw [] wG1 wG3 wG5 wK5 cx hEL h0 n0 X00 ) hZ (own_w hw 90 rfl) (own_w hw 86 rfl) (by decide) (by decide)) (g := (mkF m 1 #[vR ta, vI 47, vI (Int32.ofNat fr1), vI na] [(.int 47)])) rfl (by rw [hml]; rfl) (argsL := [(.int 47)]) (rest := []) (lenOf pd_1097859 rfl) rfl (Nat.le_of_eq rfl) (hb hby d14_1) (fun _ _ => ⟨rfl, e0, (by decide : 0 + 0 ≤ _), (by decide : 0 + 0 ≤ _)⟩)
  dsimp only [Pt.U, Pt.locs, Pt.cells, Pt.slots] at X1 l1 y1 z1 st1 hQ1
  subst l1 y1 z1
  obtain ⟨rfl, Nq1, eq1⟩ := hQ1
  refine og T1 m 4 #[vR ta, vI 47, vI (Int32.ofNat fr1), vI na] [(.int 1)] st1 ?_
  have N1 := Fr.app N0 Nq1
  refine og T1 m 11 #[vR ta, vI 47, vI (Int32.ofNat fr1), vI na] [(.int 0), (.int (Int32.ofNat fr1))] (fun tgt kgo => ?_) ?_
  · refine XS.ifYes X1.here hx rfl (pc0 := 4) (pc' := 9) rfl (hb hby d14_4) rfl ((if0 _ _).trans (feq (by decide : ¬ ((1 : Int32) = (0 : Int32)))).2) (by decide) (by decide) ?_
    refine XS.iloadN X1.here hx rfl (hb hby d14_9) rfl ?_
    refine XS.iconst X1.here hx rfl (hb hby d14_10) ?_
    exact kgo
  obtain ⟨_, _, ⟨T2, L2, k2, n2⟩, -, X2, ⟨Lc2, hQ2, l2, y2, z2⟩, st2⟩ := Jvm.LawKit.callS X1 hx (y := mN11) hown (mvT hZ (own_w hw 91 rfl)) (mvT hZ (own_w hw 92 rfl)) (mvT hZ (own_w hw 93 rfl)) (mvT hZ (own_w hw 94 rfl)) (by decide) (backOf (W := 0) (rm_max0 l Z a0 hw [] wG1 wG3 wG5 wK5 cx hEL h0 n0 X00 (Int32.ofNat fr1) (own_nat hf).2.1) hZ (own_w hw 94 rfl) (own_w hw 93 rfl) (by decide) (by decide)) (g := (mkF m 11 #[vR ta, vI 47, vI (Int32.ofNat fr1), vI na] [(.int 0), (.int (Int32.ofNat fr1))])) rfl (by rw [hml]; rfl) (argsL := [(.int (Int32.ofNat fr1)), (.int 0)]) (rest := []) (lenOf pd_50523903 rfl) rfl (Nat.le_of_eq rfl) (hb hby d14_11) (fun _ _ => ⟨rfl, eq1, (by decide : 0 + 0 ≤ _), (by decide : 0 + 0 ≤ _)⟩)
  dsimp only [Pt.U, Pt.locs, Pt.cells, Pt.slots] at X2 l2 y2 z2 st2 hQ2
  subst l2 y2 z2
  obtain ⟨rfl, Nq2, eq2⟩ := hQ2
  refine og T2 m 14 #[vR ta, vI 47, vI (Int32.ofNat fr1), vI na] [(.int (Int32.ofNat fr1))] st2 ?_
  have N2 := Fr.app N1 Nq2
  refine og T2 m 18 #[vR ta, vI 47, vI (Int32.ofNat fr1), vI na] [(.int na), (.int na)] (fun tgt kgo => ?_) ?_
  · refine XS.istoreN X2.here hx rfl (hb hby d14_14) rfl (l' := #[vR ta, vI 47, vI (Int32.ofNat fr1), vI na]) rfl ?_
    refine XS.iloadN X2.here hx rfl (hb hby d14_15) rfl ?_
    refine XS.aloadN X2.here hx rfl (hb hby d14_16) rfl rfl ?_
    show OwnG p e below T2 m 17 #[vR ta, vI 47, vI (Int32.ofNat fr1), vI na] [(.ref ta), (.int na)] tgt
    obtain ⟨cl3, Ar3, q3, S3, M3, -, -⟩ := f0
    refine X2.arraylength hx (by rw [eq2]; exact Ar3.1) (State.isArrayOf_alike hZ.alike Ar3.2.1) (g := (mkF m 17 #[vR ta, vI 47, vI (Int32.ofNat fr1), vI na] [(.ref ta), (.int na)])) rfl rfl (hb hby d14_17) _ ?_
    rw [len_of S3 M3]
    exact kgo
  obtain ⟨_, _, ⟨T4, L4, k4, n4⟩, -, X4, ⟨Lc4, hQ4, l4, y4, z4⟩, st4⟩ := Jvm.LawKit.callS X2 hx (y := mN12) hown (mvT hZ (own_w hw 95 rfl)) (mvT hZ (own_w hw 96 rfl)) (mvT hZ (own_w hw 93 rfl)) (mvT hZ (own_w hw 97 rfl)) (by decide) (backOf (W := 0) (rm_minx l Z a0 hw [] wG1 wG3 wG5 wK5 cx hEL h0 n0 X00 na (own_irr na)) hZ (own_w hw 97 rfl) (own_w hw 93 rfl) (by decide) (by decide)) (g := (mkF m 18 #[vR ta, vI 47, vI (Int32.ofNat fr1), vI na] [(.int na), (.int na)])) rfl (by rw [hml]; rfl) (argsL := [(.int na), (.int na)]) (rest := []) (lenOf pd_50523903 rfl) rfl (Nat.le_of_eq rfl) (hb hby d14_18) (fun _ _ => ⟨rfl, eq2, (by decide : 0 + 0 ≤ _), (by decide : 0 + 0 ≤ _)⟩)
  dsimp only [Pt.U, Pt.locs, Pt.cells, Pt.slots] at X4 l4 y4 z4 st4 hQ4
  subst l4 y4 z4
  obtain ⟨rfl, Nq4, eq4⟩ := hQ4
  refine og T4 m 21 #[vR ta, vI 47, vI (Int32.ofNat fr1), vI na] [(.int na)] st4 ?_
  have N4 := Fr.app N2 Nq4
  refine og T4 m 24 #[vR ta, vI 47, vI (Int32.ofNat fr1), vI na] [(.int na), (.int (Int32.ofNat fr1))] (fun tgt kgo => ?_) ?_
  · refine XS.istoreN X4.here hx rfl (hb hby d14_21) rfl (l' := #[vR ta, vI 47, vI (Int32.ofNat fr1), vI na]) rfl ?_
    refine XS.iloadN X4.here hx rfl (hb hby d14_22) rfl ?_
    refine XS.iloadN X4.here hx rfl (hb hby d14_23) rfl ?_
    exact kgo
  by_cases cc5 : (Int32.ofNat fr1) < na
  · skip
    refine og T4 m 33 #[vR ta, vI 47, vI (Int32.ofNat fr1), vI na] [(.int na), (.int (Int32.ofNat fr1)), (.int 47), (.ref ta)] (fun tgt kgo => ?_) ?_
    · refine XS.icmpYes X4.here hx rfl (pc0 := 24) (pc' := 29) rfl (hb hby d14_24) rfl (tlt cc5).1 (by decide) (by decide) ?_
      refine XS.aloadN X4.here hx rfl (hb hby d14_29) rfl rfl ?_
      refine XS.iloadN X4.here hx rfl (hb hby d14_30) rfl ?_
      show OwnG p e below T4 m 31 #[vR ta, vI 47, vI (Int32.ofNat fr1), vI na] [(.int 47), (.ref ta)] tgt
      refine XS.iloadN X4.here hx rfl (hb hby d14_31) rfl ?_
      refine XS.iloadN X4.here hx rfl (hb hby d14_32) rfl ?_
      exact kgo
    obtain ⟨_, _, ⟨T6, L6, k6, n6⟩, -, X6, ⟨Lc6, hQ6, l6, y6, z6⟩, st6⟩ := Jvm.LawKit.callS X4 hx (y := mN13) hown (mvT hZ (own_w hw 131 rfl)) (mvT hZ (own_w hw 132 rfl)) (mvT hZ (own_w hw 86 rfl)) (mvT hZ (own_w hw 133 rfl)) (by decide) (backOf (W := 0) (rm_ioc l Z a0 hw [] wG1 wG3 wG5 wK5 cx hEL h0 n0 X00 ta ka na vsa cs1 fr1 f0 hos (Nat.le_of_lt ((own_na hos hf).1.mp cc5))) hZ (own_w hw 133 rfl) (own_w hw 86 rfl) (by decide) (by decide)) (g := (mkF m 33 #[vR ta, vI 47, vI (Int32.ofNat fr1), vI na] [(.int na), (.int (Int32.ofNat fr1)), (.int 47), (.ref ta)])) rfl (by rw [hml]; rfl) (argsL := [(.ref ta), (.int 47), (.int (Int32.ofNat fr1)), (.int na)]) (rest := []) (lenOf pd_68989375 rfl) rfl (Nat.le_of_eq rfl) (hb hby d14_33) (fun _ _ => ⟨rfl, eq4, (by decide : 0 + 0 ≤ _), (by decide : 0 + 0 ≤ _)⟩)
    dsimp only [Pt.U, Pt.locs, Pt.cells, Pt.slots] at X6 l6 y6 z6 st6 hQ6
    subst l6 y6 z6
    obtain ⟨r_6, rfl, Nq6, eq6, pq6_0⟩ := hQ6
    refine og T6 m 36 #[vR ta, vI 47, vI (Int32.ofNat fr1), vI na] [(.int r_6)] st6 ?_
    have N6 := Fr.app N4 Nq6
    refine own_leave X6 hlk (v := some (.int r_6)) (fun h => by rw [Bd.returns] at h; cases h) (fun fs hr => retI X6 hx Bd.returns (hb hby d14_36) hr) (by decide) (by decide) ?_
    show Q_lio Z ta ka na vsa cs1 fr1 h0 n0 _ T6.heap _
    rw [eq6]
    exact ⟨r_6, rfl, N6, rfl, pq6_0⟩
  refine og T4 m 28 #[vR ta, vI 47, vI (Int32.ofNat fr1), vI na] [(.int (-1))] (fun tgt kgo => ?_) ?_
  · refine XS.icmpNo X4.here hx rfl (hb hby d14_24) rfl (flt cc5).1 ?_
    refine XS.iconst X4.here hx rfl (hb hby d14_27) ?_
    exact kgo
  refine own_leave X4 hlk (v := some (.int (-1))) (fun h => by rw [Bd.returns] at h; cases h) (fun fs hr => retI X4 hx Bd.returns (hb hby d14_28) hr) (by decide) (by decide) ?_
  show Q_lio Z ta ka na vsa cs1 fr1 h0 n0 _ T4.heap _
  rw [eq4]
  exact ⟨(-1 : Int32), rfl, N4, rfl, (Or.inl ⟨rfl, fun j h1 h2 => absurd ((own_na hos hf).1.mpr (by omega)) cc5⟩)⟩
theorem ef_sio (m : MethodId) (x0 : Addr) (x2 : Int32) : entryFrame m #[(.ref x0), (.int 47), (.int x2)] 3 = mkF m 0 #[vR x0, vI 47, vI x2] [] := by
  first | (simp [entryFrame, mkF, argsToLocals, Value.category]; done) | rfl
def Q_sio (Z : State) (a1 : Addr) (ta : Addr) (ka : ClassId) (na : Int32) (vsa : List Value) (cs1 : List Int32) (fr1 : Nat) (h0 : Heap) (n0 : Nat) (v : Option Value) (h : Heap) (L : List Loc) : Prop := ∃ (r : Int32), v = some (.int r) ∧ Fr n0 L ∧ h = h0 ∧ (OwnIdx cs1 fr1 r)
theorem d15_0 : decode jdk_42_method_80_code 0 = .ok (.aload_n 0, 1) := by decide +kernel
theorem d15_1 : decode jdk_42_method_80_code 1 = .ok (.invokevirtual 492, 3) := by decide +kernel
theorem d15_4 : decode jdk_42_method_80_code 4 = .ok (.ifCond .eq 19, 3) := by decide +kernel
theorem d15_7 : decode jdk_42_method_80_code 7 = .ok (.aload_n 0, 1) := by decide +kernel
theorem d15_8 : decode jdk_42_method_80_code 8 = .ok (.getfield 9, 3) := by decide +kernel
theorem d15_11 : decode jdk_42_method_80_code 11 = .ok (.iload_n 1, 1) := by decide +kernel
theorem d15_12 : decode jdk_42_method_80_code 12 = .ok (.iload_n 2, 1) := by decide +kernel
theorem d15_13 : decode jdk_42_method_80_code 13 = .ok (.aload_n 0, 1) := by decide +kernel
theorem d15_14 : decode jdk_42_method_80_code 14 = .ok (.invokevirtual 505, 3) := by decide +kernel
theorem pd_86913941 : parseMethodDescriptor "()I" = some ⟨[], some .int⟩ := by decide +kernel
theorem d15_17 : decode jdk_42_method_80_code 17 = .ok (.invokestatic 637, 3) := by decide +kernel
theorem d15_20 : decode jdk_42_method_80_code 20 = .ok (.goto 16, 3) := by decide +kernel
theorem d15_36 : decode jdk_42_method_80_code 36 = .ok (.ireturn, 1) := by decide +kernel
set_option maxRecDepth 65536 in
set_option maxHeartbeats 40000000 in
theorem rm_sio (l : Launch) (Z : State) (a0 : Array Value) (hw : ∀ d ∈ tables_1, d.before a0 Z = true) (ws : List Jvm.Cond) (wG1 : Int32) (wG3 : Value) (wG5 : Addr) (wK5 : ClassId) (cx : OwnCx Z a0 wG1 wG3 wG5 wK5) (hEL : EW Z a0 consts_1) (h0 : Heap) (n0 : Nat) (X00 : Old Z n0 h0) (a1 : Addr) (ta : Addr) (ka : ClassId) (na : Int32) (vsa : List Value) (cs1 : List Int32) (fr1 : Nat) (f0 : Exa Z h0 a1 "java/lang/String") (f1 : Fld Z h0 a1 "java/lang/String" "value" "[B" (.ref ta)) (f2 : Fld Z h0 a1 "java/lang/String" "coder" "B" (.int 0)) (f3 : Arv Z h0 ta ka .byte na vsa (.int 0)) (hos : OwnStr cs1 (0 : Int32) na vsa) (hf : fr1 ≤ 4000) :
    MetFree l mN15 (head1 (Jvm.Cond.code mN15 jdk_42_method_80_code 3 (some .int) :: ws) (oR 2 0 0 32)) (fun a U => a = #[(.ref a1), (.int 47), (.int (Int32.ofNat fr1))] ∧ Z.Warmed39 U.vm ∧ U.heap = h0) (fun _ _ _ _ _ => True) (fun _ U o U' => ∃ v L, o = .returned v ∧ Q_sio Z a1 ta ka na vsa cs1 fr1 h0 n0 v U'.heap L ∧ FrameEnd U o U' L (oR 2 0 0 32).cells (oR 2 0 0 32).slots) := by
  refine MetFree.of_bodySF (plainFor_of_name pn_52039224) hisR ?_
  intro p e s m args below meth c s₁ Bd hml0 hP hK
  obtain ⟨rfl, hZ, hh⟩ := hP
  obtain ⟨wO2, wP5, wO4, wrG3, hstr, wO5, wV5⟩ := id cx
  have hx := Bd.exec
  have hby := Bd.bytes
  have hlk := Bd.notSynchronized
  have hml : c.maxLocals = 3 := hml0
  have hown : s.vm.findClass "java/lang/String" = some m.cls := findClass_of_methodNamed Bd.named
  have hnm := (name_of_methodNamed Bd.named Bd.method).1
  have X0 : Stand p l e (oR 2 0 0 32) s m #[(.ref a1), (.int 47), (.int (Int32.ofNat fr1))] below meth c s₁ [] 0 0 := Stand.of_body Bd
  have e0 : s₁.heap = h0 := by rw [← hh, Bd.state]; rfl
  have N0 := Fr.nil n0
  have Z0 : n0 ≤ h0.size := X00.1 ▸ X00.2.1
  have K0 : Keep h0 h0 ([] : List Addr) := Keep.refl _ _
  show OwnGoes p e below _ s₁ (entryFrame m _ _)
  refine og s₁ m 0 #[vR a1, vI 47, vI (Int32.ofNat fr1)] [] (fun tgt kgo => castTop (ef_sio m a1 (Int32.ofNat fr1)) kgo) ?_
  refine og s₁ m 1 #[vR a1, vI 47, vI (Int32.ofNat fr1)] [(.ref a1)] (fun tgt kgo => ?_) ?_
  · refine XS.aloadN X0.here hx rfl (hb hby d15_0) rfl rfl ?_
    exact kgo
  obtain ⟨cq1, kq1, q1a, q1b, q1c⟩ := isOf (s := s) hZ e0 f0
  obtain ⟨_, _, ⟨T1, L1, k1, n1⟩, -, X1, ⟨Lc1, hQ1, l1, y1, z1⟩, st1⟩ := X0.virtualBack hx (y := mN4) (z := mN4) hown (mvT hZ (own_w hw 68 rfl)) (mvT hZ (own_w hw 69 rfl)) (notFace_of_selects (args := #[]) (mvT hZ (own_w hw 71 rfl))) (mvT hZ (own_w hw 71 rfl)) (mvT hZ (own_w hw 70 rfl)) (by decide) (backOf (W := 0) (rm_isl1 l Z a0 hw [] wG1 wG3 wG5 wK5 cx hEL h0 n0 X00 a1 f0 f2) hZ (own_w hw 72 rfl) (own_w hw 11 rfl) (by decide) (by decide)) q1a q1c (g := (mkF m 1 #[vR a1, vI 47, vI (Int32.ofNat fr1)] [(.ref a1)])) rfl (by rw [hml]; rfl) (Steps.refl _) (argsL := []) (rest := []) (lenOf pd_15861835 rfl) rfl (Nat.le_of_eq rfl) (hb hby d15_1) (fun _ _ => ⟨rfl, e0, (by decide : 0 + 0 ≤ _), (by decide : 0 + 0 ≤ _)⟩)
  dsimp only [Pt.U, Pt.locs, Pt.cells, Pt.slots] at X1 l1 y1 z1 st1 hQ1
  subst l1 y1 z1
  obtain ⟨rfl, Nq1, eq1⟩ := hQ1
  refine OwnGoes.tr (T' := T1) (g' := (mkF m 4 #[vR a1, vI 47, vI (Int32.ofNat fr1)] [(.int 1)])) st1 ?_
  have N1 := Fr.app N0 Nq1
  refine og T1 m 8 #[vR a1, vI 47, vI (Int32.ofNat fr1)] [(.ref a1)] (fun tgt kgo => ?_) ?_
  · refine XS.ifNo X1.here hx rfl (hb hby d15_4) rfl ((if0 _ _).trans (feq (by decide : ¬ ((1 : Int32) = (0 : Int32)))).1) ?_
    refine XS.aloadN X1.here hx rfl (hb hby d15_7) rfl rfl ?_
    exact kgo
  obtain ⟨T2, X2, e2, st2⟩ := getF X1 hx hZ hown (host := "") (Or.inl (own_w hw 28 rfl)) Via.refl eq1 f1 (g := (mkF m 8 #[vR a1, vI 47, vI (Int32.ofNat fr1)] [(.ref a1)])) rfl rfl (hb hby d15_8)
  refine og T2 m 11 #[vR a1, vI 47, vI (Int32.ofNat fr1)] [(.ref ta)] st2 ?_
  refine og T2 m 14 #[vR a1, vI 47, vI (Int32.ofNat fr1)] [(.ref a1), (.int (Int32.ofNat fr1)), (.int 47), (.ref ta)] (fun tgt kgo => ?_) ?_
  · refine XS.iloadN X2.here hx rfl (hb hby d15_11) rfl ?_
    refine XS.iloadN X2.here hx rfl (hb hby d15_12) rfl ?_
    refine XS.aloadN X2.here hx rfl (hb hby d15_13) rfl rfl ?_
    exact kgo
  obtain ⟨cq3, kq3, q3a, q3b, q3c⟩ := isOf (s := s) hZ e2 f0
  obtain ⟨_, _, ⟨T3, L3, k3, n3⟩, -, X3, ⟨Lc3, hQ3, l3, y3, z3⟩, st3⟩ := X2.virtualBack hx (y := mN3) (z := mN3) hown (mvT hZ (own_w hw 74 rfl)) (mvT hZ (own_w hw 75 rfl)) (notFace_of_selects (args := #[]) (mvT hZ (own_w hw 77 rfl))) (mvT hZ (own_w hw 77 rfl)) (mvT hZ (own_w hw 76 rfl)) (by decide) (backOf (W := 3) (rm_len l Z a0 hw [] wG1 wG3 wG5 wK5 cx hEL h0 n0 X00 a1 ta ka na vsa f0 f1 f2 f3) hZ (own_w hw 78 rfl) (own_w hw 11 rfl) (by decide) (by decide)) q3a q3c (g := (mkF m 14 #[vR a1, vI 47, vI (Int32.ofNat fr1)] [(.ref a1), (.int (Int32.ofNat fr1)), (.int 47), (.ref ta)])) rfl (by rw [hml]; rfl) (Steps.refl _) (argsL := []) (rest := [(.int (Int32.ofNat fr1)), (.int 47), (.ref ta)]) (lenOf pd_86913941 rfl) rfl (Nat.le_of_eq rfl) (hb hby d15_14) (fun _ _ => ⟨rfl, e2, (by decide : 0 + 0 ≤ _), (by decide : 0 + 0 ≤ _)⟩)
  dsimp only [Pt.U, Pt.locs, Pt.cells, Pt.slots] at X3 l3 y3 z3 st3 hQ3
  subst l3 y3 z3
  obtain ⟨rfl, Nq3, eq3⟩ := hQ3
  refine OwnGoes.tr (T' := T3) (g' := (mkF m 17 #[vR a1, vI 47, vI (Int32.ofNat fr1)] [(.int na), (.int (Int32.ofNat fr1)), (.int 47), (.ref ta)])) st3 ?_
  have N3 := Fr.app N1 Nq3
  obtain ⟨_, _, ⟨T4, L4, k4, n4⟩, -, X4, ⟨Lc4, hQ4, l4, y4, z4⟩, st4⟩ := Jvm.LawKit.callS X3 hx (y := mN14) hown (mvT hZ (own_w hw 84 rfl)) (mvT hZ (own_w hw 85 rfl)) (mvT hZ (own_w hw 86 rfl)) (mvT hZ (own_w hw 87 rfl)) (by decide) (backOf (W := 0) (rm_lio l Z a0 hw [] wG1 wG3 wG5 wK5 cx hEL h0 n0 X00 ta ka na vsa cs1 fr1 f3 hos hf) hZ (own_w hw 87 rfl) (own_w hw 86 rfl) (by decide) (by decide)) (g := (mkF m 17 #[vR a1, vI 47, vI (Int32.ofNat fr1)] [(.int na), (.int (Int32.ofNat fr1)), (.int 47), (.ref ta)])) rfl (by rw [hml]; rfl) (argsL := [(.ref ta), (.int 47), (.int (Int32.ofNat fr1)), (.int na)]) (rest := []) (lenOf pd_68989375 rfl) rfl (Nat.le_of_eq rfl) (hb hby d15_17) (fun _ _ => ⟨rfl, eq3, (by decide : 0 + 0 ≤ _), (by decide : 0 + 0 ≤ _)⟩)
  dsimp only [Pt.U, Pt.locs, Pt.cells, Pt.slots] at X4 l4 y4 z4 st4 hQ4
  subst l4 y4 z4
  obtain ⟨r_4, rfl, Nq4, eq4, pq4_0⟩ := hQ4
  refine og T4 m 20 #[vR a1, vI 47, vI (Int32.ofNat fr1)] [(.int r_4)] st4 ?_
  have N4 := Fr.app N3 Nq4
  refine og T4 m 36 #[vR a1, vI 47, vI (Int32.ofNat fr1)] [(.int r_4)] (fun tgt kgo => ?_) ?_
  · refine XS.goto X4.here hx rfl (pc0 := 20) (pc' := 36) rfl (hb hby d15_20) (by decide) (by decide) ?_
    exact kgo
  refine own_leave X4 hlk (v := some (.int r_4)) (fun h => by rw [Bd.returns] at h; cases h) (fun fs hr => retI X4 hx Bd.returns (hb hby d15_36) hr) (by decide) (by decide) ?_
  show Q_sio Z a1 ta ka na vsa cs1 fr1 h0 n0 _ T4.heap _
  rw [eq4]
  exact ⟨r_4, rfl, N4, rfl, pq4_0⟩
theorem ef_si0 (m : MethodId) (x0 : Addr) : entryFrame m #[(.ref x0), (.int 47)] 2 = mkF m 0 #[vR x0, vI 47] [] := by
  first | (simp [entryFrame, mkF, argsToLocals, Value.category]; done) | rfl
def Q_si0 (Z : State) (a1 : Addr) (ta : Addr) (ka : ClassId) (na : Int32) (vsa : List Value) (cs1 : List Int32) (h0 : Heap) (n0 : Nat) (v : Option Value) (h : Heap) (L : List Loc) : Prop := ∃ (r : Int32), v = some (.int r) ∧ Fr n0 L ∧ h = h0 ∧ (OwnIdx cs1 0 r)
theorem d16_0 : decode jdk_42_method_79_code 0 = .ok (.aload_n 0, 1) := by decide +kernel
theorem d16_1 : decode jdk_42_method_79_code 1 = .ok (.iload_n 1, 1) := by decide +kernel
theorem d16_2 : decode jdk_42_method_79_code 2 = .ok (.iconst 0, 1) := by decide +kernel
theorem d16_3 : decode jdk_42_method_79_code 3 = .ok (.invokevirtual 633, 3) := by decide +kernel
theorem d16_6 : decode jdk_42_method_79_code 6 = .ok (.ireturn, 1) := by decide +kernel
set_option maxRecDepth 65536 in
set_option maxHeartbeats 40000000 in
theorem rm_si0 (l : Launch) (Z : State) (a0 : Array Value) (hw : ∀ d ∈ tables_1, d.before a0 Z = true) (ws : List Jvm.Cond) (wG1 : Int32) (wG3 : Value) (wG5 : Addr) (wK5 : ClassId) (cx : OwnCx Z a0 wG1 wG3 wG5 wK5) (hEL : EW Z a0 consts_1) (h0 : Heap) (n0 : Nat) (X00 : Old Z n0 h0) (a1 : Addr) (ta : Addr) (ka : ClassId) (na : Int32) (vsa : List Value) (cs1 : List Int32) (f0 : Exa Z h0 a1 "java/lang/String") (f1 : Fld Z h0 a1 "java/lang/String" "value" "[B" (.ref ta)) (f2 : Fld Z h0 a1 "java/lang/String" "coder" "B" (.int 0)) (f3 : Arv Z h0 ta ka .byte na vsa (.int 0)) (hos : OwnStr cs1 (0 : Int32) na vsa) :
    MetFree l mN16 (head1 (Jvm.Cond.code mN16 jdk_42_method_79_code 2 (some .int) :: ws) (oR 3 0 0 46)) (fun a U => a = #[(.ref a1), (.int 47)] ∧ Z.Warmed39 U.vm ∧ U.heap = h0) (fun _ _ _ _ _ => True) (fun _ U o U' => ∃ v L, o = .returned v ∧ Q_si0 Z a1 ta ka na vsa cs1 h0 n0 v U'.heap L ∧ FrameEnd U o U' L (oR 3 0 0 46).cells (oR 3 0 0 46).slots) := by
  refine MetFree.of_bodySF (plainFor_of_name pn_52039224) hisR ?_
  intro p e s m args below meth c s₁ Bd hml0 hP hK
  obtain ⟨rfl, hZ, hh⟩ := hP
  obtain ⟨wO2, wP5, wO4, wrG3, hstr, wO5, wV5⟩ := id cx
  have hx := Bd.exec
  have hby := Bd.bytes
  have hlk := Bd.notSynchronized
  have hml : c.maxLocals = 2 := hml0
  have hown : s.vm.findClass "java/lang/String" = some m.cls := findClass_of_methodNamed Bd.named
  have hnm := (name_of_methodNamed Bd.named Bd.method).1
  have X0 : Stand p l e (oR 3 0 0 46) s m #[(.ref a1), (.int 47)] below meth c s₁ [] 0 0 := Stand.of_body Bd
  have e0 : s₁.heap = h0 := by rw [← hh, Bd.state]; rfl
  have N0 := Fr.nil n0
  have Z0 : n0 ≤ h0.size := X00.1 ▸ X00.2.1
  have K0 : Keep h0 h0 ([] : List Addr) := Keep.refl _ _
  show OwnGoes p e below _ s₁ (entryFrame m _ _)
  refine og s₁ m 0 #[vR a1, vI 47] [] (fun tgt kgo => castTop (ef_si0 m a1) kgo) ?_
  refine og s₁ m 3 #[vR a1, vI 47] [(.int 0), (.int 47), (.ref a1)] (fun tgt kgo => ?_) ?_
  · refine XS.aloadN X0.here hx rfl (hb hby d16_0) rfl rfl ?_
    refine XS.iloadN X0.here hx rfl (hb hby d16_1) rfl ?_
    refine XS.iconst X0.here hx rfl (hb hby d16_2) ?_
    exact kgo
  obtain ⟨cq1, kq1, q1a, q1b, q1c⟩ := isOf (s := s) hZ e0 f0
  obtain ⟨_, _, ⟨T1, L1, k1, n1⟩, -, X1, ⟨Lc1, hQ1, l1, y1, z1⟩, st1⟩ := X0.virtualBack hx (y := mN15) (z := mN15) hown (mvT hZ (own_w hw 63 rfl)) (mvT hZ (own_w hw 64 rfl)) (notFace_of_selects (args := #[]) (mvT hZ (own_w hw 66 rfl))) (mvT hZ (own_w hw 66 rfl)) (mvT hZ (own_w hw 65 rfl)) (by decide) (backOf (W := 0) (rm_sio l Z a0 hw [] wG1 wG3 wG5 wK5 cx hEL h0 n0 X00 a1 ta ka na vsa cs1 0 f0 f1 f2 f3 hos (by decide)) hZ (own_w hw 67 rfl) (own_w hw 11 rfl) (by decide) (by decide)) q1a q1c (g := (mkF m 3 #[vR a1, vI 47] [(.int 0), (.int 47), (.ref a1)])) rfl (by rw [hml]; rfl) (Steps.refl _) (argsL := [(.int 47), (.int 0)]) (rest := []) (lenOf pd_50523903 rfl) rfl (Nat.le_of_eq rfl) (hb hby d16_3) (fun _ _ => ⟨rfl, e0, (by decide : 0 + 0 ≤ _), (by decide : 0 + 0 ≤ _)⟩)
  dsimp only [Pt.U, Pt.locs, Pt.cells, Pt.slots] at X1 l1 y1 z1 st1 hQ1
  subst l1 y1 z1
  obtain ⟨r_1, rfl, Nq1, eq1, pq1_0⟩ := hQ1
  refine OwnGoes.tr (T' := T1) (g' := (mkF m 6 #[vR a1, vI 47] [(.int r_1)])) st1 ?_
  have N1 := Fr.app N0 Nq1
  refine own_leave X1 hlk (v := some (.int r_1)) (fun h => by rw [Bd.returns] at h; cases h) (fun fs hr => retI X1 hx Bd.returns (hb hby d16_6) hr) (by decide) (by decide) ?_
  show Q_si0 Z a1 ta ka na vsa cs1 h0 n0 _ T1.heap _
  rw [eq1]
  exact ⟨r_1, rfl, N1, rfl, pq1_0⟩
theorem ef_cft (m : MethodId) (x0 : Int32) (x1 : Int32) (x2 : Int32) (x3 : Value) (hr_x3 : x3.isRef = true) : entryFrame m #[(.int x0), (.int x1), (.int x2), x3] 4 = mkF m 0 #[vI x0, vI x1, vI x2, .val x3] [] := by
  cases x3 <;> first | (simp [Value.isRef] at hr_x3; done) | (simp [entryFrame, mkF, argsToLocals, Value.category]; done) | rfl
def Q_cft (Z : State) (x1 : Int32) (y1x : Int32) (nn1 : Int32) (h0 : Heap) (n0 : Nat) (v : Option Value) (h : Heap) (L : List Loc) : Prop := v = some (.int x1) ∧ Fr n0 L ∧ h = h0
theorem d17_0 : decode jdk_41_method_12_code 0 = .ok (.iload_n 0, 1) := by decide +kernel
theorem d17_1 : decode jdk_41_method_12_code 1 = .ok (.ifCond .lt 13, 3) := by decide +kernel
theorem d17_4 : decode jdk_41_method_12_code 4 = .ok (.iload_n 0, 1) := by decide +kernel
theorem d17_5 : decode jdk_41_method_12_code 5 = .ok (.iload_n 1, 1) := by decide +kernel
theorem d17_6 : decode jdk_41_method_12_code 6 = .ok (.if_icmp .gt 8, 3) := by decide +kernel
theorem d17_9 : decode jdk_41_method_12_code 9 = .ok (.iload_n 1, 1) := by decide +kernel
theorem d17_10 : decode jdk_41_method_12_code 10 = .ok (.iload_n 2, 1) := by decide +kernel
theorem d17_11 : decode jdk_41_method_12_code 11 = .ok (.if_icmp .le 11, 3) := by decide +kernel
theorem d17_22 : decode jdk_41_method_12_code 22 = .ok (.iload_n 0, 1) := by decide +kernel
theorem d17_23 : decode jdk_41_method_12_code 23 = .ok (.ireturn, 1) := by decide +kernel
set_option maxRecDepth 65536 in
set_option maxHeartbeats 40000000 in
theorem rm_cft (l : Launch) (Z : State) (a0 : Array Value) (hw : ∀ d ∈ tables_1, d.before a0 Z = true) (ws : List Jvm.Cond) (wG1 : Int32) (wG3 : Value) (wG5 : Addr) (wK5 : ClassId) (cx : OwnCx Z a0 wG1 wG3 wG5 wK5) (hEL : EW Z a0 consts_1) (h0 : Heap) (n0 : Nat) (X00 : Old Z n0 h0) (x1 : Int32) (y1x : Int32) (nn1 : Int32) (hx1 : ¬ (x1 < (0 : Int32))) (hx2 : ¬ (y1x < x1)) (hx3 : ¬ (nn1 < y1x)) :
    MetFree l mN17 (head1 (Jvm.Cond.code mN17 jdk_41_method_12_code 4 (some .int) :: ws) (oR 0 0 0 0)) (fun a U => a = #[(.int x1), (.int y1x), (.int nn1), wG3] ∧ Z.Warmed39 U.vm ∧ U.heap = h0) (fun _ _ _ _ _ => True) (fun _ U o U' => ∃ v L, o = .returned v ∧ Q_cft Z x1 y1x nn1 h0 n0 v U'.heap L ∧ FrameEnd U o U' L (oR 0 0 0 0).cells (oR 0 0 0 0).slots) := by
  refine MetFree.of_bodySF (plainFor_of_name pn_82171711) hisR ?_
  intro p e s m args below meth c s₁ Bd hml0 hP hK
  obtain ⟨rfl, hZ, hh⟩ := hP
  obtain ⟨wO2, wP5, wO4, wrG3, hstr, wO5, wV5⟩ := id cx
  have hx := Bd.exec
  have hby := Bd.bytes
  have hlk := Bd.notSynchronized
  have hml : c.maxLocals = 4 := hml0
  have hown : s.vm.findClass "jdk/internal/util/Preconditions" = some m.cls := findClass_of_methodNamed Bd.named
  have hnm := (name_of_methodNamed Bd.named Bd.method).1
  have X0 : Stand p l e (oR 0 0 0 0) s m #[(.int x1), (.int y1x), (.int nn1), wG3] below meth c s₁ [] 0 0 := Stand.of_body Bd
  have e0 : s₁.heap = h0 := by rw [← hh, Bd.state]; rfl
  have N0 := Fr.nil n0
  have Z0 : n0 ≤ h0.size := X00.1 ▸ X00.2.1
  have K0 : Keep h0 h0 ([] : List Addr) := Keep.refl _ _
  show OwnGoes p e below _ s₁ (entryFrame m _ _)
  refine og s₁ m 0 #[vI x1, vI y1x, vI nn1, .val wG3] [] (fun tgt kgo => castTop (ef_cft m x1 y1x nn1 wG3 wrG3) kgo) ?_
  refine og s₁ m 23 #[vI x1, vI y1x, vI nn1, .val wG3] [(.int x1)] (fun tgt kgo => ?_) ?_
  · refine XS.iloadN X0.here hx rfl (hb hby d17_0) rfl ?_
    refine XS.ifNo X0.here hx rfl (hb hby d17_1) rfl ((if0 _ _).trans (flt hx1).1) ?_
    refine XS.iloadN X0.here hx rfl (hb hby d17_4) rfl ?_
    show OwnG p e below s₁ m 5 #[vI x1, vI y1x, vI nn1, .val wG3] [(.int x1)] tgt
    refine XS.iloadN X0.here hx rfl (hb hby d17_5) rfl ?_
    refine XS.icmpNo X0.here hx rfl (hb hby d17_6) rfl (flt hx2).2.2.1 ?_
    refine XS.iloadN X0.here hx rfl (hb hby d17_9) rfl ?_
    show OwnG p e below s₁ m 10 #[vI x1, vI y1x, vI nn1, .val wG3] [(.int y1x)] tgt
    refine XS.iloadN X0.here hx rfl (hb hby d17_10) rfl ?_
    refine XS.icmpYes X0.here hx rfl (pc0 := 11) (pc' := 22) rfl (hb hby d17_11) rfl (flt hx3).2.2.2 (by decide) (by decide) ?_
    refine XS.iloadN X0.here hx rfl (hb hby d17_22) rfl ?_
    exact kgo
  refine own_leave X0 hlk (v := some (.int x1)) (fun h => by rw [Bd.returns] at h; cases h) (fun fs hr => retI X0 hx Bd.returns (hb hby d17_23) hr) (by decide) (by decide) ?_
  show Q_cft Z x1 y1x nn1 h0 n0 _ s₁.heap _
  rw [e0]
  exact ⟨rfl, N0, rfl⟩
theorem ef_cbe (m : MethodId) (x0 : Int32) (x1 : Int32) (x2 : Int32) : entryFrame m #[(.int x0), (.int x1), (.int x2)] 3 = mkF m 0 #[vI x0, vI x1, vI x2] [] := by
  first | (simp [entryFrame, mkF, argsToLocals, Value.category]; done) | rfl
def Q_cbe (Z : State) (x1 : Int32) (y1x : Int32) (nn1 : Int32) (h0 : Heap) (n0 : Nat) (v : Option Value) (h : Heap) (L : List Loc) : Prop := v = none ∧ Fr n0 L ∧ h = h0
theorem d18_0 : decode jdk_42_method_158_code 0 = .ok (.iload_n 0, 1) := by decide +kernel
theorem d18_1 : decode jdk_42_method_158_code 1 = .ok (.iload_n 1, 1) := by decide +kernel
theorem d18_2 : decode jdk_42_method_158_code 2 = .ok (.iload_n 2, 1) := by decide +kernel
theorem d18_3 : decode jdk_42_method_158_code 3 = .ok (.getstatic 1053, 3) := by decide +kernel
theorem d18_6 : decode jdk_42_method_158_code 6 = .ok (.invokestatic 1062, 3) := by decide +kernel
theorem pd_36149920 : parseMethodDescriptor "(IIILjava/util/function/BiFunction;)I" = some ⟨[.int, .int, .int, (.object "java/util/function/BiFunction")], some .int⟩ := by decide +kernel
theorem d18_9 : decode jdk_42_method_158_code 9 = .ok (.pop, 1) := by decide +kernel
theorem d18_10 : decode jdk_42_method_158_code 10 = .ok (.return_, 1) := by decide +kernel
set_option maxRecDepth 65536 in
set_option maxHeartbeats 40000000 in
theorem rm_cbe (l : Launch) (Z : State) (a0 : Array Value) (hw : ∀ d ∈ tables_1, d.before a0 Z = true) (ws : List Jvm.Cond) (wG1 : Int32) (wG3 : Value) (wG5 : Addr) (wK5 : ClassId) (cx : OwnCx Z a0 wG1 wG3 wG5 wK5) (hEL : EW Z a0 consts_1) (h0 : Heap) (n0 : Nat) (X00 : Old Z n0 h0) (x1 : Int32) (y1x : Int32) (nn1 : Int32) (hx1 : ¬ (x1 < (0 : Int32))) (hx2 : ¬ (y1x < x1)) (hx3 : ¬ (nn1 < y1x)) :
    MetFree l mN18 (head1 (Jvm.Cond.code mN18 jdk_42_method_158_code 3 none :: ws) (oR 1 0 0 15)) (fun a U => a = #[(.int x1), (.int y1x), (.int nn1)] ∧ Z.Warmed39 U.vm ∧ U.heap = h0) (fun _ _ _ _ _ => True) (fun _ U o U' => ∃ v L, o = .returned v ∧ Q_cbe Z x1 y1x nn1 h0 n0 v U'.heap L ∧ FrameEnd U o U' L (oR 1 0 0 15).cells (oR 1 0 0 15).slots) := by
  refine MetFree.of_bodySF (plainFor_of_name pn_52039224) hisR ?_
  intro p e s m args below meth c s₁ Bd hml0 hP hK
  obtain ⟨rfl, hZ, hh⟩ := hP
  obtain ⟨wO2, wP5, wO4, wrG3, hstr, wO5, wV5⟩ := id cx
  have hx := Bd.exec
  have hby := Bd.bytes
  have hlk := Bd.notSynchronized
  have hml : c.maxLocals = 3 := hml0
  have hown : s.vm.findClass "java/lang/String" = some m.cls := findClass_of_methodNamed Bd.named
  have hnm := (name_of_methodNamed Bd.named Bd.method).1
  have X0 : Stand p l e (oR 1 0 0 15) s m #[(.int x1), (.int y1x), (.int nn1)] below meth c s₁ [] 0 0 := Stand.of_body Bd
  have e0 : s₁.heap = h0 := by rw [← hh, Bd.state]; rfl
  have N0 := Fr.nil n0
  have Z0 : n0 ≤ h0.size := X00.1 ▸ X00.2.1
  have K0 : Keep h0 h0 ([] : List Addr) := Keep.refl _ _
  show OwnGoes p e below _ s₁ (entryFrame m _ _)
  refine og s₁ m 0 #[vI x1, vI y1x, vI nn1] [] (fun tgt kgo => castTop (ef_cbe m x1 y1x nn1) kgo) ?_
  refine og s₁ m 3 #[vI x1, vI y1x, vI nn1] [(.int nn1), (.int y1x), (.int x1)] (fun tgt kgo => ?_) ?_
  · refine XS.iloadN X0.here hx rfl (hb hby d18_0) rfl ?_
    refine XS.iloadN X0.here hx rfl (hb hby d18_1) rfl ?_
    refine XS.iloadN X0.here hx rfl (hb hby d18_2) rfl ?_
    exact kgo
  obtain ⟨T1, X1, e1, st1⟩ := getS2 X0 hx hZ hown (host := "") (Or.inl (own_w hw 143 rfl)) Via.refl e0 (wO4.ext X00.2) (g := (mkF m 3 #[vI x1, vI y1x, vI nn1] [(.int nn1), (.int y1x), (.int x1)])) rfl (hb hby d18_3)
  refine og T1 m 6 #[vI x1, vI y1x, vI nn1] [wG3, (.int nn1), (.int y1x), (.int x1)] st1 ?_
  obtain ⟨_, _, ⟨T2, L2, k2, n2⟩, -, X2, ⟨Lc2, hQ2, l2, y2, z2⟩, st2⟩ := Jvm.LawKit.callS X1 hx (y := mN17) hown (mvT hZ (own_w hw 145 rfl)) (mvT hZ (own_w hw 146 rfl)) (mvT hZ (own_w hw 144 rfl)) (mvT hZ (own_w hw 147 rfl)) (by decide) (backOf (W := 0) (rm_cft l Z a0 hw [] wG1 wG3 wG5 wK5 cx hEL h0 n0 X00 x1 y1x nn1 hx1 hx2 hx3) hZ (own_w hw 147 rfl) (own_w hw 144 rfl) (by decide) (by decide)) (g := (mkF m 6 #[vI x1, vI y1x, vI nn1] [wG3, (.int nn1), (.int y1x), (.int x1)])) rfl (by rw [hml]; rfl) (argsL := [(.int x1), (.int y1x), (.int nn1), wG3]) (rest := []) (lenOf pd_36149920 rfl) rfl (Nat.le_of_eq rfl) (hb hby d18_6) (fun _ _ => ⟨rfl, e1, (by decide : 0 + 0 ≤ _), (by decide : 0 + 0 ≤ _)⟩)
  dsimp only [Pt.U, Pt.locs, Pt.cells, Pt.slots] at X2 l2 y2 z2 st2 hQ2
  subst l2 y2 z2
  obtain ⟨rfl, Nq2, eq2⟩ := hQ2
  refine og T2 m 9 #[vI x1, vI y1x, vI nn1] [(.int x1)] st2 ?_
  have N2 := Fr.app N0 Nq2
  refine og T2 m 10 #[vI x1, vI y1x, vI nn1] [] (fun tgt kgo => ?_) ?_
  · refine XS.pop X2.here hx rfl (hb hby d18_9) rfl rfl ?_
    exact kgo
  refine own_leave X2 hlk (v := none) (fun _ => rfl) (fun fs hr => X2.returnOut hx Bd.returns (hb hby d18_10) hr) (by decide) (by decide) ?_
  show Q_cbe Z x1 y1x nn1 h0 n0 _ T2.heap _
  rw [eq2]
  exact ⟨rfl, N2, rfl⟩
theorem ef_ckl (m : MethodId) (x0 : Int32) (x1 : Int32) : entryFrame m #[(.int x0), (.int x1)] 2 = mkF m 0 #[vI x0, vI x1] [] := by
  first | (simp [entryFrame, mkF, argsToLocals, Value.category]; done) | rfl
def Q_ckl (Z : State) (x1 : Int32) (y1x : Int32) (h0 : Heap) (n0 : Nat) (v : Option Value) (h : Heap) (L : List Loc) : Prop := v = none ∧ Fr n0 L ∧ h = h0
theorem pn_78818854 : plainName "java/util/Arrays" = true := by first | (simp [plainName, overriddenIn]; done) | decide +kernel
theorem d19_0 : decode jdk_65_method_131_code 0 = .ok (.iload_n 1, 1) := by decide +kernel
theorem d19_1 : decode jdk_65_method_131_code 1 = .ok (.iload_n 0, 1) := by decide +kernel
theorem d19_2 : decode jdk_65_method_131_code 2 = .ok (.if_icmp .ge 35, 3) := by decide +kernel
theorem d19_37 : decode jdk_65_method_131_code 37 = .ok (.return_, 1) := by decide +kernel
set_option maxRecDepth 65536 in
set_option maxHeartbeats 40000000 in
theorem rm_ckl (l : Launch) (Z : State) (a0 : Array Value) (hw : ∀ d ∈ tables_1, d.before a0 Z = true) (ws : List Jvm.Cond) (wG1 : Int32) (wG3 : Value) (wG5 : Addr) (wK5 : ClassId) (cx : OwnCx Z a0 wG1 wG3 wG5 wK5) (hEL : EW Z a0 consts_1) (h0 : Heap) (n0 : Nat) (X00 : Old Z n0 h0) (x1 : Int32) (y1x : Int32) (hx2 : ¬ (y1x < x1)) :
    MetFree l mN19 (head1 (Jvm.Cond.code mN19 jdk_65_method_131_code 2 none :: ws) (oR 0 0 0 0)) (fun a U => a = #[(.int x1), (.int y1x)] ∧ Z.Warmed39 U.vm ∧ U.heap = h0) (fun _ _ _ _ _ => True) (fun _ U o U' => ∃ v L, o = .returned v ∧ Q_ckl Z x1 y1x h0 n0 v U'.heap L ∧ FrameEnd U o U' L (oR 0 0 0 0).cells (oR 0 0 0 0).slots) := by
  refine MetFree.of_bodySF (plainFor_of_name pn_78818854) hisR ?_
  intro p e s m args below meth c s₁ Bd hml0 hP hK
  obtain ⟨rfl, hZ, hh⟩ := hP
  obtain ⟨wO2, wP5, wO4, wrG3, hstr, wO5, wV5⟩ := id cx
  have hx := Bd.exec
  have hby := Bd.bytes
  have hlk := Bd.notSynchronized
  have hml : c.maxLocals = 2 := hml0
  have hown : s.vm.findClass "java/util/Arrays" = some m.cls := findClass_of_methodNamed Bd.named
  have hnm := (name_of_methodNamed Bd.named Bd.method).1
  have X0 : Stand p l e (oR 0 0 0 0) s m #[(.int x1), (.int y1x)] below meth c s₁ [] 0 0 := Stand.of_body Bd
  have e0 : s₁.heap = h0 := by rw [← hh, Bd.state]; rfl
  have N0 := Fr.nil n0
  have Z0 : n0 ≤ h0.size := X00.1 ▸ X00.2.1
  have K0 : Keep h0 h0 ([] : List Addr) := Keep.refl _ _
  show OwnGoes p e below _ s₁ (entryFrame m _ _)
  refine og s₁ m 0 #[vI x1, vI y1x] [] (fun tgt kgo => castTop (ef_ckl m x1 y1x) kgo) ?_
  refine og s₁ m 37 #[vI x1, vI y1x] [] (fun tgt kgo => ?_) ?_
  · refine XS.iloadN X0.here hx rfl (hb hby d19_0) rfl ?_
    refine XS.iloadN X0.here hx rfl (hb hby d19_1) rfl ?_
    refine XS.icmpYes X0.here hx rfl (pc0 := 2) (pc' := 37) rfl (hb hby d19_2) rfl (flt hx2).2.1 (by decide) (by decide) ?_
    exact kgo
  refine own_leave X0 hlk (v := none) (fun _ => rfl) (fun fs hr => X0.returnOut hx Bd.returns (hb hby d19_37) hr) (by decide) (by decide) ?_
  show Q_ckl Z x1 y1x h0 n0 _ s₁.heap _
  rw [e0]
  exact ⟨rfl, N0, rfl⟩
theorem ef_min2 (m : MethodId) (x0 : Int32) (x1 : Int32) : entryFrame m #[(.int x0), (.int x1)] 2 = mkF m 0 #[vI x0, vI x1] [] := by
  first | (simp [entryFrame, mkF, argsToLocals, Value.category]; done) | rfl
def Q_min2 (Z : State) (u1 : Nat) (v1 : Nat) (h0 : Heap) (n0 : Nat) (v : Option Value) (h : Heap) (L : List Loc) : Prop := v = some (.int (Int32.ofNat v1)) ∧ Fr n0 L ∧ h = h0
theorem d12_9 : decode jdk_29_method_69_code 9 = .ok (.iload_n 1, 1) := by decide +kernel
set_option maxRecDepth 65536 in
set_option maxHeartbeats 40000000 in
theorem rm_min2 (l : Launch) (Z : State) (a0 : Array Value) (hw : ∀ d ∈ tables_1, d.before a0 Z = true) (ws : List Jvm.Cond) (wG1 : Int32) (wG3 : Value) (wG5 : Addr) (wK5 : ClassId) (cx : OwnCx Z a0 wG1 wG3 wG5 wK5) (hEL : EW Z a0 consts_1) (h0 : Heap) (n0 : Nat) (X00 : Old Z n0 h0) (u1 : Nat) (v1 : Nat) (hvu : v1 ≤ u1) (hu4 : u1 ≤ 4000) :
    MetFree l mN12 (head1 (Jvm.Cond.code mN12 jdk_29_method_69_code 2 (some .int) :: ws) (oR 0 0 0 0)) (fun a U => a = #[(.int (Int32.ofNat u1)), (.int (Int32.ofNat v1))] ∧ Z.Warmed39 U.vm ∧ U.heap = h0) (fun _ _ _ _ _ => True) (fun _ U o U' => ∃ v L, o = .returned v ∧ Q_min2 Z u1 v1 h0 n0 v U'.heap L ∧ FrameEnd U o U' L (oR 0 0 0 0).cells (oR 0 0 0 0).slots) := by
  refine MetFree.of_bodySF (Jvm.Free.JP.mathPlain rfl (by decide +kernel)) hisR ?_
  intro p e s m args below meth c s₁ Bd hml0 hP hK
  obtain ⟨rfl, hZ, hh⟩ := hP
  obtain ⟨wO2, wP5, wO4, wrG3, hstr, wO5, wV5⟩ := id cx
  have hx := Bd.exec
  have hby := Bd.bytes
  have hlk := Bd.notSynchronized
  have hml : c.maxLocals = 2 := hml0
  have hown : s.vm.findClass "java/lang/Math" = some m.cls := findClass_of_methodNamed Bd.named
  have hnm := (name_of_methodNamed Bd.named Bd.method).1
  have X0 : Stand p l e (oR 0 0 0 0) s m #[(.int (Int32.ofNat u1)), (.int (Int32.ofNat v1))] below meth c s₁ [] 0 0 := Stand.of_body Bd
  have e0 : s₁.heap = h0 := by rw [← hh, Bd.state]; rfl
  have N0 := Fr.nil n0
  have Z0 : n0 ≤ h0.size := X00.1 ▸ X00.2.1
  have K0 : Keep h0 h0 ([] : List Addr) := Keep.refl _ _
  show OwnGoes p e below _ s₁ (entryFrame m _ _)
  refine og s₁ m 0 #[vI (Int32.ofNat u1), vI (Int32.ofNat v1)] [] (fun tgt kgo => castTop (ef_min2 m (Int32.ofNat u1) (Int32.ofNat v1)) kgo) ?_
  refine og s₁ m 2 #[vI (Int32.ofNat u1), vI (Int32.ofNat v1)] [(.int (Int32.ofNat v1)), (.int (Int32.ofNat u1))] (fun tgt kgo => ?_) ?_
  · refine XS.iloadN X0.here hx rfl (hb hby d12_0) rfl ?_
    refine XS.iloadN X0.here hx rfl (hb hby d12_1) rfl ?_
    exact kgo
  by_cases cc1 : (Int32.ofNat v1) < (Int32.ofNat u1)
  · skip
    refine og s₁ m 10 #[vI (Int32.ofNat u1), vI (Int32.ofNat v1)] [(.int (Int32.ofNat v1))] (fun tgt kgo => ?_) ?_
    · refine XS.icmpYes X0.here hx rfl (pc0 := 2) (pc' := 9) rfl (hb hby d12_2) rfl (tlt cc1).2.2.1 (by decide) (by decide) ?_
      refine XS.iloadN X0.here hx rfl (hb hby d12_9) rfl ?_
      exact kgo
    refine own_leave X0 hlk (v := some (.int (Int32.ofNat v1))) (fun h => by rw [Bd.returns] at h; cases h) (fun fs hr => retI X0 hx Bd.returns (hb hby d12_10) hr) (by decide) (by decide) ?_
    show Q_min2 Z u1 v1 h0 n0 _ s₁.heap _
    rw [e0]
    exact ⟨rfl, N0, rfl⟩
  refine og s₁ m 10 #[vI (Int32.ofNat u1), vI (Int32.ofNat v1)] [(.int (Int32.ofNat u1))] (fun tgt kgo => ?_) ?_
  · refine XS.icmpNo X0.here hx rfl (hb hby d12_2) rfl (flt cc1).2.2.1 ?_
    refine XS.iloadN X0.here hx rfl (hb hby d12_5) rfl ?_
    refine XS.goto X0.here hx rfl (pc0 := 6) (pc' := 10) rfl (hb hby d12_6) (by decide) (by decide) ?_
    exact kgo
  refine og s₁ m 10 #[vI (Int32.ofNat v1), vI (Int32.ofNat v1)] [(.int (Int32.ofNat v1))] (fun tgt kgo => castTop (by rw [(congrArg Int32.ofNat (Nat.le_antisymm (Nat.le_of_not_lt fun q => cc1 ((own_ltN (by omega) (by omega)).mpr q)) hvu))]) kgo) ?_
  refine own_leave X0 hlk (v := some (.int (Int32.ofNat v1))) (fun h => by rw [Bd.returns] at h; cases h) (fun fs hr => retI X0 hx Bd.returns (hb hby d12_10) hr) (by decide) (by decide) ?_
  show Q_min2 Z u1 v1 h0 n0 _ s₁.heap _
  rw [e0]
  exact ⟨rfl, N0, rfl⟩
theorem ef_crb (m : MethodId) (x0 : Addr) (x1 : Int32) (x2 : Int32) : entryFrame m #[(.ref x0), (.int x1), (.int x2)] 5 = mkF m 0 #[vR x0, vI x1, vI x2, vU, vU] [] := by
  first | (simp [entryFrame, mkF, argsToLocals, Value.category]; done) | rfl
def Q_crb (Z : State) (ta : Addr) (ka : ClassId) (na : Int32) (vsa : List Value) (cs1 : List Int32) (b1x : Nat) (l1x : Nat) (h0 : Heap) (n0 : Nat) (v : Option Value) (h : Heap) (L : List Loc) : Prop := ∃ (t : Addr), ∃ (k : ClassId), v = some (.ref t) ∧ Fr n0 L ∧ Keep h0 h ([] : List Addr) ∧ h0.size ≤ t ∧ Arv Z h t k .byte (Int32.ofNat l1x) ((vsa.drop b1x).take l1x) (.int 0)
theorem d20_0 : decode jdk_65_method_133_code 0 = .ok (.iload_n 1, 1) := by decide +kernel
theorem d20_1 : decode jdk_65_method_133_code 1 = .ok (.iload_n 2, 1) := by decide +kernel
theorem d20_2 : decode jdk_65_method_133_code 2 = .ok (.invokestatic 343, 3) := by decide +kernel
theorem d20_5 : decode jdk_65_method_133_code 5 = .ok (.iload_n 2, 1) := by decide +kernel
theorem d20_6 : decode jdk_65_method_133_code 6 = .ok (.iload_n 1, 1) := by decide +kernel
theorem d20_7 : decode jdk_65_method_133_code 7 = .ok (.isub, 1) := by decide +kernel
theorem d20_8 : decode jdk_65_method_133_code 8 = .ok (.istore_n 3, 1) := by decide +kernel
theorem d20_9 : decode jdk_65_method_133_code 9 = .ok (.iload_n 3, 1) := by decide +kernel
theorem d20_10 : decode jdk_65_method_133_code 10 = .ok (.newarray .byte, 2) := by decide +kernel
theorem d20_12 : decode jdk_65_method_133_code 12 = .ok (.astore 4, 2) := by decide +kernel
theorem d20_14 : decode jdk_65_method_133_code 14 = .ok (.aload_n 0, 1) := by decide +kernel
theorem d20_15 : decode jdk_65_method_133_code 15 = .ok (.iload_n 1, 1) := by decide +kernel
theorem d20_16 : decode jdk_65_method_133_code 16 = .ok (.aload 4, 2) := by decide +kernel
theorem d20_18 : decode jdk_65_method_133_code 18 = .ok (.iconst 0, 1) := by decide +kernel
theorem d20_19 : decode jdk_65_method_133_code 19 = .ok (.aload_n 0, 1) := by decide +kernel
theorem d20_20 : decode jdk_65_method_133_code 20 = .ok (.arraylength, 1) := by decide +kernel
theorem d20_21 : decode jdk_65_method_133_code 21 = .ok (.iload_n 1, 1) := by decide +kernel
theorem d20_22 : decode jdk_65_method_133_code 22 = .ok (.isub, 1) := by decide +kernel
theorem d20_23 : decode jdk_65_method_133_code 23 = .ok (.iload_n 3, 1) := by decide +kernel
theorem d20_24 : decode jdk_65_method_133_code 24 = .ok (.invokestatic 304, 3) := by decide +kernel
theorem d20_27 : decode jdk_65_method_133_code 27 = .ok (.invokestatic 150, 3) := by decide +kernel
theorem d20_30 : decode jdk_65_method_133_code 30 = .ok (.aload 4, 2) := by decide +kernel
theorem d20_32 : decode jdk_65_method_133_code 32 = .ok (.areturn, 1) := by decide +kernel
set_option maxRecDepth 65536 in
set_option maxHeartbeats 40000000 in
theorem rm_crb (l : Launch) (Z : State) (a0 : Array Value) (hw : ∀ d ∈ tables_1, d.before a0 Z = true) (ws : List Jvm.Cond) (wG1 : Int32) (wG3 : Value) (wG5 : Addr) (wK5 : ClassId) (cx : OwnCx Z a0 wG1 wG3 wG5 wK5) (hEL : EW Z a0 consts_1) (h0 : Heap) (n0 : Nat) (X00 : Old Z n0 h0) (ta : Addr) (ka : ClassId) (na : Int32) (vsa : List Value) (cs1 : List Int32) (b1x : Nat) (l1x : Nat) (f0 : Arv Z h0 ta ka .byte na vsa (.int 0)) (hos : OwnStr cs1 (0 : Int32) na vsa) (hb1 : 1 ≤ b1x) (hbl : b1x + l1x ≤ cs1.length) (hc4 : cs1.length ≤ 4) :
    MetFree l mN20 (head1 (Jvm.Cond.code mN20 jdk_65_method_133_code 5 (some (.array .byte)) :: ws) (oR 1 1 4 18)) (fun a U => a = #[(.ref ta), (.int (Int32.ofNat b1x)), (.int (Int32.ofNat (b1x + l1x)))] ∧ Z.Warmed39 U.vm ∧ U.heap = h0) (fun _ _ _ _ _ => True) (fun _ U o U' => ∃ v L, o = .returned v ∧ Q_crb Z ta ka na vsa cs1 b1x l1x h0 n0 v U'.heap L ∧ FrameEnd U o U' L (oR 1 1 4 18).cells (oR 1 1 4 18).slots) := by
  refine MetFree.of_bodySF (plainFor_of_name pn_78818854) hisR ?_
  intro p e s m args below meth c s₁ Bd hml0 hP hK
  obtain ⟨rfl, hZ, hh⟩ := hP
  obtain ⟨wO2, wP5, wO4, wrG3, hstr, wO5, wV5⟩ := id cx
  have hx := Bd.exec
  have hby := Bd.bytes
  have hlk := Bd.notSynchronized
  have hml : c.maxLocals = 5 := hml0
  have hown : s.vm.findClass "java/util/Arrays" = some m.cls := findClass_of_methodNamed Bd.named
  have hnm := (name_of_methodNamed Bd.named Bd.method).1
  have X0 : Stand p l e (oR 1 1 4 18) s m #[(.ref ta), (.int (Int32.ofNat b1x)), (.int (Int32.ofNat (b1x + l1x)))] below meth c s₁ [] 0 0 := Stand.of_body Bd
  have e0 : s₁.heap = h0 := by rw [← hh, Bd.state]; rfl
  have N0 := Fr.nil n0
  have Z0 : n0 ≤ h0.size := X00.1 ▸ X00.2.1
  have K0 : Keep h0 h0 ([] : List Addr) := Keep.refl _ _
  show OwnGoes p e below _ s₁ (entryFrame m _ _)
  refine og s₁ m 0 #[vR ta, vI (Int32.ofNat b1x), vI (Int32.ofNat (b1x + l1x)), vU, vU] [] (fun tgt kgo => castTop (ef_crb m ta (Int32.ofNat b1x) (Int32.ofNat (b1x + l1x))) kgo) ?_
  refine og s₁ m 2 #[vR ta, vI (Int32.ofNat b1x), vI (Int32.ofNat (b1x + l1x)), vU, vU] [(.int (Int32.ofNat (b1x + l1x))), (.int (Int32.ofNat b1x))] (fun tgt kgo => ?_) ?_
  · refine XS.iloadN X0.here hx rfl (hb hby d20_0) rfl ?_
    refine XS.iloadN X0.here hx rfl (hb hby d20_1) rfl ?_
    exact kgo
  obtain ⟨_, _, ⟨T1, L1, k1, n1⟩, -, X1, ⟨Lc1, hQ1, l1, y1, z1⟩, st1⟩ := Jvm.LawKit.callS X0 hx (y := mN19) hown (mvT hZ (own_w hw 159 rfl)) (mvT hZ (own_w hw 160 rfl)) (mvT hZ (own_w hw 154 rfl)) (mvT hZ (own_w hw 161 rfl)) (by decide) (backOf (W := 0) (rm_ckl l Z a0 hw [] wG1 wG3 wG5 wK5 cx hEL h0 n0 X00 (Int32.ofNat b1x) (Int32.ofNat (b1x + l1x)) (fun q => absurd ((own_ltN (by omega) (by omega)).mp q) (by omega))) hZ (own_w hw 161 rfl) (own_w hw 154 rfl) (by decide) (by decide)) (g := (mkF m 2 #[vR ta, vI (Int32.ofNat b1x), vI (Int32.ofNat (b1x + l1x)), vU, vU] [(.int (Int32.ofNat (b1x + l1x))), (.int (Int32.ofNat b1x))])) rfl (by rw [hml]; rfl) (argsL := [(.int (Int32.ofNat b1x)), (.int (Int32.ofNat (b1x + l1x)))]) (rest := []) (lenOf pd_53897226 rfl) rfl (Nat.le_of_eq rfl) (hb hby d20_2) (fun _ _ => ⟨rfl, e0, (by decide : 0 + 0 ≤ _), (by decide : 0 + 0 ≤ _)⟩)
  dsimp only [Pt.U, Pt.locs, Pt.cells, Pt.slots] at X1 l1 y1 z1 st1 hQ1
  subst l1 y1 z1
  obtain ⟨rfl, Nq1, eq1⟩ := hQ1
  refine og T1 m 5 #[vR ta, vI (Int32.ofNat b1x), vI (Int32.ofNat (b1x + l1x)), vU, vU] [] st1 ?_
  have N1 := Fr.app N0 Nq1
  refine og T1 m 8 #[vR ta, vI (Int32.ofNat b1x), vI (Int32.ofNat (b1x + l1x)), vU, vU] [(.int ((Int32.ofNat (b1x + l1x)) - (Int32.ofNat b1x)))] (fun tgt kgo => ?_) ?_
  · refine XS.iloadN X1.here hx rfl (hb hby d20_5) rfl ?_
    refine XS.iloadN X1.here hx rfl (hb hby d20_6) rfl ?_
    refine XS.isub X1.here hx rfl (hb hby d20_7) rfl ?_
    exact kgo
  refine og T1 m 8 #[vR ta, vI (Int32.ofNat b1x), vI (Int32.ofNat (b1x + l1x)), vU, vU] [(.int (Int32.ofNat l1x))] (fun tgt kgo => castTop (by rw [(show (Int32.ofNat (b1x + l1x)) - (Int32.ofNat b1x) = (Int32.ofNat l1x) by rw [own_subN (by omega), Nat.add_sub_cancel_left])]) kgo) ?_
  refine og T1 m 10 #[vR ta, vI (Int32.ofNat b1x), vI (Int32.ofNat (b1x + l1x)), vI (Int32.ofNat l1x), vU] [(.int (Int32.ofNat l1x))] (fun tgt kgo => ?_) ?_
  · refine XS.istoreN X1.here hx rfl (hb hby d20_8) rfl (l' := #[vR ta, vI (Int32.ofNat b1x), vI (Int32.ofNat (b1x + l1x)), vI (Int32.ofNat l1x), vU]) rfl ?_
    refine XS.iloadN X1.here hx rfl (hb hby d20_9) rfl ?_
    exact kgo
  obtain ⟨T2, h2, k2, X2, e2, E2, A2, st2⟩ := newP X1 hx hZ (own_w hw 23 rfl) eq1 (g := (mkF m 10 #[vR ta, vI (Int32.ofNat b1x), vI (Int32.ofNat (b1x + l1x)), vI (Int32.ofNat l1x), vU] [(.int (Int32.ofNat l1x))])) rfl (hb hby d20_10) rfl (own_nat (n := l1x) (by omega)).2.1 (cap := 4) (by rw [(own_nat (n := l1x) (by omega)).2.2]; omega) (by decide) (by decide) (by decide)
  obtain ⟨b2, g2⟩ : ∃ z, z = h0.size := ⟨_, rfl⟩
  rw [← g2] at A2 st2
  refine og T2 m 12 #[vR ta, vI (Int32.ofNat b1x), vI (Int32.ofNat (b1x + l1x)), vI (Int32.ofNat l1x), vU] [(.ref b2)] st2 ?_
  have V2 : Arv Z h2 b2 k2 .byte (Int32.ofNat l1x) [] (.int 0) := Arv.new A2 (own_nat (n := l1x) (by omega)).2.1
  have ne_ta_b2 : ta ≠ b2 := Nat.ne_of_lt (Nat.lt_of_lt_of_le f0.lt (Nat.le_of_eq g2.symm))
  have g_b2 : n0 ≤ b2 := Nat.le_trans (Nat.le_trans Z0 K0.1) (Nat.le_of_eq g2.symm)
  have s_b2 : h0.size ≤ b2 := Nat.le_trans K0.1 (Nat.le_of_eq g2.symm)
  have F2_1 := f0.ext E2
  have Ol2 := X00.ext E2
  have K2 : Keep h0 h2 ([] : List Addr) := K0.ext E2
  have Vr3 : Arv Z h2 b2 k2 .byte (Int32.ofNat l1x) ([] ++ List.replicate l1x (Value.int (0 : Int32))) (.int 0) := V2.pad (pad_rep [] (Value.int (0 : Int32)) l1x)
  refine og T2 m 23 #[vR ta, vI (Int32.ofNat b1x), vI (Int32.ofNat (b1x + l1x)), vI (Int32.ofNat l1x), vR b2] [(.int (na - (Int32.ofNat b1x))), (.int 0), (.ref b2), (.int (Int32.ofNat b1x)), (.ref ta)] (fun tgt kgo => ?_) ?_
  · refine XS.astore X2.here hx rfl (hb hby d20_12) rfl rfl (l' := #[vR ta, vI (Int32.ofNat b1x), vI (Int32.ofNat (b1x + l1x)), vI (Int32.ofNat l1x), vR b2]) rfl ?_
    refine XS.aloadN X2.here hx rfl (hb hby d20_14) rfl rfl ?_
    refine XS.iloadN X2.here hx rfl (hb hby d20_15) rfl ?_
    show OwnG p e below T2 m 16 #[vR ta, vI (Int32.ofNat b1x), vI (Int32.ofNat (b1x + l1x)), vI (Int32.ofNat l1x), vR b2] [(.int (Int32.ofNat b1x)), (.ref ta)] tgt
    refine XS.aload X2.here hx rfl (hb hby d20_16) rfl rfl ?_
    refine XS.iconst X2.here hx rfl (hb hby d20_18) ?_
    refine XS.aloadN X2.here hx rfl (hb hby d20_19) rfl rfl ?_
    show OwnG p e below T2 m 20 #[vR ta, vI (Int32.ofNat b1x), vI (Int32.ofNat (b1x + l1x)), vI (Int32.ofNat l1x), vR b2] [(.ref ta), (.int 0), (.ref b2), (.int (Int32.ofNat b1x)), (.ref ta)] tgt
    obtain ⟨cl4, Ar4, q4, S4, M4, -, -⟩ := F2_1
    refine X2.arraylength hx (by rw [e2]; exact Ar4.1) (State.isArrayOf_alike hZ.alike Ar4.2.1) (g := (mkF m 20 #[vR ta, vI (Int32.ofNat b1x), vI (Int32.ofNat (b1x + l1x)), vI (Int32.ofNat l1x), vR b2] [(.ref ta), (.int 0), (.ref b2), (.int (Int32.ofNat b1x)), (.ref ta)])) rfl rfl (hb hby d20_20) _ ?_
    rw [len_of S4 M4]
    refine XS.iloadN X2.here hx rfl (hb hby d20_21) rfl ?_
    refine XS.isub X2.here hx rfl (hb hby d20_22) rfl ?_
    exact kgo
  refine og T2 m 23 #[vR ta, vI (Int32.ofNat b1x), vI (Int32.ofNat (b1x + l1x)), vI (Int32.ofNat l1x), vR b2] [(.int (Int32.ofNat (cs1.length - b1x))), (.int 0), (.ref b2), (.int (Int32.ofNat b1x)), (.ref ta)] (fun tgt kgo => castTop (by rw [(show na - (Int32.ofNat b1x) = (Int32.ofNat (cs1.length - b1x)) by rw [(own_l0 hos).1, own_subN (by omega)])]) kgo) ?_
  refine og T2 m 24 #[vR ta, vI (Int32.ofNat b1x), vI (Int32.ofNat (b1x + l1x)), vI (Int32.ofNat l1x), vR b2] [(.int (Int32.ofNat l1x)), (.int (Int32.ofNat (cs1.length - b1x))), (.int 0), (.ref b2), (.int (Int32.ofNat b1x)), (.ref ta)] (fun tgt kgo => ?_) ?_
  · refine XS.iloadN X2.here hx rfl (hb hby d20_23) rfl ?_
    exact kgo
  obtain ⟨_, _, ⟨T5, L5, k5, n5⟩, -, X5, ⟨Lc5, hQ5, l5, y5, z5⟩, st5⟩ := Jvm.LawKit.callS X2 hx (y := mN12) hown (mvT hZ (own_w hw 162 rfl)) (mvT hZ (own_w hw 96 rfl)) (mvT hZ (own_w hw 93 rfl)) (mvT hZ (own_w hw 97 rfl)) (by decide) (backOf (W := 4) (rm_min2 l Z a0 hw [] wG1 wG3 wG5 wK5 cx hEL h2 n0 Ol2 (cs1.length - b1x) l1x (by omega) (by omega)) hZ (own_w hw 97 rfl) (own_w hw 93 rfl) (by decide) (by decide)) (g := (mkF m 24 #[vR ta, vI (Int32.ofNat b1x), vI (Int32.ofNat (b1x + l1x)), vI (Int32.ofNat l1x), vR b2] [(.int (Int32.ofNat l1x)), (.int (Int32.ofNat (cs1.length - b1x))), (.int 0), (.ref b2), (.int (Int32.ofNat b1x)), (.ref ta)])) rfl (by rw [hml]; rfl) (argsL := [(.int (Int32.ofNat (cs1.length - b1x))), (.int (Int32.ofNat l1x))]) (rest := [(.int 0), (.ref b2), (.int (Int32.ofNat b1x)), (.ref ta)]) (lenOf pd_50523903 rfl) rfl (Nat.le_of_eq rfl) (hb hby d20_24) (fun _ _ => ⟨rfl, e2, (by decide : 1 + 0 ≤ _), (by decide : 4 + 0 ≤ _)⟩)
  dsimp only [Pt.U, Pt.locs, Pt.cells, Pt.slots] at X5 l5 y5 z5 st5 hQ5
  subst l5 y5 z5
  obtain ⟨rfl, Nq5, eq5⟩ := hQ5
  refine og T5 m 27 #[vR ta, vI (Int32.ofNat b1x), vI (Int32.ofNat (b1x + l1x)), vI (Int32.ofNat l1x), vR b2] [(.int (Int32.ofNat l1x)), (.int 0), (.ref b2), (.int (Int32.ofNat b1x)), (.ref ta)] st5 ?_
  have N5 := Fr.app N1 Nq5
  obtain ⟨T6, h6, L6, X6, e6, N6, Kq6, V6, st6⟩ := cpA X5 hx hZ hown (own_w hw 163 rfl) (own_w hw 166 rfl) (own_w hw 164 rfl) (own_w hw 165 rfl) eq5 F2_1 Vr3 (us := ((vsa.drop b1x).take l1x)) (Or.inl ⟨rfl, rfl⟩) (own_cr2 hos hbl).1 (by decide) (own_cr2 hos hbl).2.1 (own_cr2 hos hbl).2.2.1 (own_cr2 hos hbl).2.2.2.1 (own_cr2 hos hbl).2.2.2.2.1 (own_cr2 hos hbl).2.2.2.2.2.1 N5 g_b2 (g := (mkF m 27 #[vR ta, vI (Int32.ofNat b1x), vI (Int32.ofNat (b1x + l1x)), vI (Int32.ofNat l1x), vR b2] [(.int (Int32.ofNat l1x)), (.int 0), (.ref b2), (.int (Int32.ofNat b1x)), (.ref ta)])) rfl (by rw [hml]; rfl) (rest := []) rfl (hb hby d20_27) (by decide) (W := 0) (Nat.le_of_eq rfl) (by decide)
  refine og T6 m 30 #[vR ta, vI (Int32.ofNat b1x), vI (Int32.ofNat (b1x + l1x)), vI (Int32.ofNat l1x), vR b2] [] st6 ?_
  have F6_2 := F2_1.keep Kq6 (ninS ne_ta_b2 nin0)
  have Ol6 := Ol2.keep Kq6 (allS g_b2 all0)
  have K6 : Keep h0 h6 ([] : List Addr) := K2.trans Kq6 (allS (Or.inr s_b2) all0)
  rw [(own_cr2 hos hbl).2.2.2.2.2.2] at V6
  have V6' : Arv Z h6 b2 k2 .byte (Int32.ofNat l1x) ((vsa.drop b1x).take l1x) (.int 0) := V6
  refine og T6 m 32 #[vR ta, vI (Int32.ofNat b1x), vI (Int32.ofNat (b1x + l1x)), vI (Int32.ofNat l1x), vR b2] [(.ref b2)] (fun tgt kgo => ?_) ?_
  · refine XS.aload X6.here hx rfl (hb hby d20_30) rfl rfl ?_
    exact kgo
  have hret : ∀ fs, (∀ (f : JFrame) (acts : List Action), f.method = m → f.locked = none → f.entered = [] → (doReturn e (T6.setTop f) acts (some (.ref b2))).1 = T6.setFrames fs) → Steps p.tables e below (T6.setTop (mkF m 32 #[vR ta, vI (Int32.ofNat b1x), vI (Int32.ofNat (b1x + l1x)), vI (Int32.ofNat l1x), vR b2] [(.ref b2)])) (T6.setFrames fs) := by
    intro fs hr
    jvm_step X6.here [X6.here.top, hx, (hb hby d20_32), X6.method', Bd.returns, Value.isRef, FieldType.isReference]
    first | (intro acts; rw [hr _ acts rfl rfl rfl]) | rw [hr _ _ rfl rfl rfl]
    exact Steps.refl _
  refine own_leave X6 hlk (v := some (.ref b2)) (fun h => by rw [Bd.returns] at h; cases h) hret (by decide) (by decide) ?_
  show Q_crb Z ta ka na vsa cs1 b1x l1x h0 n0 _ T6.heap _
  rw [e6]
  exact ⟨b2, k2, rfl, N6, K6, s_b2, V6'⟩
theorem ef_cr (m : MethodId) (x0 : Addr) (x1 : Int32) (x2 : Int32) : entryFrame m #[(.ref x0), (.int x1), (.int x2)] 3 = mkF m 0 #[vR x0, vI x1, vI x2] [] := by
  first | (simp [entryFrame, mkF, argsToLocals, Value.category]; done) | rfl
def Q_cr (Z : State) (ta : Addr) (ka : ClassId) (na : Int32) (vsa : List Value) (cs1 : List Int32) (b1x : Nat) (l1x : Nat) (h0 : Heap) (n0 : Nat) (v : Option Value) (h : Heap) (L : List Loc) : Prop := ∃ (t : Addr), ∃ (k : ClassId), v = some (.ref t) ∧ Fr n0 L ∧ Keep h0 h ([] : List Addr) ∧ h0.size ≤ t ∧ Arv Z h t k .byte (Int32.ofNat l1x) ((vsa.drop b1x).take l1x) (.int 0)
theorem d21_0 : decode jdk_65_method_132_code 0 = .ok (.iload_n 1, 1) := by decide +kernel
theorem d21_1 : decode jdk_65_method_132_code 1 = .ok (.ifCond .ne 9, 3) := by decide +kernel
theorem d21_10 : decode jdk_65_method_132_code 10 = .ok (.aload_n 0, 1) := by decide +kernel
theorem d21_11 : decode jdk_65_method_132_code 11 = .ok (.iload_n 1, 1) := by decide +kernel
theorem d21_12 : decode jdk_65_method_132_code 12 = .ok (.iload_n 2, 1) := by decide +kernel
theorem d21_13 : decode jdk_65_method_132_code 13 = .ok (.invokestatic 339, 3) := by decide +kernel
theorem pd_62477155 : parseMethodDescriptor "([BII)[B" = some ⟨[(.array .byte), .int, .int], some (.array .byte)⟩ := by decide +kernel
theorem d21_16 : decode jdk_65_method_132_code 16 = .ok (.areturn, 1) := by decide +kernel
set_option maxRecDepth 65536 in
set_option maxHeartbeats 40000000 in
theorem rm_cr (l : Launch) (Z : State) (a0 : Array Value) (hw : ∀ d ∈ tables_1, d.before a0 Z = true) (ws : List Jvm.Cond) (wG1 : Int32) (wG3 : Value) (wG5 : Addr) (wK5 : ClassId) (cx : OwnCx Z a0 wG1 wG3 wG5 wK5) (hEL : EW Z a0 consts_1) (h0 : Heap) (n0 : Nat) (X00 : Old Z n0 h0) (ta : Addr) (ka : ClassId) (na : Int32) (vsa : List Value) (cs1 : List Int32) (b1x : Nat) (l1x : Nat) (f0 : Arv Z h0 ta ka .byte na vsa (.int 0)) (hos : OwnStr cs1 (0 : Int32) na vsa) (hb1 : 1 ≤ b1x) (hbl : b1x + l1x ≤ cs1.length) (hc4 : cs1.length ≤ 4) :
    MetFree l mN21 (head1 (Jvm.Cond.code mN21 jdk_65_method_132_code 3 (some (.array .byte)) :: ws) (oR 2 1 4 34)) (fun a U => a = #[(.ref ta), (.int (Int32.ofNat b1x)), (.int (Int32.ofNat (b1x + l1x)))] ∧ Z.Warmed39 U.vm ∧ U.heap = h0) (fun _ _ _ _ _ => True) (fun _ U o U' => ∃ v L, o = .returned v ∧ Q_cr Z ta ka na vsa cs1 b1x l1x h0 n0 v U'.heap L ∧ FrameEnd U o U' L (oR 2 1 4 34).cells (oR 2 1 4 34).slots) := by
  refine MetFree.of_bodySF (plainFor_of_name pn_78818854) hisR ?_
  intro p e s m args below meth c s₁ Bd hml0 hP hK
  obtain ⟨rfl, hZ, hh⟩ := hP
  obtain ⟨wO2, wP5, wO4, wrG3, hstr, wO5, wV5⟩ := id cx
  have hx := Bd.exec
  have hby := Bd.bytes
  have hlk := Bd.notSynchronized
  have hml : c.maxLocals = 3 := hml0
  have hown : s.vm.findClass "java/util/Arrays" = some m.cls := findClass_of_methodNamed Bd.named
  have hnm := (name_of_methodNamed Bd.named Bd.method).1
  have X0 : Stand p l e (oR 2 1 4 34) s m #[(.ref ta), (.int (Int32.ofNat b1x)), (.int (Int32.ofNat (b1x + l1x)))] below meth c s₁ [] 0 0 := Stand.of_body Bd
  have e0 : s₁.heap = h0 := by rw [← hh, Bd.state]; rfl
  have N0 := Fr.nil n0
  have Z0 : n0 ≤ h0.size := X00.1 ▸ X00.2.1
  have K0 : Keep h0 h0 ([] : List Addr) := Keep.refl _ _
  show OwnGoes p e below _ s₁ (entryFrame m _ _)
  refine og s₁ m 0 #[vR ta, vI (Int32.ofNat b1x), vI (Int32.ofNat (b1x + l1x))] [] (fun tgt kgo => castTop (ef_cr m ta (Int32.ofNat b1x) (Int32.ofNat (b1x + l1x))) kgo) ?_
  refine og s₁ m 13 #[vR ta, vI (Int32.ofNat b1x), vI (Int32.ofNat (b1x + l1x))] [(.int (Int32.ofNat (b1x + l1x))), (.int (Int32.ofNat b1x)), (.ref ta)] (fun tgt kgo => ?_) ?_
  · refine XS.iloadN X0.here hx rfl (hb hby d21_0) rfl ?_
    refine XS.ifYes X0.here hx rfl (pc0 := 1) (pc' := 10) rfl (hb hby d21_1) rfl ((if0 _ _).trans (feq (fun q => absurd (own_ofN (b := 0) (by omega) (by omega) q) (by omega))).2) (by decide) (by decide) ?_
    refine XS.aloadN X0.here hx rfl (hb hby d21_10) rfl rfl ?_
    show OwnG p e below s₁ m 11 #[vR ta, vI (Int32.ofNat b1x), vI (Int32.ofNat (b1x + l1x))] [(.ref ta)] tgt
    refine XS.iloadN X0.here hx rfl (hb hby d21_11) rfl ?_
    refine XS.iloadN X0.here hx rfl (hb hby d21_12) rfl ?_
    exact kgo
  obtain ⟨_, _, ⟨T1, L1, k1, n1⟩, -, X1, ⟨Lc1, hQ1, l1, y1, z1⟩, st1⟩ := Jvm.LawKit.callS X0 hx (y := mN20) hown (mvT hZ (own_w hw 156 rfl)) (mvT hZ (own_w hw 157 rfl)) (mvT hZ (own_w hw 154 rfl)) (mvT hZ (own_w hw 158 rfl)) (by decide) (backOf (W := 0) (rm_crb l Z a0 hw [] wG1 wG3 wG5 wK5 cx hEL h0 n0 X00 ta ka na vsa cs1 b1x l1x f0 hos hb1 hbl hc4) hZ (own_w hw 158 rfl) (own_w hw 154 rfl) (by decide) (by decide)) (g := (mkF m 13 #[vR ta, vI (Int32.ofNat b1x), vI (Int32.ofNat (b1x + l1x))] [(.int (Int32.ofNat (b1x + l1x))), (.int (Int32.ofNat b1x)), (.ref ta)])) rfl (by rw [hml]; rfl) (argsL := [(.ref ta), (.int (Int32.ofNat b1x)), (.int (Int32.ofNat (b1x + l1x)))]) (rest := []) (lenOf pd_62477155 rfl) rfl (Nat.le_of_eq rfl) (hb hby d21_13) (fun _ _ => ⟨rfl, e0, (by decide : 0 + 1 ≤ _), (by decide : 0 + 4 ≤ _)⟩)
  dsimp only [Pt.U, Pt.locs, Pt.cells, Pt.slots] at X1 l1 y1 z1 st1 hQ1
  subst l1 y1 z1
  obtain ⟨t_1, k_1, rfl, Nq1, Kq1, zq1_0, fq1_0⟩ := hQ1
  refine og T1 m 16 #[vR ta, vI (Int32.ofNat b1x), vI (Int32.ofNat (b1x + l1x))] [(.ref t_1)] st1 ?_
  have N1 := Fr.app N0 Nq1
  have ne_ta_t_1 : ta ≠ t_1 := Nat.ne_of_lt (Nat.lt_of_lt_of_le f0.lt zq1_0)
  have g_t_1 : n0 ≤ t_1 := Nat.le_trans (Nat.le_trans Z0 K0.1) zq1_0
  have s_t_1 : h0.size ≤ t_1 := Nat.le_trans K0.1 zq1_0
  have F1_1 := f0.keep Kq1 nin0
  have Ol1 := X00.keep Kq1 all0
  have K1 : Keep h0 T1.heap ([] : List Addr) := K0.trans Kq1 all0
  have hret : ∀ fs, (∀ (f : JFrame) (acts : List Action), f.method = m → f.locked = none → f.entered = [] → (doReturn e (T1.setTop f) acts (some (.ref t_1))).1 = T1.setFrames fs) → Steps p.tables e below (T1.setTop (mkF m 16 #[vR ta, vI (Int32.ofNat b1x), vI (Int32.ofNat (b1x + l1x))] [(.ref t_1)])) (T1.setFrames fs) := by
    intro fs hr
    jvm_step X1.here [X1.here.top, hx, (hb hby d21_16), X1.method', Bd.returns, Value.isRef, FieldType.isReference]
    first | (intro acts; rw [hr _ acts rfl rfl rfl]) | rw [hr _ _ rfl rfl rfl]
    exact Steps.refl _
  refine own_leave X1 hlk (v := some (.ref t_1)) (fun h => by rw [Bd.returns] at h; cases h) hret (by decide) (by decide) ?_
  show Q_cr Z ta ka na vsa cs1 b1x l1x h0 n0 _ T1.heap _
  exact ⟨t_1, k_1, rfl, N1, K1, s_t_1, fq1_0⟩
theorem ef_inibb (m : MethodId) (x0 : Addr) (x1 : Addr) : entryFrame m #[(.ref x0), (.ref x1), (.int 0)] 3 = mkF m 0 #[vR x0, vR x1, vI 0] [] := by
  first | (simp [entryFrame, mkF, argsToLocals, Value.category]; done) | rfl
def Q_inibb (Z : State) (a1 : Addr) (a2 : Addr) (u1v : Value) (u2v : Value) (h0 : Heap) (n0 : Nat) (v : Option Value) (h : Heap) (L : List Loc) : Prop := v = none ∧ Fr n0 L ∧ Keep h0 h ([a1] : List Addr) ∧ Exa Z h a1 "java/lang/String" ∧ Fld Z h a1 "java/lang/String" "value" "[B" (.ref a2) ∧ Fld Z h a1 "java/lang/String" "coder" "B" (.int 0)
theorem d22_0 : decode jdk_42_method_151_code 0 = .ok (.aload_n 0, 1) := by decide +kernel
theorem d22_1 : decode jdk_42_method_151_code 1 = .ok (.invokespecial 1, 3) := by decide +kernel
theorem d22_4 : decode jdk_42_method_151_code 4 = .ok (.aload_n 0, 1) := by decide +kernel
theorem d22_5 : decode jdk_42_method_151_code 5 = .ok (.aload_n 1, 1) := by decide +kernel
theorem d22_6 : decode jdk_42_method_151_code 6 = .ok (.putfield 9, 3) := by decide +kernel
theorem d22_9 : decode jdk_42_method_151_code 9 = .ok (.aload_n 0, 1) := by decide +kernel
theorem d22_10 : decode jdk_42_method_151_code 10 = .ok (.iload_n 2, 1) := by decide +kernel
theorem d22_11 : decode jdk_42_method_151_code 11 = .ok (.putfield 15, 3) := by decide +kernel
theorem d22_14 : decode jdk_42_method_151_code 14 = .ok (.return_, 1) := by decide +kernel
set_option maxRecDepth 65536 in
set_option maxHeartbeats 40000000 in
theorem rm_inibb (l : Launch) (Z : State) (a0 : Array Value) (hw : ∀ d ∈ tables_1, d.before a0 Z = true) (ws : List Jvm.Cond) (wG1 : Int32) (wG3 : Value) (wG5 : Addr) (wK5 : ClassId) (cx : OwnCx Z a0 wG1 wG3 wG5 wK5) (hEL : EW Z a0 consts_1) (h0 : Heap) (n0 : Nat) (X00 : Old Z n0 h0) (a1 : Addr) (a2 : Addr) (u1v : Value) (u2v : Value) (f0 : Exa Z h0 a1 "java/lang/String") (f1 : Fld Z h0 a1 "java/lang/String" "value" "[B" u1v) (f2 : Fld Z h0 a1 "java/lang/String" "coder" "B" u2v) (f3 : n0 ≤ a1) :
    MetFree l mN22 (head1 (Jvm.Cond.code mN22 jdk_42_method_151_code 3 none :: ws) (oR 1 0 0 12)) (fun a U => a = #[(.ref a1), (.ref a2), (.int 0)] ∧ Z.Warmed39 U.vm ∧ U.heap = h0) (fun _ _ _ _ _ => True) (fun _ U o U' => ∃ v L, o = .returned v ∧ Q_inibb Z a1 a2 u1v u2v h0 n0 v U'.heap L ∧ FrameEnd U o U' L (oR 1 0 0 12).cells (oR 1 0 0 12).slots) := by
  refine MetFree.of_bodySF (plainFor_of_name pn_52039224) hisR ?_
  intro p e s m args below meth c s₁ Bd hml0 hP hK
  obtain ⟨rfl, hZ, hh⟩ := hP
  obtain ⟨wO2, wP5, wO4, wrG3, hstr, wO5, wV5⟩ := id cx
  have hx := Bd.exec
  have hby := Bd.bytes
  have hlk := Bd.notSynchronized
  have hml : c.maxLocals = 3 := hml0
  have hown : s.vm.findClass "java/lang/String" = some m.cls := findClass_of_methodNamed Bd.named
  have hnm := (name_of_methodNamed Bd.named Bd.method).1
  have X0 : Stand p l e (oR 1 0 0 12) s m #[(.ref a1), (.ref a2), (.int 0)] below meth c s₁ [] 0 0 := Stand.of_body Bd
  have e0 : s₁.heap = h0 := by rw [← hh, Bd.state]; rfl
  have N0 := Fr.nil n0
  have Z0 : n0 ≤ h0.size := X00.1 ▸ X00.2.1
  have K0 : Keep h0 h0 ([a1] : List Addr) := Keep.refl _ _
  show OwnGoes p e below _ s₁ (entryFrame m _ _)
  refine og s₁ m 0 #[vR a1, vR a2, vI 0] [] (fun tgt kgo => castTop (ef_inibb m a1 a2) kgo) ?_
  refine og s₁ m 1 #[vR a1, vR a2, vI 0] [(.ref a1)] (fun tgt kgo => ?_) ?_
  · refine XS.aloadN X0.here hx rfl (hb hby d22_0) rfl rfl ?_
    exact kgo
  obtain ⟨T1, X1, e1, st1⟩ := initO X0 hx hZ hown (own_w hw 19 rfl) (own_w hw 20 rfl) (own_w hw 21 rfl) e0 (g := (mkF m 1 #[vR a1, vR a2, vI 0] [(.ref a1)])) rfl (by rw [hml]; rfl) rfl (hb hby d22_1) (by decide) (W := 0) (Nat.le_of_eq rfl) (by decide)
  refine og T1 m 4 #[vR a1, vR a2, vI 0] [] st1 ?_
  refine og T1 m 6 #[vR a1, vR a2, vI 0] [(.ref a2), (.ref a1)] (fun tgt kgo => ?_) ?_
  · refine XS.aloadN X1.here hx rfl (hb hby d22_4) rfl rfl ?_
    refine XS.aloadN X1.here hx rfl (hb hby d22_5) rfl rfl ?_
    exact kgo
  obtain ⟨T2, h2, X2, e2, W2, st2⟩ := putF X1 hx hZ hown (host := "") (Or.inl (own_w hw 28 rfl)) Via.refl e1 f1 f0 (Or.inr ⟨(own_w hw 24 rfl), rfl, hnm⟩) (own_w hw 10 rfl) (ty := (.array .byte)) (by decide) rfl rfl (g := (mkF m 6 #[vR a1, vR a2, vI 0] [(.ref a2), (.ref a1)])) rfl rfl (hb hby d22_6)
  refine og T2 m 9 #[vR a1, vR a2, vI 0] [] st2 ?_
  have Fw2 := f1.same W2
  have F2_1 := f0.wr W2
  have F2_2 := f2.other W2 (Or.inr (slot_ne (Or.inr (own_w hw 25 rfl)) (Or.inr (own_w hw 24 rfl)) (by decide) (t := .byte) (t' := (.array .byte)) (by decide) (by decide)))
  have Ol2 := X00.wr W2 f3
  have K2 : Keep h0 h2 ([a1] : List Addr) := K0.wr W2 (Or.inl (List.mem_of_getElem? (i := 0) rfl))
  have N2 := Fr.snoc X2 N0 f3
  refine og T2 m 11 #[vR a1, vR a2, vI 0] [(.int 0), (.ref a1)] (fun tgt kgo => ?_) ?_
  · refine XS.aloadN X2.here hx rfl (hb hby d22_9) rfl rfl ?_
    refine XS.iloadN X2.here hx rfl (hb hby d22_10) rfl ?_
    exact kgo
  obtain ⟨T3, h3, X3, e3, W3, st3⟩ := putFN X2 hx hZ hown (own_w hw 29 rfl) Via.refl e2 F2_2 F2_1 (Or.inr ⟨(own_w hw 25 rfl), rfl, hnm⟩) (own_w hw 10 rfl) (ty := .byte) (v' := (.int (nar .byte (0 : Int32)))) (by decide) rfl (fits_nar_byte _) (g := (mkF m 11 #[vR a1, vR a2, vI 0] [(.int 0), (.ref a1)])) rfl rfl (hb hby d22_11)
  refine og T3 m 14 #[vR a1, vR a2, vI 0] [] st3 ?_
  have Fw3 := F2_2.same W3
  rw [(by decide : nar .byte (0 : Int32) = (0 : Int32))] at Fw3
  have F3_3 := F2_1.wr W3
  have F3_4 := Fw2.other W3 (Or.inr (slot_ne (Or.inr (own_w hw 24 rfl)) (Or.inr (own_w hw 25 rfl)) (by decide) (t := (.array .byte)) (t' := .byte) (by decide) (by decide)))
  have Ol3 := Ol2.wr W3 f3
  have K3 : Keep h0 h3 ([a1] : List Addr) := K2.wr W3 (Or.inl (List.mem_of_getElem? (i := 0) rfl))
  have N3 := Fr.snoc X3 N2 f3
  refine own_leave X3 hlk (v := none) (fun _ => rfl) (fun fs hr => X3.returnOut hx Bd.returns (hb hby d22_14) hr) (by decide) (by decide) ?_
  show Q_inibb Z a1 a2 u1v u2v h0 n0 _ T3.heap _
  rw [e3]
  exact ⟨rfl, N3, K3, F3_3, F3_4, Fw3⟩
theorem ef_nstr (m : MethodId) (x0 : Addr) (x1 : Int32) (x2 : Int32) : entryFrame m #[(.ref x0), (.int x1), (.int x2)] 3 = mkF m 0 #[vR x0, vI x1, vI x2] [] := by
  first | (simp [entryFrame, mkF, argsToLocals, Value.category]; done) | rfl
def Q_nstr (Z : State) (ta : Addr) (ka : ClassId) (na : Int32) (vsa : List Value) (cs1 : List Int32) (b1x : Nat) (l1x : Nat) (h0 : Heap) (n0 : Nat) (v : Option Value) (h : Heap) (L : List Loc) : Prop := ∃ (x : Addr), ∃ (t : Addr), ∃ (k : ClassId), ∃ (N : Int32), ∃ (vs : List Value), v = some (.ref x) ∧ Fr n0 L ∧ Keep h0 h ([] : List Addr) ∧ Exa Z h x "java/lang/String" ∧ Fld Z h x "java/lang/String" "value" "[B" (.ref t) ∧ Fld Z h x "java/lang/String" "coder" "B" (.int 0) ∧ Arv Z h t k .byte N vs (.int 0) ∧ (OwnStr ((cs1.drop b1x).take l1x) (0 : Int32) N vs)
theorem d23_0 : decode jdk_43_method_47_code 0 = .ok (.iload_n 2, 1) := by decide +kernel
theorem d23_1 : decode jdk_43_method_47_code 1 = .ok (.ifCond .ne 6, 3) := by decide +kernel
theorem d23_4 : decode jdk_43_method_47_code 4 = .ok (.ldc 151, 2) := by decide +kernel
theorem d23_6 : decode jdk_43_method_47_code 6 = .ok (.areturn, 1) := by decide +kernel
theorem d23_7 : decode jdk_43_method_47_code 7 = .ok (.new 1, 3) := by decide +kernel
theorem d23_10 : decode jdk_43_method_47_code 10 = .ok (.dup, 1) := by decide +kernel
theorem d23_11 : decode jdk_43_method_47_code 11 = .ok (.aload_n 0, 1) := by decide +kernel
theorem d23_12 : decode jdk_43_method_47_code 12 = .ok (.iload_n 1, 1) := by decide +kernel
theorem d23_13 : decode jdk_43_method_47_code 13 = .ok (.iload_n 1, 1) := by decide +kernel
theorem d23_14 : decode jdk_43_method_47_code 14 = .ok (.iload_n 2, 1) := by decide +kernel
theorem d23_15 : decode jdk_43_method_47_code 15 = .ok (.iadd, 1) := by decide +kernel
theorem d23_16 : decode jdk_43_method_47_code 16 = .ok (.invokestatic 232, 3) := by decide +kernel
theorem d23_19 : decode jdk_43_method_47_code 19 = .ok (.iconst 0, 1) := by decide +kernel
theorem d23_20 : decode jdk_43_method_47_code 20 = .ok (.invokespecial 112, 3) := by decide +kernel
theorem pd_44458512 : parseMethodDescriptor "([BB)V" = some ⟨[(.array .byte), .byte], none⟩ := by decide +kernel
theorem d23_23 : decode jdk_43_method_47_code 23 = .ok (.areturn, 1) := by decide +kernel
set_option maxRecDepth 65536 in
set_option maxHeartbeats 40000000 in
theorem rm_nstr (l : Launch) (Z : State) (a0 : Array Value) (hw : ∀ d ∈ tables_1, d.before a0 Z = true) (ws : List Jvm.Cond) (wG1 : Int32) (wG3 : Value) (wG5 : Addr) (wK5 : ClassId) (cx : OwnCx Z a0 wG1 wG3 wG5 wK5) (hEL : EW Z a0 consts_1) (h0 : Heap) (n0 : Nat) (X00 : Old Z n0 h0) (ta : Addr) (ka : ClassId) (na : Int32) (vsa : List Value) (cs1 : List Int32) (b1x : Nat) (l1x : Nat) (f0 : Arv Z h0 ta ka .byte na vsa (.int 0)) (hos : OwnStr cs1 (0 : Int32) na vsa) (hb1 : 1 ≤ b1x) (hbl : b1x + l1x ≤ cs1.length) (hc4 : cs1.length ≤ 4) :
    MetFree l mN23 (head1 (Jvm.Cond.code mN23 jdk_43_method_47_code 3 (some (.object "java/lang/String")) :: ws) (oR 3 2 8 50)) (fun a U => a = #[(.ref ta), (.int (Int32.ofNat b1x)), (.int (Int32.ofNat l1x))] ∧ Z.Warmed39 U.vm ∧ U.heap = h0 ∧ CHv Z consts_1 U.vm h0) (fun _ _ _ _ _ => True) (fun _ U o U' => ∃ v L, o = .returned v ∧ Q_nstr Z ta ka na vsa cs1 b1x l1x h0 n0 v U'.heap L ∧ CHr Z consts_1 U.vm U.heap U'.vm U'.heap ∧ ReturnedEndW U o U' L (oR 3 2 8 50).cells (oR 3 2 8 50).slots) := by
  refine MetFree.of_bodySF (plainFor_of_name pn_54843740) hisR ?_
  intro p e s m args below meth c s₁ Bd hml0 hP hK
  obtain ⟨rfl, hZ, hh, hH⟩ := hP
  obtain ⟨wO2, wP5, wO4, wrG3, hstr, wO5, wV5⟩ := id cx
  have hx := Bd.exec
  have hby := Bd.bytes
  have hlk := Bd.notSynchronized
  have hml : c.maxLocals = 3 := hml0
  have hown : s.vm.findClass "java/lang/StringLatin1" = some m.cls := findClass_of_methodNamed Bd.named
  have hnm := (name_of_methodNamed Bd.named Bd.method).1
  have X0 : Stand p l e (oR 3 2 8 50) (s.setVm s.vm) m #[(.ref ta), (.int (Int32.ofNat b1x)), (.int (Int32.ofNat l1x))] below meth c s₁ [] 0 0 := Stand.of_body Bd
  have e0 : s₁.heap = h0 := by rw [← hh, Bd.state]; rfl
  have N0 := Fr.nil n0
  have Z0 : n0 ≤ h0.size := X00.1 ▸ X00.2.1
  have K0 : Keep h0 h0 ([] : List Addr) := Keep.refl _ _
  have R0 : CHr Z consts_1 s.vm h0 s.vm h0 := CHr.refl hH
  have hS0 : s.Since s.vm h0.size := State.WarmedH.since (State.WarmedH.refl s) _
  have hk0 : h0.size ≤ h0.size := Nat.le_refl _
  show OwnGoes p e below _ s₁ (entryFrame m _ _)
  refine og s₁ m 0 #[vR ta, vI (Int32.ofNat b1x), vI (Int32.ofNat l1x)] [] (fun tgt kgo => castTop (ef_nstr m ta (Int32.ofNat b1x) (Int32.ofNat l1x)) kgo) ?_
  refine og s₁ m 1 #[vR ta, vI (Int32.ofNat b1x), vI (Int32.ofNat l1x)] [(.int (Int32.ofNat l1x))] (fun tgt kgo => ?_) ?_
  · refine XS.iloadN X0.here hx rfl (hb hby d23_0) rfl ?_
    exact kgo
  by_cases cc1 : (Int32.ofNat l1x) = (0 : Int32)
  · skip
    refine og s₁ m 4 #[vR ta, vI (Int32.ofNat b1x), vI (Int32.ofNat l1x)] [] (fun tgt kgo => ?_) ?_
    · refine XS.ifNo X0.here hx rfl (hb hby d23_1) rfl ((if0 _ _).trans (teq cc1).2) ?_
      exact kgo
    obtain ⟨b2, T2, h2, kk2, t2, k2, X2, e2, E2, hS2, hk2, hZ2, ho2, A2, Fc2, Fv2, V2, lt2, lu2, Rc2, Lt2, ns2, st2⟩ := ldcCH X0 hx hZ hown (own_w hw 239 rfl) hstr e0 hS0 hk0 hEL (by decide) R0.1 (vs := []) (z := (0 : Int32)) (by decide +kernel) (by decide) (by decide +kernel) (g := (mkF m 4 #[vR ta, vI (Int32.ofNat b1x), vI (Int32.ofNat l1x)] [])) rfl (hb hby d23_4) (n := 0) (by decide) (by decide) (by decide) (by decide)
    refine og T2 m 6 #[vR ta, vI (Int32.ofNat b1x), vI (Int32.ofNat l1x)] [(.ref b2)] st2 ?_
    have F2_1 := f0.ext E2
    have Ol2 := X00.ext E2
    have K2 : Keep h0 h2 ([] : List Addr) := K0.ext E2
    have R2 := R0.trans Rc2
    have hos2 : OwnStr ([] : List Int32) (0 : Int32) (0 : Int32) [] := own_str_lat (n := 0) rfl (by decide) (by decide +kernel)
    have hret : ∀ fs, (∀ (f : JFrame) (acts : List Action), f.method = m → f.locked = none → f.entered = [] → (doReturn e (T2.setTop f) acts (some (.ref b2))).1 = T2.setFrames fs) → Steps p.tables e below (T2.setTop (mkF m 6 #[vR ta, vI (Int32.ofNat b1x), vI (Int32.ofNat l1x)] [(.ref b2)])) (T2.setFrames fs) := by
      intro fs hr
      jvm_step X2.here [X2.here.top, hx, (hb hby d23_6), X2.method', Bd.returns, Value.isRef, FieldType.isReference]
      first | (intro acts; rw [hr _ acts rfl rfl rfl]) | rw [hr _ _ rfl rfl rfl]
      exact Steps.refl _
    refine own_leaveW (Z := Z) (EL := consts_1) X2 hS2 (e2 ▸ hk2) hlk (v := some (.ref b2)) (fun h => by rw [Bd.returns] at h; cases h) hret (by decide) (by decide) ?_ ?_
    · rw [hh, e2]
      exact R2.trans (CHv.at X2 hZ2 hEL R2.1)
    show Q_nstr Z ta ka na vsa cs1 b1x l1x h0 n0 _ T2.heap _
    rw [e2]
    exact ⟨b2, t2, k2, (0 : Int32), [], rfl, N0, K2, A2, Fv2, Fc2, V2, (by rw [show l1x = 0 from own_ofN (b := 0) (by omega) (by omega) cc1, List.take_zero]; exact hos2)⟩
  refine og s₁ m 7 #[vR ta, vI (Int32.ofNat b1x), vI (Int32.ofNat l1x)] [] (fun tgt kgo => ?_) ?_
  · refine XS.ifYes X0.here hx rfl (pc0 := 1) (pc' := 7) rfl (hb hby d23_1) rfl ((if0 _ _).trans (feq cc1).2) (by decide) (by decide) ?_
    exact kgo
  obtain ⟨T4, h4, X4, e4, E4, A4, D4, U4, st4⟩ := newO X0 hx hZ hown (own_w hw 151 rfl) (own_w hw 10 rfl) (own_w hw 11 rfl) e0 (g := (mkF m 7 #[vR ta, vI (Int32.ofNat b1x), vI (Int32.ofNat l1x)] [])) rfl (hb hby d23_7) (by decide) (by decide)
  obtain ⟨b4, g4⟩ : ∃ z, z = h0.size := ⟨_, rfl⟩
  rw [← g4] at A4 D4 U4 st4
  refine og T4 m 10 #[vR ta, vI (Int32.ofNat b1x), vI (Int32.ofNat l1x)] [(.ref b4)] st4 ?_
  have ne_ta_b4 : ta ≠ b4 := Nat.ne_of_lt (Nat.lt_of_lt_of_le f0.lt (Nat.le_of_eq g4.symm))
  have g_b4 : n0 ≤ b4 := Nat.le_trans (Nat.le_trans Z0 K0.1) (Nat.le_of_eq g4.symm)
  have s_b4 : h0.size ≤ b4 := Nat.le_trans K0.1 (Nat.le_of_eq g4.symm)
  have Sf4 : Safe Z consts_1 s.vm h4 b4 := Safe.ext E4 R0.1 (Safe.new (Nat.le_of_eq g4.symm))
  have F4_2 := f0.ext E4
  have Ol4 := X00.ext E4
  have K4 : Keep h0 h4 ([] : List Addr) := K0.ext E4
  have R4 := R0.trans (CHr.ext E4 R0.1)
  have hk4 := Nat.le_trans hk0 E4.1
  have F4_3 : Fld Z h4 b4 "java/lang/String" "value" "[B" .null := D4 (Or.inr (own_w hw 24 rfl)) (ty := (.array .byte)) (by decide)
  have F4_4 : Fld Z h4 b4 "java/lang/String" "coder" "B" (.int 0) := D4 (Or.inr (own_w hw 25 rfl)) (ty := .byte) (by decide)
  refine og T4 m 16 #[vR ta, vI (Int32.ofNat b1x), vI (Int32.ofNat l1x)] [(.int ((Int32.ofNat b1x) + (Int32.ofNat l1x))), (.int (Int32.ofNat b1x)), (.ref ta), (.ref b4), (.ref b4)] (fun tgt kgo => ?_) ?_
  · refine XS.dup X4.here hx rfl (hb hby d23_10) rfl rfl ?_
    refine XS.aloadN X4.here hx rfl (hb hby d23_11) rfl rfl ?_
    refine XS.iloadN X4.here hx rfl (hb hby d23_12) rfl ?_
    show OwnG p e below T4 m 13 #[vR ta, vI (Int32.ofNat b1x), vI (Int32.ofNat l1x)] [(.int (Int32.ofNat b1x)), (.ref ta), (.ref b4), (.ref b4)] tgt
    refine XS.iloadN X4.here hx rfl (hb hby d23_13) rfl ?_
    refine XS.iloadN X4.here hx rfl (hb hby d23_14) rfl ?_
    refine XS.iadd X4.here hx rfl (hb hby d23_15) rfl ?_
    exact kgo
  refine og T4 m 16 #[vR ta, vI (Int32.ofNat b1x), vI (Int32.ofNat l1x)] [(.int (Int32.ofNat (b1x + l1x))), (.int (Int32.ofNat b1x)), (.ref ta), (.ref b4), (.ref b4)] (fun tgt kgo => castTop (by rw [(own_addN b1x l1x)]) kgo) ?_
  obtain ⟨_, _, ⟨T5, L5, k5, n5⟩, -, X5, ⟨Lc5, hQ5, l5, y5, z5⟩, st5⟩ := Jvm.LawKit.callS X4 hx (y := mN21) hown (mvT hZ (own_w hw 152 rfl)) (mvT hZ (own_w hw 153 rfl)) (mvT hZ (own_w hw 154 rfl)) (mvT hZ (own_w hw 155 rfl)) (by decide) (backOf (W := 2) (rm_cr l Z a0 hw [] wG1 wG3 wG5 wK5 cx hEL h4 n0 Ol4 ta ka na vsa cs1 b1x l1x F4_2 hos hb1 hbl hc4) hZ (own_w hw 155 rfl) (own_w hw 154 rfl) (by decide) (by decide)) (g := (mkF m 16 #[vR ta, vI (Int32.ofNat b1x), vI (Int32.ofNat l1x)] [(.int (Int32.ofNat (b1x + l1x))), (.int (Int32.ofNat b1x)), (.ref ta), (.ref b4), (.ref b4)])) rfl (by rw [hml]; rfl) (argsL := [(.ref ta), (.int (Int32.ofNat b1x)), (.int (Int32.ofNat (b1x + l1x)))]) (rest := [(.ref b4), (.ref b4)]) (lenOf pd_62477155 rfl) rfl (Nat.le_of_eq rfl) (hb hby d23_16) (fun _ _ => ⟨rfl, e4, (by decide : 1 + 1 ≤ _), (by decide : 4 + 4 ≤ _)⟩)
  dsimp only [Pt.U, Pt.locs, Pt.cells, Pt.slots] at X5 l5 y5 z5 st5 hQ5
  subst l5 y5 z5
  obtain ⟨t_5, k_5, rfl, Nq5, Kq5, zq5_0, fq5_0⟩ := hQ5
  refine og T5 m 19 #[vR ta, vI (Int32.ofNat b1x), vI (Int32.ofNat l1x)] [(.ref t_5), (.ref b4), (.ref b4)] st5 ?_
  have N5 := Fr.app N0 Nq5
  have ne_ta_t_5 : ta ≠ t_5 := Nat.ne_of_lt (Nat.lt_of_lt_of_le F4_2.lt zq5_0)
  have ne_b4_t_5 : b4 ≠ t_5 := Nat.ne_of_lt (Nat.lt_of_lt_of_le A4.lt zq5_0)
  have g_t_5 : n0 ≤ t_5 := Nat.le_trans (Nat.le_trans Z0 K4.1) zq5_0
  have s_t_5 : h0.size ≤ t_5 := Nat.le_trans K4.1 zq5_0
  have Sn5_0 : Safe Z consts_1 s.vm T5.heap t_5 := Safe.keep Kq5 sf0 R4.1 (Safe.new zq5_0)
  have F5_5 := F4_2.keep Kq5 nin0
  have F5_6 := Safe.keep Kq5 sf0 R4.1 Sf4
  have F5_7 := A4.keep Kq5
  have F5_8 := F4_3.keep Kq5 nin0
  have F5_9 := F4_4.keep Kq5 nin0
  have Ol5 := Ol4.keep Kq5 all0
  have K5 : Keep h0 T5.heap ([] : List Addr) := K4.trans Kq5 all0
  have R5 := R4.trans (CHr.keep Kq5 sf0 R4.1)
  have hk5 := Nat.le_trans hk4 Kq5.1
  refine og T5 m 20 #[vR ta, vI (Int32.ofNat b1x), vI (Int32.ofNat l1x)] [(.int 0), (.ref t_5), (.ref b4), (.ref b4)] (fun tgt kgo => ?_) ?_
  · refine XS.iconst X5.here hx rfl (hb hby d23_19) ?_
    exact kgo
  obtain ⟨_, _, ⟨T6, L6, k6, n6⟩, -, X6, ⟨Lc6, hQ6, l6, y6, z6⟩, st6⟩ := X5.specialBack hx (y := mN22) rfl hown (mvT hZ (own_w hw 167 rfl)) (mvT hZ (own_w hw 168 rfl)) (mvT hZ (own_w hw 169 rfl)) (by decide) (backOf (W := 1) (rm_inibb l Z a0 hw [] wG1 wG3 wG5 wK5 cx hEL T5.heap n0 Ol5 b4 t_5 .null (.int 0) F5_7 F5_8 F5_9 g_b4) hZ (own_w hw 169 rfl) (own_w hw 11 rfl) (by decide) (by decide)) (g := (mkF m 20 #[vR ta, vI (Int32.ofNat b1x), vI (Int32.ofNat l1x)] [(.int 0), (.ref t_5), (.ref b4), (.ref b4)])) rfl (by rw [hml]; rfl) (Steps.refl _) (a := b4) (argsL := [(.ref t_5), (.int 0)]) (rest := [(.ref b4)]) (lenOf pd_44458512 rfl) rfl (Nat.le_of_eq rfl) (hb hby d23_20) (fun _ _ => ⟨rfl, rfl, (by decide : 2 + 0 ≤ _), (by decide : 8 + 0 ≤ _)⟩)
  dsimp only [Pt.U, Pt.locs, Pt.cells, Pt.slots] at X6 l6 y6 z6 st6 hQ6
  subst l6 y6 z6
  obtain ⟨rfl, Nq6, Kq6, fq6_0, fq6_1, fq6_2⟩ := hQ6
  refine OwnGoes.tr (T' := T6) (g' := (mkF m 23 #[vR ta, vI (Int32.ofNat b1x), vI (Int32.ofNat l1x)] [(.ref b4)])) st6 ?_
  have N6 := Fr.app N5 Nq6
  have F6_10 := F5_5.keep Kq6 (ninS ne_ta_b4 nin0)
  have F6_11 := Safe.keep Kq6 (sfS F5_6 sf0) R5.1 F5_6
  have F6_12 := F5_7.keep Kq6
  have F6_13 := Safe.keep Kq6 (sfS F5_6 sf0) R5.1 Sn5_0
  have F6_14 := fq5_0.keep Kq6 (ninS (Ne.symm ne_b4_t_5) nin0)
  have Ol6 := Ol5.keep Kq6 (allS g_b4 all0)
  have K6 : Keep h0 T6.heap ([] : List Addr) := K5.trans Kq6 (allS (Or.inr s_b4) all0)
  have R6 := R5.trans (CHr.keep Kq6 (sfS F5_6 sf0) R5.1)
  have hk6 := Nat.le_trans hk5 Kq6.1
  have hret : ∀ fs, (∀ (f : JFrame) (acts : List Action), f.method = m → f.locked = none → f.entered = [] → (doReturn e (T6.setTop f) acts (some (.ref b4))).1 = T6.setFrames fs) → Steps p.tables e below (T6.setTop (mkF m 23 #[vR ta, vI (Int32.ofNat b1x), vI (Int32.ofNat l1x)] [(.ref b4)])) (T6.setFrames fs) := by
    intro fs hr
    jvm_step X6.here [X6.here.top, hx, (hb hby d23_23), X6.method', Bd.returns, Value.isRef, FieldType.isReference]
    first | (intro acts; rw [hr _ acts rfl rfl rfl]) | rw [hr _ _ rfl rfl rfl]
    exact Steps.refl _
  refine own_leaveW (Z := Z) (EL := consts_1) X6 hS0 hk6 hlk (v := some (.ref b4)) (fun h => by rw [Bd.returns] at h; cases h) hret (by decide) (by decide) ?_ ?_
  · rw [hh]
    exact R6.trans (CHv.at X6 hZ hEL R6.1)
  show Q_nstr Z ta ka na vsa cs1 b1x l1x h0 n0 _ T6.heap _
  exact ⟨b4, t_5, k_5, (Int32.ofNat l1x), ((vsa.drop b1x).take l1x), rfl, N6, K6, fq6_0, fq6_1, fq6_2, F6_14, (own_sub hos hbl)⟩
theorem ef_subs (m : MethodId) (x0 : Addr) (x1 : Int32) (x2 : Int32) : entryFrame m #[(.ref x0), (.int x1), (.int x2)] 5 = mkF m 0 #[vR x0, vI x1, vI x2, vU, vU] [] := by
  first | (simp [entryFrame, mkF, argsToLocals, Value.category]; done) | rfl
def Q_subs (Z : State) (a1 : Addr) (ta : Addr) (ka : ClassId) (na : Int32) (vsa : List Value) (cs1 : List Int32) (b1x : Nat) (l1x : Nat) (h0 : Heap) (n0 : Nat) (v : Option Value) (h : Heap) (L : List Loc) : Prop := ∃ (x : Addr), ∃ (t : Addr), ∃ (k : ClassId), ∃ (N : Int32), ∃ (vs : List Value), v = some (.ref x) ∧ Fr n0 L ∧ Keep h0 h ([] : List Addr) ∧ Exa Z h x "java/lang/String" ∧ Fld Z h x "java/lang/String" "value" "[B" (.ref t) ∧ Fld Z h x "java/lang/String" "coder" "B" (.int 0) ∧ Arv Z h t k .byte N vs (.int 0) ∧ (OwnStr ((cs1.drop b1x).take l1x) (0 : Int32) N vs)
theorem d24_0 : decode jdk_42_method_92_code 0 = .ok (.aload_n 0, 1) := by decide +kernel
theorem d24_1 : decode jdk_42_method_92_code 1 = .ok (.invokevirtual 505, 3) := by decide +kernel
theorem d24_4 : decode jdk_42_method_92_code 4 = .ok (.istore_n 3, 1) := by decide +kernel
theorem d24_5 : decode jdk_42_method_92_code 5 = .ok (.iload_n 1, 1) := by decide +kernel
theorem d24_6 : decode jdk_42_method_92_code 6 = .ok (.iload_n 2, 1) := by decide +kernel
theorem d24_7 : decode jdk_42_method_92_code 7 = .ok (.iload_n 3, 1) := by decide +kernel
theorem d24_8 : decode jdk_42_method_92_code 8 = .ok (.invokestatic 521, 3) := by decide +kernel
theorem pd_55273746 : parseMethodDescriptor "(III)V" = some ⟨[.int, .int, .int], none⟩ := by decide +kernel
theorem d24_11 : decode jdk_42_method_92_code 11 = .ok (.iload_n 1, 1) := by decide +kernel
theorem d24_12 : decode jdk_42_method_92_code 12 = .ok (.ifCond .ne 10, 3) := by decide +kernel
theorem d24_22 : decode jdk_42_method_92_code 22 = .ok (.iload_n 2, 1) := by decide +kernel
theorem d24_23 : decode jdk_42_method_92_code 23 = .ok (.iload_n 1, 1) := by decide +kernel
theorem d24_24 : decode jdk_42_method_92_code 24 = .ok (.isub, 1) := by decide +kernel
theorem d24_25 : decode jdk_42_method_92_code 25 = .ok (.istore 4, 2) := by decide +kernel
theorem d24_27 : decode jdk_42_method_92_code 27 = .ok (.aload_n 0, 1) := by decide +kernel
theorem d24_28 : decode jdk_42_method_92_code 28 = .ok (.invokevirtual 492, 3) := by decide +kernel
theorem d24_31 : decode jdk_42_method_92_code 31 = .ok (.ifCond .eq 16, 3) := by decide +kernel
theorem d24_34 : decode jdk_42_method_92_code 34 = .ok (.aload_n 0, 1) := by decide +kernel
theorem d24_35 : decode jdk_42_method_92_code 35 = .ok (.getfield 9, 3) := by decide +kernel
theorem d24_38 : decode jdk_42_method_92_code 38 = .ok (.iload_n 1, 1) := by decide +kernel
theorem d24_39 : decode jdk_42_method_92_code 39 = .ok (.iload 4, 2) := by decide +kernel
theorem d24_41 : decode jdk_42_method_92_code 41 = .ok (.invokestatic 685, 3) := by decide +kernel
theorem pd_81778060 : parseMethodDescriptor "([BII)Ljava/lang/String;" = some ⟨[(.array .byte), .int, .int], some (.object "java/lang/String")⟩ := by decide +kernel
theorem d24_44 : decode jdk_42_method_92_code 44 = .ok (.goto 13, 3) := by decide +kernel
theorem d24_57 : decode jdk_42_method_92_code 57 = .ok (.areturn, 1) := by decide +kernel
set_option maxRecDepth 65536 in
set_option maxHeartbeats 40000000 in
theorem rm_subs (l : Launch) (Z : State) (a0 : Array Value) (hw : ∀ d ∈ tables_1, d.before a0 Z = true) (ws : List Jvm.Cond) (wG1 : Int32) (wG3 : Value) (wG5 : Addr) (wK5 : ClassId) (cx : OwnCx Z a0 wG1 wG3 wG5 wK5) (hEL : EW Z a0 consts_1) (h0 : Heap) (n0 : Nat) (X00 : Old Z n0 h0) (a1 : Addr) (ta : Addr) (ka : ClassId) (na : Int32) (vsa : List Value) (cs1 : List Int32) (b1x : Nat) (l1x : Nat) (f0 : Exa Z h0 a1 "java/lang/String") (f1 : Fld Z h0 a1 "java/lang/String" "value" "[B" (.ref ta)) (f2 : Fld Z h0 a1 "java/lang/String" "coder" "B" (.int 0)) (f3 : Arv Z h0 ta ka .byte na vsa (.int 0)) (hos : OwnStr cs1 (0 : Int32) na vsa) (hb1 : 1 ≤ b1x) (hbl : b1x + l1x ≤ cs1.length) (hc4 : cs1.length ≤ 4) :
    MetFree l mN24 (head1 (Jvm.Cond.code mN24 jdk_42_method_92_code 5 (some (.object "java/lang/String")) :: ws) (oR 4 2 8 64)) (fun a U => a = #[(.ref a1), (.int (Int32.ofNat b1x)), (.int (Int32.ofNat (b1x + l1x)))] ∧ Z.Warmed39 U.vm ∧ U.heap = h0 ∧ CHv Z consts_1 U.vm h0) (fun _ _ _ _ _ => True) (fun _ U o U' => ∃ v L, o = .returned v ∧ Q_subs Z a1 ta ka na vsa cs1 b1x l1x h0 n0 v U'.heap L ∧ CHr Z consts_1 U.vm U.heap U'.vm U'.heap ∧ ReturnedEndW U o U' L (oR 4 2 8 64).cells (oR 4 2 8 64).slots) := by
  refine MetFree.of_bodySF (plainFor_of_name pn_52039224) hisR ?_
  intro p e s m args below meth c s₁ Bd hml0 hP hK
  obtain ⟨rfl, hZ, hh, hH⟩ := hP
  obtain ⟨wO2, wP5, wO4, wrG3, hstr, wO5, wV5⟩ := id cx
  have hx := Bd.exec
  have hby := Bd.bytes
  have hlk := Bd.notSynchronized
  have hml : c.maxLocals = 5 := hml0
  have hown : s.vm.findClass "java/lang/String" = some m.cls := findClass_of_methodNamed Bd.named
  have hnm := (name_of_methodNamed Bd.named Bd.method).1
  have X0 : Stand p l e (oR 4 2 8 64) (s.setVm s.vm) m #[(.ref a1), (.int (Int32.ofNat b1x)), (.int (Int32.ofNat (b1x + l1x)))] below meth c s₁ [] 0 0 := Stand.of_body Bd
  have e0 : s₁.heap = h0 := by rw [← hh, Bd.state]; rfl
  have N0 := Fr.nil n0
  have Z0 : n0 ≤ h0.size := X00.1 ▸ X00.2.1
  have K0 : Keep h0 h0 ([] : List Addr) := Keep.refl _ _
  have R0 : CHr Z consts_1 s.vm h0 s.vm h0 := CHr.refl hH
  have hS0 : s.Since s.vm h0.size := State.WarmedH.since (State.WarmedH.refl s) _
  have hk0 : h0.size ≤ h0.size := Nat.le_refl _
  show OwnGoes p e below _ s₁ (entryFrame m _ _)
  refine og s₁ m 0 #[vR a1, vI (Int32.ofNat b1x), vI (Int32.ofNat (b1x + l1x)), vU, vU] [] (fun tgt kgo => castTop (ef_subs m a1 (Int32.ofNat b1x) (Int32.ofNat (b1x + l1x))) kgo) ?_
  refine og s₁ m 1 #[vR a1, vI (Int32.ofNat b1x), vI (Int32.ofNat (b1x + l1x)), vU, vU] [(.ref a1)] (fun tgt kgo => ?_) ?_
  · refine XS.aloadN X0.here hx rfl (hb hby d24_0) rfl rfl ?_
    exact kgo
  obtain ⟨cq1, kq1, q1a, q1b, q1c⟩ := isOf (s := (s.setVm s.vm)) hZ e0 f0
  obtain ⟨_, _, ⟨T1, L1, k1, n1⟩, -, X1, ⟨Lc1, hQ1, l1, y1, z1⟩, st1⟩ := X0.virtualBack hx (y := mN3) (z := mN3) hown (mvT hZ (own_w hw 74 rfl)) (mvT hZ (own_w hw 75 rfl)) (notFace_of_selects (args := #[]) (mvT hZ (own_w hw 77 rfl))) (mvT hZ (own_w hw 77 rfl)) (mvT hZ (own_w hw 76 rfl)) (by decide) (backOf (W := 0) (rm_len l Z a0 hw [] wG1 wG3 wG5 wK5 cx hEL h0 n0 X00 a1 ta ka na vsa f0 f1 f2 f3) hZ (own_w hw 78 rfl) (own_w hw 11 rfl) (by decide) (by decide)) q1a q1c (g := (mkF m 1 #[vR a1, vI (Int32.ofNat b1x), vI (Int32.ofNat (b1x + l1x)), vU, vU] [(.ref a1)])) rfl (by rw [hml]; rfl) (Steps.refl _) (argsL := []) (rest := []) (lenOf pd_86913941 rfl) rfl (Nat.le_of_eq rfl) (hb hby d24_1) (fun _ _ => ⟨rfl, e0, (by decide : 0 + 0 ≤ _), (by decide : 0 + 0 ≤ _)⟩)
  dsimp only [Pt.U, Pt.locs, Pt.cells, Pt.slots] at X1 l1 y1 z1 st1 hQ1
  subst l1 y1 z1
  obtain ⟨rfl, Nq1, eq1⟩ := hQ1
  refine OwnGoes.tr (T' := T1) (g' := (mkF m 4 #[vR a1, vI (Int32.ofNat b1x), vI (Int32.ofNat (b1x + l1x)), vU, vU] [(.int na)])) st1 ?_
  have N1 := Fr.app N0 Nq1
  refine og T1 m 8 #[vR a1, vI (Int32.ofNat b1x), vI (Int32.ofNat (b1x + l1x)), vI na, vU] [(.int na), (.int (Int32.ofNat (b1x + l1x))), (.int (Int32.ofNat b1x))] (fun tgt kgo => ?_) ?_
  · refine XS.istoreN X1.here hx rfl (hb hby d24_4) rfl (l' := #[vR a1, vI (Int32.ofNat b1x), vI (Int32.ofNat (b1x + l1x)), vI na, vU]) rfl ?_
    refine XS.iloadN X1.here hx rfl (hb hby d24_5) rfl ?_
    refine XS.iloadN X1.here hx rfl (hb hby d24_6) rfl ?_
    show OwnG p e below T1 m 7 #[vR a1, vI (Int32.ofNat b1x), vI (Int32.ofNat (b1x + l1x)), vI na, vU] [(.int (Int32.ofNat (b1x + l1x))), (.int (Int32.ofNat b1x))] tgt
    refine XS.iloadN X1.here hx rfl (hb hby d24_7) rfl ?_
    exact kgo
  obtain ⟨_, _, ⟨T2, L2, k2, n2⟩, -, X2, ⟨Lc2, hQ2, l2, y2, z2⟩, st2⟩ := Jvm.LawKit.callS X1 hx (y := mN18) hown (mvT hZ (own_w hw 140 rfl)) (mvT hZ (own_w hw 141 rfl)) (mvT hZ (own_w hw 11 rfl)) (mvT hZ (own_w hw 142 rfl)) (by decide) (backOf (W := 0) (rm_cbe l Z a0 hw [] wG1 wG3 wG5 wK5 cx hEL h0 n0 X00 (Int32.ofNat b1x) (Int32.ofNat (b1x + l1x)) na (own_nat (by omega)).2.1 (fun q => absurd ((own_ltN (by omega) (by omega)).mp q) (by omega)) (fun q => absurd ((own_na hos (by omega)).2.mp q) (by omega))) hZ (own_w hw 142 rfl) (own_w hw 11 rfl) (by decide) (by decide)) (g := (mkF m 8 #[vR a1, vI (Int32.ofNat b1x), vI (Int32.ofNat (b1x + l1x)), vI na, vU] [(.int na), (.int (Int32.ofNat (b1x + l1x))), (.int (Int32.ofNat b1x))])) rfl (by rw [hml]; rfl) (argsL := [(.int (Int32.ofNat b1x)), (.int (Int32.ofNat (b1x + l1x))), (.int na)]) (rest := []) (lenOf pd_55273746 rfl) rfl (Nat.le_of_eq rfl) (hb hby d24_8) (fun _ _ => ⟨rfl, eq1, (by decide : 0 + 0 ≤ _), (by decide : 0 + 0 ≤ _)⟩)
  dsimp only [Pt.U, Pt.locs, Pt.cells, Pt.slots] at X2 l2 y2 z2 st2 hQ2
  subst l2 y2 z2
  obtain ⟨rfl, Nq2, eq2⟩ := hQ2
  refine og T2 m 11 #[vR a1, vI (Int32.ofNat b1x), vI (Int32.ofNat (b1x + l1x)), vI na, vU] [] st2 ?_
  have N2 := Fr.app N1 Nq2
  refine og T2 m 25 #[vR a1, vI (Int32.ofNat b1x), vI (Int32.ofNat (b1x + l1x)), vI na, vU] [(.int ((Int32.ofNat (b1x + l1x)) - (Int32.ofNat b1x)))] (fun tgt kgo => ?_) ?_
  · refine XS.iloadN X2.here hx rfl (hb hby d24_11) rfl ?_
    refine XS.ifYes X2.here hx rfl (pc0 := 12) (pc' := 22) rfl (hb hby d24_12) rfl ((if0 _ _).trans (feq (fun q => absurd (own_ofN (b := 0) (by omega) (by omega) q) (by omega))).2) (by decide) (by decide) ?_
    refine XS.iloadN X2.here hx rfl (hb hby d24_22) rfl ?_
    show OwnG p e below T2 m 23 #[vR a1, vI (Int32.ofNat b1x), vI (Int32.ofNat (b1x + l1x)), vI na, vU] [(.int (Int32.ofNat (b1x + l1x)))] tgt
    refine XS.iloadN X2.here hx rfl (hb hby d24_23) rfl ?_
    refine XS.isub X2.here hx rfl (hb hby d24_24) rfl ?_
    exact kgo
  refine og T2 m 25 #[vR a1, vI (Int32.ofNat b1x), vI (Int32.ofNat (b1x + l1x)), vI na, vU] [(.int (Int32.ofNat l1x))] (fun tgt kgo => castTop (by rw [(show (Int32.ofNat (b1x + l1x)) - (Int32.ofNat b1x) = (Int32.ofNat l1x) by rw [own_subN (by omega), Nat.add_sub_cancel_left])]) kgo) ?_
  refine og T2 m 28 #[vR a1, vI (Int32.ofNat b1x), vI (Int32.ofNat (b1x + l1x)), vI na, vI (Int32.ofNat l1x)] [(.ref a1)] (fun tgt kgo => ?_) ?_
  · refine XS.istore X2.here hx rfl (hb hby d24_25) rfl (l' := #[vR a1, vI (Int32.ofNat b1x), vI (Int32.ofNat (b1x + l1x)), vI na, vI (Int32.ofNat l1x)]) rfl ?_
    refine XS.aloadN X2.here hx rfl (hb hby d24_27) rfl rfl ?_
    exact kgo
  obtain ⟨cq3, kq3, q3a, q3b, q3c⟩ := isOf (s := (s.setVm s.vm)) hZ eq2 f0
  obtain ⟨_, _, ⟨T3, L3, k3, n3⟩, -, X3, ⟨Lc3, hQ3, l3, y3, z3⟩, st3⟩ := X2.virtualBack hx (y := mN4) (z := mN4) hown (mvT hZ (own_w hw 68 rfl)) (mvT hZ (own_w hw 69 rfl)) (notFace_of_selects (args := #[]) (mvT hZ (own_w hw 71 rfl))) (mvT hZ (own_w hw 71 rfl)) (mvT hZ (own_w hw 70 rfl)) (by decide) (backOf (W := 0) (rm_isl1 l Z a0 hw [] wG1 wG3 wG5 wK5 cx hEL h0 n0 X00 a1 f0 f2) hZ (own_w hw 72 rfl) (own_w hw 11 rfl) (by decide) (by decide)) q3a q3c (g := (mkF m 28 #[vR a1, vI (Int32.ofNat b1x), vI (Int32.ofNat (b1x + l1x)), vI na, vI (Int32.ofNat l1x)] [(.ref a1)])) rfl (by rw [hml]; rfl) (Steps.refl _) (argsL := []) (rest := []) (lenOf pd_15861835 rfl) rfl (Nat.le_of_eq rfl) (hb hby d24_28) (fun _ _ => ⟨rfl, eq2, (by decide : 0 + 0 ≤ _), (by decide : 0 + 0 ≤ _)⟩)
  dsimp only [Pt.U, Pt.locs, Pt.cells, Pt.slots] at X3 l3 y3 z3 st3 hQ3
  subst l3 y3 z3
  obtain ⟨rfl, Nq3, eq3⟩ := hQ3
  refine OwnGoes.tr (T' := T3) (g' := (mkF m 31 #[vR a1, vI (Int32.ofNat b1x), vI (Int32.ofNat (b1x + l1x)), vI na, vI (Int32.ofNat l1x)] [(.int 1)])) st3 ?_
  have N3 := Fr.app N2 Nq3
  refine og T3 m 35 #[vR a1, vI (Int32.ofNat b1x), vI (Int32.ofNat (b1x + l1x)), vI na, vI (Int32.ofNat l1x)] [(.ref a1)] (fun tgt kgo => ?_) ?_
  · refine XS.ifNo X3.here hx rfl (hb hby d24_31) rfl ((if0 _ _).trans (feq (by decide : ¬ ((1 : Int32) = (0 : Int32)))).1) ?_
    refine XS.aloadN X3.here hx rfl (hb hby d24_34) rfl rfl ?_
    exact kgo
  obtain ⟨T4, X4, e4, st4⟩ := getF X3 hx hZ hown (host := "") (Or.inl (own_w hw 28 rfl)) Via.refl eq3 f1 (g := (mkF m 35 #[vR a1, vI (Int32.ofNat b1x), vI (Int32.ofNat (b1x + l1x)), vI na, vI (Int32.ofNat l1x)] [(.ref a1)])) rfl rfl (hb hby d24_35)
  refine og T4 m 38 #[vR a1, vI (Int32.ofNat b1x), vI (Int32.ofNat (b1x + l1x)), vI na, vI (Int32.ofNat l1x)] [(.ref ta)] st4 ?_
  refine og T4 m 41 #[vR a1, vI (Int32.ofNat b1x), vI (Int32.ofNat (b1x + l1x)), vI na, vI (Int32.ofNat l1x)] [(.int (Int32.ofNat l1x)), (.int (Int32.ofNat b1x)), (.ref ta)] (fun tgt kgo => ?_) ?_
  · refine XS.iloadN X4.here hx rfl (hb hby d24_38) rfl ?_
    refine XS.iload X4.here hx rfl (hb hby d24_39) rfl ?_
    exact kgo
  obtain ⟨_, _, ⟨T5, L5, k5, n5⟩, -, X5, Si5, Gr5, ⟨Lc5, hQ5, l5, y5, z5, Rc5⟩, st5⟩ := callSS X4 hx (y := mN23) hown (mvT hZ (own_w hw 148 rfl)) (mvT hZ (own_w hw 149 rfl)) (mvT hZ (own_w hw 86 rfl)) (mvT hZ (own_w hw 150 rfl)) (by decide) (backOfSH (W := 0) (rm_nstr l Z a0 hw [] wG1 wG3 wG5 wK5 cx hEL h0 n0 X00 ta ka na vsa cs1 b1x l1x f3 hos hb1 hbl hc4) hZ (own_w hw 150 rfl) (own_w hw 86 rfl) (by decide) (by decide) hEL R0.1) (g := (mkF m 41 #[vR a1, vI (Int32.ofNat b1x), vI (Int32.ofNat (b1x + l1x)), vI na, vI (Int32.ofNat l1x)] [(.int (Int32.ofNat l1x)), (.int (Int32.ofNat b1x)), (.ref ta)])) rfl (by rw [hml]; rfl) (argsL := [(.ref ta), (.int (Int32.ofNat b1x)), (.int (Int32.ofNat l1x))]) (rest := []) (lenOf pd_81778060 rfl) rfl (Nat.le_of_eq rfl) (hb hby d24_41) (fun _ _ => ⟨rfl, e4, (by decide : 0 + 2 ≤ _), (by decide : 0 + 8 ≤ _)⟩)
  dsimp only [Pt.U, Pt.locs, Pt.cells, Pt.slots] at X5 l5 y5 z5 st5 hQ5 Si5 Gr5 Rc5
  subst l5 y5 z5
  obtain ⟨x_5, t_5, k_5, N_5, vs_5, rfl, Nq5, Kq5, fq5_0, fq5_1, fq5_2, fq5_3, pq5_0⟩ := hQ5
  refine OwnGoes.tr (T' := T5) (g' := (mkF m 44 #[vR a1, vI (Int32.ofNat b1x), vI (Int32.ofNat (b1x + l1x)), vI na, vI (Int32.ofNat l1x)] [(.ref x_5)])) st5 ?_
  have N5 := Fr.app N3 Nq5
  have gz5 : h0.size ≤ T5.heap.size := Rc5.2.1
  obtain ⟨X5, hS5, hZ5, ho5⟩ := rebS hS0 hk0 X5 Si5 gz5 hZ hown
  have F5_1 := f0.keep Kq5
  have F5_2 := f1.keep Kq5 nin0
  have F5_3 := f2.keep Kq5 nin0
  have F5_4 := f3.keep Kq5 nin0
  have Ol5 := X00.keep Kq5 all0
  have K5 : Keep h0 T5.heap ([] : List Addr) := K0.trans Kq5 all0
  have R5 := R0.trans Rc5
  refine og T5 m 57 #[vR a1, vI (Int32.ofNat b1x), vI (Int32.ofNat (b1x + l1x)), vI na, vI (Int32.ofNat l1x)] [(.ref x_5)] (fun tgt kgo => ?_) ?_
  · refine XS.goto X5.here hx rfl (pc0 := 44) (pc' := 57) rfl (hb hby d24_44) (by decide) (by decide) ?_
    exact kgo
  have hret : ∀ fs, (∀ (f : JFrame) (acts : List Action), f.method = m → f.locked = none → f.entered = [] → (doReturn e (T5.setTop f) acts (some (.ref x_5))).1 = T5.setFrames fs) → Steps p.tables e below (T5.setTop (mkF m 57 #[vR a1, vI (Int32.ofNat b1x), vI (Int32.ofNat (b1x + l1x)), vI na, vI (Int32.ofNat l1x)] [(.ref x_5)])) (T5.setFrames fs) := by
    intro fs hr
    jvm_step X5.here [X5.here.top, hx, (hb hby d24_57), X5.method', Bd.returns, Value.isRef, FieldType.isReference]
    first | (intro acts; rw [hr _ acts rfl rfl rfl]) | rw [hr _ _ rfl rfl rfl]
    exact Steps.refl _
  refine own_leaveW (Z := Z) (EL := consts_1) X5 hS5 (Nat.le_refl _) hlk (v := some (.ref x_5)) (fun h => by rw [Bd.returns] at h; cases h) hret (by decide) (by decide) ?_ ?_
  · rw [hh]
    exact R5.trans (CHv.at X5 hZ5 hEL R5.1)
  show Q_subs Z a1 ta ka na vsa cs1 b1x l1x h0 n0 _ T5.heap _
  exact ⟨x_5, t_5, k_5, N_5, vs_5, rfl, N5, K5, fq5_0, fq5_1, fq5_2, fq5_3, pq5_0⟩
theorem ef_abc (m : MethodId) (x0 : Addr) : entryFrame m #[(.ref x0)] 1 = mkF m 0 #[vR x0] [] := by
  first | (simp [entryFrame, mkF, argsToLocals, Value.category]; done) | rfl
def Q_abc (Z : State) (a1 : Addr) (h0 : Heap) (n0 : Nat) (v : Option Value) (h : Heap) (L : List Loc) : Prop := v = none ∧ Fr n0 L ∧ h = h0
theorem pn_18237359 : plainName "java/util/AbstractCollection" = true := by first | (simp [plainName, overriddenIn]; done) | decide +kernel
theorem d25_0 : decode jdk_22_method_1_code 0 = .ok (.aload_n 0, 1) := by decide +kernel
theorem d25_1 : decode jdk_22_method_1_code 1 = .ok (.invokespecial 1, 3) := by decide +kernel
theorem d25_4 : decode jdk_22_method_1_code 4 = .ok (.return_, 1) := by decide +kernel
set_option maxRecDepth 65536 in
set_option maxHeartbeats 40000000 in
theorem rm_abc (l : Launch) (Z : State) (a0 : Array Value) (hw : ∀ d ∈ tables_1, d.before a0 Z = true) (ws : List Jvm.Cond) (wG1 : Int32) (wG3 : Value) (wG5 : Addr) (wK5 : ClassId) (cx : OwnCx Z a0 wG1 wG3 wG5 wK5) (hEL : EW Z a0 consts_1) (h0 : Heap) (n0 : Nat) (X00 : Old Z n0 h0) (a1 : Addr) :
    MetFree l mN25 (head1 (Jvm.Cond.code mN25 jdk_22_method_1_code 1 none :: ws) (oR 1 0 0 12)) (fun a U => a = #[(.ref a1)] ∧ Z.Warmed39 U.vm ∧ U.heap = h0) (fun _ _ _ _ _ => True) (fun _ U o U' => ∃ v L, o = .returned v ∧ Q_abc Z a1 h0 n0 v U'.heap L ∧ FrameEnd U o U' L (oR 1 0 0 12).cells (oR 1 0 0 12).slots) := by
  refine MetFree.of_bodySF (plainFor_of_name pn_18237359) hisR ?_
  intro p e s m args below meth c s₁ Bd hml0 hP hK
  obtain ⟨rfl, hZ, hh⟩ := hP
  obtain ⟨wO2, wP5, wO4, wrG3, hstr, wO5, wV5⟩ := id cx
  have hx := Bd.exec
  have hby := Bd.bytes
  have hlk := Bd.notSynchronized
  have hml : c.maxLocals = 1 := hml0
  have hown : s.vm.findClass "java/util/AbstractCollection" = some m.cls := findClass_of_methodNamed Bd.named
  have hnm := (name_of_methodNamed Bd.named Bd.method).1
  have X0 : Stand p l e (oR 1 0 0 12) s m #[(.ref a1)] below meth c s₁ [] 0 0 := Stand.of_body Bd
  have e0 : s₁.heap = h0 := by rw [← hh, Bd.state]; rfl
  have N0 := Fr.nil n0
  have Z0 : n0 ≤ h0.size := X00.1 ▸ X00.2.1
  have K0 : Keep h0 h0 ([] : List Addr) := Keep.refl _ _
  show OwnGoes p e below _ s₁ (entryFrame m _ _)
  refine og s₁ m 0 #[vR a1] [] (fun tgt kgo => castTop (ef_abc m a1) kgo) ?_
  refine og s₁ m 1 #[vR a1] [(.ref a1)] (fun tgt kgo => ?_) ?_
  · refine XS.aloadN X0.here hx rfl (hb hby d25_0) rfl rfl ?_
    exact kgo
  obtain ⟨T1, X1, e1, st1⟩ := initO X0 hx hZ hown (own_w hw 52 rfl) (own_w hw 20 rfl) (own_w hw 21 rfl) e0 (g := (mkF m 1 #[vR a1] [(.ref a1)])) rfl (by rw [hml]; rfl) rfl (hb hby d25_1) (by decide) (W := 0) (Nat.le_of_eq rfl) (by decide)
  refine og T1 m 4 #[vR a1] [] st1 ?_
  refine own_leave X1 hlk (v := none) (fun _ => rfl) (fun fs hr => X1.returnOut hx Bd.returns (hb hby d25_4) hr) (by decide) (by decide) ?_
  show Q_abc Z a1 h0 n0 _ T1.heap _
  rw [e1]
  exact ⟨rfl, N0, rfl⟩
theorem ef_abl (m : MethodId) (x0 : Addr) : entryFrame m #[(.ref x0)] 1 = mkF m 0 #[vR x0] [] := by
  first | (simp [entryFrame, mkF, argsToLocals, Value.category]; done) | rfl
def Q_abl (Z : State) (a1 : Addr) (u1v : Value) (u2v : Value) (u3v : Value) (h0 : Heap) (n0 : Nat) (v : Option Value) (h : Heap) (L : List Loc) : Prop := v = none ∧ Fr n0 L ∧ Keep h0 h ([a1] : List Addr) ∧ Exa Z h a1 "java/util/ArrayList" ∧ Fld Z h a1 "java/util/AbstractList" "modCount" "I" (.int 0) ∧ Fld Z h a1 "java/util/ArrayList" "elementData" "[Ljava/lang/Object;" u2v ∧ Fld Z h a1 "java/util/ArrayList" "size" "I" u3v
theorem pn_23801202 : plainName "java/util/AbstractList" = true := by first | (simp [plainName, overriddenIn]; done) | decide +kernel
theorem d26_0 : decode jdk_39_method_1_code 0 = .ok (.aload_n 0, 1) := by decide +kernel
theorem d26_1 : decode jdk_39_method_1_code 1 = .ok (.invokespecial 1, 3) := by decide +kernel
theorem pd_57008992 : parseMethodDescriptor "()V" = some ⟨[], none⟩ := by decide +kernel
theorem d26_4 : decode jdk_39_method_1_code 4 = .ok (.aload_n 0, 1) := by decide +kernel
theorem d26_5 : decode jdk_39_method_1_code 5 = .ok (.iconst 0, 1) := by decide +kernel
theorem d26_6 : decode jdk_39_method_1_code 6 = .ok (.putfield 7, 3) := by decide +kernel
theorem d26_9 : decode jdk_39_method_1_code 9 = .ok (.return_, 1) := by decide +kernel
set_option maxRecDepth 65536 in
set_option maxHeartbeats 40000000 in
theorem rm_abl (l : Launch) (Z : State) (a0 : Array Value) (hw : ∀ d ∈ tables_1, d.before a0 Z = true) (ws : List Jvm.Cond) (wG1 : Int32) (wG3 : Value) (wG5 : Addr) (wK5 : ClassId) (cx : OwnCx Z a0 wG1 wG3 wG5 wK5) (hEL : EW Z a0 consts_1) (h0 : Heap) (n0 : Nat) (X00 : Old Z n0 h0) (a1 : Addr) (u1v : Value) (u2v : Value) (u3v : Value) (f0 : Exa Z h0 a1 "java/util/ArrayList") (f1 : Fld Z h0 a1 "java/util/AbstractList" "modCount" "I" u1v) (f2 : n0 ≤ a1) (f3 : Fld Z h0 a1 "java/util/ArrayList" "elementData" "[Ljava/lang/Object;" u2v) (f4 : Fld Z h0 a1 "java/util/ArrayList" "size" "I" u3v) :
    MetFree l mN26 (head1 (Jvm.Cond.code mN26 jdk_39_method_1_code 1 none :: ws) (oR 2 0 0 24)) (fun a U => a = #[(.ref a1)] ∧ Z.Warmed39 U.vm ∧ U.heap = h0) (fun _ _ _ _ _ => True) (fun _ U o U' => ∃ v L, o = .returned v ∧ Q_abl Z a1 u1v u2v u3v h0 n0 v U'.heap L ∧ FrameEnd U o U' L (oR 2 0 0 24).cells (oR 2 0 0 24).slots) := by
  refine MetFree.of_bodySF (plainFor_of_name pn_23801202) hisR ?_
  intro p e s m args below meth c s₁ Bd hml0 hP hK
  obtain ⟨rfl, hZ, hh⟩ := hP
  obtain ⟨wO2, wP5, wO4, wrG3, hstr, wO5, wV5⟩ := id cx
  have hx := Bd.exec
  have hby := Bd.bytes
  have hlk := Bd.notSynchronized
  have hml : c.maxLocals = 1 := hml0
  have hown : s.vm.findClass "java/util/AbstractList" = some m.cls := findClass_of_methodNamed Bd.named
  have hnm := (name_of_methodNamed Bd.named Bd.method).1
  have X0 : Stand p l e (oR 2 0 0 24) s m #[(.ref a1)] below meth c s₁ [] 0 0 := Stand.of_body Bd
  have e0 : s₁.heap = h0 := by rw [← hh, Bd.state]; rfl
  have N0 := Fr.nil n0
  have Z0 : n0 ≤ h0.size := X00.1 ▸ X00.2.1
  have K0 : Keep h0 h0 ([a1] : List Addr) := Keep.refl _ _
  show OwnGoes p e below _ s₁ (entryFrame m _ _)
  refine og s₁ m 0 #[vR a1] [] (fun tgt kgo => castTop (ef_abl m a1) kgo) ?_
  refine og s₁ m 1 #[vR a1] [(.ref a1)] (fun tgt kgo => ?_) ?_
  · refine XS.aloadN X0.here hx rfl (hb hby d26_0) rfl rfl ?_
    exact kgo
  obtain ⟨_, _, ⟨T1, L1, k1, n1⟩, -, X1, ⟨Lc1, hQ1, l1, y1, z1⟩, st1⟩ := X0.specialBack hx (y := mN25) rfl hown (mvT hZ (own_w hw 46 rfl)) (mvT hZ (own_w hw 47 rfl)) (mvT hZ (own_w hw 51 rfl)) (by decide) (backOf (W := 0) (rm_abc l Z a0 hw [] wG1 wG3 wG5 wK5 cx hEL h0 n0 X00 a1) hZ (own_w hw 51 rfl) (own_w hw 50 rfl) (by decide) (by decide)) (g := (mkF m 1 #[vR a1] [(.ref a1)])) rfl (by rw [hml]; rfl) (Steps.refl _) (a := a1) (argsL := []) (rest := []) (lenOf pd_57008992 rfl) rfl (Nat.le_of_eq rfl) (hb hby d26_1) (fun _ _ => ⟨rfl, e0, (by decide : 0 + 0 ≤ _), (by decide : 0 + 0 ≤ _)⟩)
  dsimp only [Pt.U, Pt.locs, Pt.cells, Pt.slots] at X1 l1 y1 z1 st1 hQ1
  subst l1 y1 z1
  obtain ⟨rfl, Nq1, eq1⟩ := hQ1
  refine OwnGoes.tr (T' := T1) (g' := (mkF m 4 #[vR a1] [])) st1 ?_
  have N1 := Fr.app N0 Nq1
  refine og T1 m 6 #[vR a1] [(.int 0), (.ref a1)] (fun tgt kgo => ?_) ?_
  · refine XS.aloadN X1.here hx rfl (hb hby d26_4) rfl rfl ?_
    refine XS.iconst X1.here hx rfl (hb hby d26_5) ?_
    exact kgo
  obtain ⟨T2, h2, X2, e2, W2, st2⟩ := putF X1 hx hZ hown (host := "") (Or.inl (own_w hw 53 rfl)) Via.refl eq1 f1 f0 (Or.inl (own_w hw 54 rfl)) (own_w hw 35 rfl) (ty := .int) (by decide) rfl rfl (g := (mkF m 6 #[vR a1] [(.int 0), (.ref a1)])) rfl rfl (hb hby d26_6)
  refine og T2 m 9 #[vR a1] [] st2 ?_
  have Fw2 := f1.same W2
  have F2_1 := f0.wr W2
  have F2_2 := f3.other W2 (Or.inr (slot_ne (Or.inl (own_w hw 57 rfl)) (Or.inl (own_w hw 54 rfl)) (by decide) (t := (.array (.object "java/lang/Object"))) (t' := .int) (by decide) (by decide)))
  have F2_3 := f4.other W2 (Or.inr (slot_ne (Or.inl (own_w hw 108 rfl)) (Or.inl (own_w hw 54 rfl)) (by decide) (t := .int) (t' := .int) (by decide) (by decide)))
  have Ol2 := X00.wr W2 f2
  have K2 : Keep h0 h2 ([a1] : List Addr) := K0.wr W2 (Or.inl (List.mem_of_getElem? (i := 0) rfl))
  have N2 := Fr.snoc X2 N1 f2
  refine own_leave X2 hlk (v := none) (fun _ => rfl) (fun fs hr => X2.returnOut hx Bd.returns (hb hby d26_9) hr) (by decide) (by decide) ?_
  show Q_abl Z a1 u1v u2v u3v h0 n0 _ T2.heap _
  rw [e2]
  exact ⟨rfl, N2, K2, F2_1, Fw2, F2_2, F2_3⟩
theorem ef_ali (m : MethodId) (x0 : Addr) : entryFrame m #[(.ref x0)] 1 = mkF m 0 #[vR x0] [] := by
  first | (simp [entryFrame, mkF, argsToLocals, Value.category]; done) | rfl
def Q_ali (Z : State) (wG5 : Addr) (a1 : Addr) (u1v : Value) (u2v : Value) (h0 : Heap) (n0 : Nat) (v : Option Value) (h : Heap) (L : List Loc) : Prop := v = none ∧ Fr n0 L ∧ Keep h0 h ([a1] : List Addr) ∧ Exa Z h a1 "java/util/ArrayList" ∧ Fld Z h a1 "java/util/AbstractList" "modCount" "I" (.int 0) ∧ Fld Z h a1 "java/util/ArrayList" "elementData" "[Ljava/lang/Object;" (.ref wG5) ∧ Fld Z h a1 "java/util/ArrayList" "size" "I" (.int 0)
theorem pn_13458729 : plainName "java/util/ArrayList" = true := by first | (simp [plainName, overriddenIn]; done) | decide +kernel
theorem d27_0 : decode jdk_38_method_2_code 0 = .ok (.aload_n 0, 1) := by decide +kernel
theorem d27_1 : decode jdk_38_method_2_code 1 = .ok (.invokespecial 1, 3) := by decide +kernel
theorem d27_4 : decode jdk_38_method_2_code 4 = .ok (.aload_n 0, 1) := by decide +kernel
theorem d27_5 : decode jdk_38_method_2_code 5 = .ok (.getstatic 39, 3) := by decide +kernel
theorem d27_8 : decode jdk_38_method_2_code 8 = .ok (.putfield 9, 3) := by decide +kernel
theorem d27_11 : decode jdk_38_method_2_code 11 = .ok (.return_, 1) := by decide +kernel
set_option maxRecDepth 65536 in
set_option maxHeartbeats 40000000 in
theorem rm_ali (l : Launch) (Z : State) (a0 : Array Value) (hw : ∀ d ∈ tables_1, d.before a0 Z = true) (ws : List Jvm.Cond) (wG1 : Int32) (wG3 : Value) (wG5 : Addr) (wK5 : ClassId) (cx : OwnCx Z a0 wG1 wG3 wG5 wK5) (hEL : EW Z a0 consts_1) (h0 : Heap) (n0 : Nat) (X00 : Old Z n0 h0) (a1 : Addr) (u1v : Value) (u2v : Value) (f0 : Exa Z h0 a1 "java/util/ArrayList") (f1 : Fld Z h0 a1 "java/util/AbstractList" "modCount" "I" u1v) (f2 : Fld Z h0 a1 "java/util/ArrayList" "elementData" "[Ljava/lang/Object;" u2v) (f3 : Fld Z h0 a1 "java/util/ArrayList" "size" "I" (.int 0)) (f4 : n0 ≤ a1) :
    MetFree l mN27 (head1 (Jvm.Cond.code mN27 jdk_38_method_2_code 1 none :: ws) (oR 3 0 0 36)) (fun a U => a = #[(.ref a1)] ∧ Z.Warmed39 U.vm ∧ U.heap = h0) (fun _ _ _ _ _ => True) (fun _ U o U' => ∃ v L, o = .returned v ∧ Q_ali Z wG5 a1 u1v u2v h0 n0 v U'.heap L ∧ FrameEnd U o U' L (oR 3 0 0 36).cells (oR 3 0 0 36).slots) := by
  refine MetFree.of_bodySF (plainFor_of_name pn_13458729) hisR ?_
  intro p e s m args below meth c s₁ Bd hml0 hP hK
  obtain ⟨rfl, hZ, hh⟩ := hP
  obtain ⟨wO2, wP5, wO4, wrG3, hstr, wO5, wV5⟩ := id cx
  have hx := Bd.exec
  have hby := Bd.bytes
  have hlk := Bd.notSynchronized
  have hml : c.maxLocals = 1 := hml0
  have hown : s.vm.findClass "java/util/ArrayList" = some m.cls := findClass_of_methodNamed Bd.named
  have hnm := (name_of_methodNamed Bd.named Bd.method).1
  have X0 : Stand p l e (oR 3 0 0 36) s m #[(.ref a1)] below meth c s₁ [] 0 0 := Stand.of_body Bd
  have e0 : s₁.heap = h0 := by rw [← hh, Bd.state]; rfl
  have N0 := Fr.nil n0
  have Z0 : n0 ≤ h0.size := X00.1 ▸ X00.2.1
  have K0 : Keep h0 h0 ([a1] : List Addr) := Keep.refl _ _
  show OwnGoes p e below _ s₁ (entryFrame m _ _)
  refine og s₁ m 0 #[vR a1] [] (fun tgt kgo => castTop (ef_ali m a1) kgo) ?_
  refine og s₁ m 1 #[vR a1] [(.ref a1)] (fun tgt kgo => ?_) ?_
  · refine XS.aloadN X0.here hx rfl (hb hby d27_0) rfl rfl ?_
    exact kgo
  obtain ⟨_, _, ⟨T1, L1, k1, n1⟩, -, X1, ⟨Lc1, hQ1, l1, y1, z1⟩, st1⟩ := X0.specialBack hx (y := mN26) rfl hown (mvT hZ (own_w hw 40 rfl)) (mvT hZ (own_w hw 41 rfl)) (mvT hZ (own_w hw 45 rfl)) (by decide) (backOf (W := 0) (rm_abl l Z a0 hw [] wG1 wG3 wG5 wK5 cx hEL h0 n0 X00 a1 u1v u2v (.int 0) f0 f1 f4 f2 f3) hZ (own_w hw 45 rfl) (own_w hw 44 rfl) (by decide) (by decide)) (g := (mkF m 1 #[vR a1] [(.ref a1)])) rfl (by rw [hml]; rfl) (Steps.refl _) (a := a1) (argsL := []) (rest := []) (lenOf pd_57008992 rfl) rfl (Nat.le_of_eq rfl) (hb hby d27_1) (fun _ _ => ⟨rfl, e0, (by decide : 0 + 0 ≤ _), (by decide : 0 + 0 ≤ _)⟩)
  dsimp only [Pt.U, Pt.locs, Pt.cells, Pt.slots] at X1 l1 y1 z1 st1 hQ1
  subst l1 y1 z1
  obtain ⟨rfl, Nq1, Kq1, fq1_0, fq1_1, fq1_2, fq1_3⟩ := hQ1
  refine OwnGoes.tr (T' := T1) (g' := (mkF m 4 #[vR a1] [])) st1 ?_
  have N1 := Fr.app N0 Nq1
  have F1_1 := f0.keep Kq1
  have Ol1 := X00.keep Kq1 (allS f4 all0)
  have K1 : Keep h0 T1.heap ([a1] : List Addr) := K0.trans Kq1 (allS (Or.inl (List.mem_of_getElem? (i := 0) rfl)) all0)
  refine og T1 m 5 #[vR a1] [(.ref a1)] (fun tgt kgo => ?_) ?_
  · refine XS.aloadN X1.here hx rfl (hb hby d27_4) rfl rfl ?_
    exact kgo
  obtain ⟨T2, X2, e2, st2⟩ := getS2 X1 hx hZ hown (host := "") (Or.inl (own_w hw 55 rfl)) Via.refl rfl (wO5.ext Ol1.2) (g := (mkF m 5 #[vR a1] [(.ref a1)])) rfl (hb hby d27_5)
  refine og T2 m 8 #[vR a1] [(.ref wG5), (.ref a1)] st2 ?_
  obtain ⟨T3, h3, X3, e3, W3, st3⟩ := putF X2 hx hZ hown (host := "") (Or.inl (own_w hw 56 rfl)) Via.refl e2 fq1_2 fq1_0 (Or.inl (own_w hw 57 rfl)) (own_w hw 35 rfl) (ty := (.array (.object "java/lang/Object"))) (by decide) rfl rfl (g := (mkF m 8 #[vR a1] [(.ref wG5), (.ref a1)])) rfl rfl (hb hby d27_8)
  refine og T3 m 11 #[vR a1] [] st3 ?_
  have Fw3 := fq1_2.same W3
  have F3_2 := fq1_0.wr W3
  have F3_3 := fq1_1.other W3 (Or.inr (slot_ne (Or.inl (own_w hw 54 rfl)) (Or.inl (own_w hw 57 rfl)) (by decide) (t := .int) (t' := (.array (.object "java/lang/Object"))) (by decide) (by decide)))
  have F3_4 := fq1_3.other W3 (Or.inr (slot_ne (Or.inl (own_w hw 108 rfl)) (Or.inl (own_w hw 57 rfl)) (by decide) (t := .int) (t' := (.array (.object "java/lang/Object"))) (by decide) (by decide)))
  have Ol3 := Ol1.wr W3 f4
  have K3 : Keep h0 h3 ([a1] : List Addr) := K1.wr W3 (Or.inl (List.mem_of_getElem? (i := 0) rfl))
  have N3 := Fr.snoc X3 N1 f4
  refine own_leave X3 hlk (v := none) (fun _ => rfl) (fun fs hr => X3.returnOut hx Bd.returns (hb hby d27_11) hr) (by decide) (by decide) ?_
  show Q_ali Z wG5 a1 u1v u2v h0 n0 _ T3.heap _
  rw [e3]
  exact ⟨rfl, N3, K3, F3_2, F3_3, Fw3, F3_4⟩
theorem ef_grow1 (m : MethodId) (x0 : Addr) : entryFrame m #[(.ref x0), (.int 1)] 4 = mkF m 0 #[vR x0, vI 1, vU, vU] [] := by
  first | (simp [entryFrame, mkF, argsToLocals, Value.category]; done) | rfl
def Q_grow1 (Z : State) (a1 : Addr) (m1x : Int32) (h0 : Heap) (n0 : Nat) (v : Option Value) (h : Heap) (L : List Loc) : Prop := ∃ (b : Addr), ∃ (kb : ClassId), v = some (.ref b) ∧ Fr n0 L ∧ Keep h0 h ([a1] : List Addr) ∧ h0.size ≤ b ∧ Exa Z h a1 "java/util/ArrayList" ∧ Fld Z h a1 "java/util/AbstractList" "modCount" "I" (.int m1x) ∧ Fld Z h a1 "java/util/ArrayList" "elementData" "[Ljava/lang/Object;" (.ref b) ∧ Fld Z h a1 "java/util/ArrayList" "size" "I" (.int 0) ∧ Arv Z h b kb (.object "java/lang/Object") (10 : Int32) [.null, .null, .null, .null, .null, .null, .null, .null, .null, .null] .null ∧ (Ovr Z kb "java/lang/Object")
theorem d28_0 : decode jdk_38_method_6_code 0 = .ok (.aload_n 0, 1) := by decide +kernel
theorem d28_1 : decode jdk_38_method_6_code 1 = .ok (.getfield 9, 3) := by decide +kernel
theorem d28_4 : decode jdk_38_method_6_code 4 = .ok (.arraylength, 1) := by decide +kernel
theorem d28_5 : decode jdk_38_method_6_code 5 = .ok (.istore_n 2, 1) := by decide +kernel
theorem d28_6 : decode jdk_38_method_6_code 6 = .ok (.iload_n 2, 1) := by decide +kernel
theorem d28_7 : decode jdk_38_method_6_code 7 = .ok (.ifCond .gt 13, 3) := by decide +kernel
theorem d28_10 : decode jdk_38_method_6_code 10 = .ok (.aload_n 0, 1) := by decide +kernel
theorem d28_11 : decode jdk_38_method_6_code 11 = .ok (.getfield 9, 3) := by decide +kernel
theorem d28_14 : decode jdk_38_method_6_code 14 = .ok (.getstatic 39, 3) := by decide +kernel
theorem d28_17 : decode jdk_38_method_6_code 17 = .ok (.if_acmp .eq 28, 3) := by decide +kernel
theorem d28_45 : decode jdk_38_method_6_code 45 = .ok (.aload_n 0, 1) := by decide +kernel
theorem d28_46 : decode jdk_38_method_6_code 46 = .ok (.bipush 10, 2) := by decide +kernel
theorem d28_48 : decode jdk_38_method_6_code 48 = .ok (.iload_n 1, 1) := by decide +kernel
theorem d28_49 : decode jdk_38_method_6_code 49 = .ok (.invokestatic 79, 3) := by decide +kernel
theorem d28_52 : decode jdk_38_method_6_code 52 = .ok (.anewarray 7, 3) := by decide +kernel
theorem d28_55 : decode jdk_38_method_6_code 55 = .ok (.dup_x1, 1) := by decide +kernel
theorem d28_56 : decode jdk_38_method_6_code 56 = .ok (.putfield 9, 3) := by decide +kernel
theorem d28_59 : decode jdk_38_method_6_code 59 = .ok (.areturn, 1) := by decide +kernel
set_option maxRecDepth 65536 in
set_option maxHeartbeats 40000000 in
theorem rm_grow1 (l : Launch) (Z : State) (a0 : Array Value) (hw : ∀ d ∈ tables_1, d.before a0 Z = true) (ws : List Jvm.Cond) (wG1 : Int32) (wG3 : Value) (wG5 : Addr) (wK5 : ClassId) (cx : OwnCx Z a0 wG1 wG3 wG5 wK5) (hEL : EW Z a0 consts_1) (h0 : Heap) (n0 : Nat) (X00 : Old Z n0 h0) (a1 : Addr) (m1x : Int32) (f0 : Exa Z h0 a1 "java/util/ArrayList") (f1 : Fld Z h0 a1 "java/util/AbstractList" "modCount" "I" (.int m1x)) (f2 : Fld Z h0 a1 "java/util/ArrayList" "elementData" "[Ljava/lang/Object;" (.ref wG5)) (f3 : Fld Z h0 a1 "java/util/ArrayList" "size" "I" (.int 0)) (f4 : n0 ≤ a1) :
    MetFree l mN28 (head1 (Jvm.Cond.code mN28 jdk_38_method_6_code 4 (some (.array (.object "java/lang/Object"))) :: ws) (oR 1 1 10 14)) (fun a U => a = #[(.ref a1), (.int 1)] ∧ Z.Warmed39 U.vm ∧ U.heap = h0) (fun _ _ _ _ _ => True) (fun _ U o U' => ∃ v L, o = .returned v ∧ Q_grow1 Z a1 m1x h0 n0 v U'.heap L ∧ FrameEnd U o U' L (oR 1 1 10 14).cells (oR 1 1 10 14).slots) := by
  refine MetFree.of_bodySF (plainFor_of_name pn_13458729) hisR ?_
  intro p e s m args below meth c s₁ Bd hml0 hP hK
  obtain ⟨rfl, hZ, hh⟩ := hP
  obtain ⟨wO2, wP5, wO4, wrG3, hstr, wO5, wV5⟩ := id cx
  have hx := Bd.exec
  have hby := Bd.bytes
  have hlk := Bd.notSynchronized
  have hml : c.maxLocals = 4 := hml0
  have hown : s.vm.findClass "java/util/ArrayList" = some m.cls := findClass_of_methodNamed Bd.named
  have hnm := (name_of_methodNamed Bd.named Bd.method).1
  have X0 : Stand p l e (oR 1 1 10 14) s m #[(.ref a1), (.int 1)] below meth c s₁ [] 0 0 := Stand.of_body Bd
  have e0 : s₁.heap = h0 := by rw [← hh, Bd.state]; rfl
  have N0 := Fr.nil n0
  have Z0 : n0 ≤ h0.size := X00.1 ▸ X00.2.1
  have K0 : Keep h0 h0 ([a1] : List Addr) := Keep.refl _ _
  have fg_wG5_0 := wV5.ext X00.2
  have lt_wG5 : wG5 < n0 := X00.1 ▸ wV5.lt
  show OwnGoes p e below _ s₁ (entryFrame m _ _)
  refine og s₁ m 0 #[vR a1, vI 1, vU, vU] [] (fun tgt kgo => castTop (ef_grow1 m a1) kgo) ?_
  refine og s₁ m 1 #[vR a1, vI 1, vU, vU] [(.ref a1)] (fun tgt kgo => ?_) ?_
  · refine XS.aloadN X0.here hx rfl (hb hby d28_0) rfl rfl ?_
    exact kgo
  obtain ⟨T1, X1, e1, st1⟩ := getF X0 hx hZ hown (host := "") (Or.inl (own_w hw 56 rfl)) Via.refl e0 f2 (g := (mkF m 1 #[vR a1, vI 1, vU, vU] [(.ref a1)])) rfl rfl (hb hby d28_1)
  refine og T1 m 4 #[vR a1, vI 1, vU, vU] [(.ref wG5)] st1 ?_
  refine og T1 m 11 #[vR a1, vI 1, vI 0, vU] [(.ref a1)] (fun tgt kgo => ?_) ?_
  · obtain ⟨cl2, Ar2, q2, S2, M2, -, -⟩ := fg_wG5_0
    refine X1.arraylength hx (by rw [e1]; exact Ar2.1) (State.isArrayOf_alike hZ.alike Ar2.2.1) (g := (mkF m 4 #[vR a1, vI 1, vU, vU] [(.ref wG5)])) rfl rfl (hb hby d28_4) _ ?_
    rw [len_of S2 M2]
    refine XS.istoreN X1.here hx rfl (hb hby d28_5) rfl (l' := #[vR a1, vI 1, vI 0, vU]) rfl ?_
    refine XS.iloadN X1.here hx rfl (hb hby d28_6) rfl ?_
    show OwnG p e below T1 m 7 #[vR a1, vI 1, vI 0, vU] [(.int 0)] tgt
    refine XS.ifNo X1.here hx rfl (hb hby d28_7) rfl ((if0 _ _).trans (flt (by decide : ¬ ((0 : Int32) < (0 : Int32)))).2.2.1) ?_
    refine XS.aloadN X1.here hx rfl (hb hby d28_10) rfl rfl ?_
    exact kgo
  obtain ⟨T3, X3, e3, st3⟩ := getF X1 hx hZ hown (host := "") (Or.inl (own_w hw 56 rfl)) Via.refl e1 f2 (g := (mkF m 11 #[vR a1, vI 1, vI 0, vU] [(.ref a1)])) rfl rfl (hb hby d28_11)
  refine og T3 m 14 #[vR a1, vI 1, vI 0, vU] [(.ref wG5)] st3 ?_
  obtain ⟨T4, X4, e4, st4⟩ := getS2 X3 hx hZ hown (host := "") (Or.inl (own_w hw 55 rfl)) Via.refl e3 (wO5.ext X00.2) (g := (mkF m 14 #[vR a1, vI 1, vI 0, vU] [(.ref wG5)])) rfl (hb hby d28_14)
  refine og T4 m 17 #[vR a1, vI 1, vI 0, vU] [(.ref wG5), (.ref wG5)] st4 ?_
  refine og T4 m 49 #[vR a1, vI 1, vI 0, vU] [(.int 1), (.int 10), (.ref a1)] (fun tgt kgo => ?_) ?_
  · refine Jvm.RoadKit.acmp (g := (mkF m 17 #[vR a1, vI 1, vI 0, vU] [(.ref wG5), (.ref wG5)])) X4 hx rfl rfl rfl (pc0 := 17) (pc' := 45) (same := true) rfl (hb hby d28_17) rfl (decide_eq_true rfl) (by decide) (by decide) ?_
    refine XS.aloadN X4.here hx rfl (hb hby d28_45) rfl rfl ?_
    refine XS.bipush X4.here hx rfl (hb hby d28_46) ?_
    show OwnG p e below T4 m 48 #[vR a1, vI 1, vI 0, vU] [(.int 10), (.ref a1)] tgt
    refine XS.iloadN X4.here hx rfl (hb hby d28_48) rfl ?_
    exact kgo
  obtain ⟨_, _, ⟨T5, L5, k5, n5⟩, -, X5, ⟨Lc5, hQ5, l5, y5, z5⟩, st5⟩ := Jvm.LawKit.callS X4 hx (y := mN11) hown (mvT hZ (own_w hw 195 rfl)) (mvT hZ (own_w hw 92 rfl)) (mvT hZ (own_w hw 93 rfl)) (mvT hZ (own_w hw 94 rfl)) (by decide) (backOf (W := 1) (rm_max10 l Z a0 hw [] wG1 wG3 wG5 wK5 cx hEL h0 n0 X00 ) hZ (own_w hw 94 rfl) (own_w hw 93 rfl) (by decide) (by decide)) (g := (mkF m 49 #[vR a1, vI 1, vI 0, vU] [(.int 1), (.int 10), (.ref a1)])) rfl (by rw [hml]; rfl) (argsL := [(.int 10), (.int 1)]) (rest := [(.ref a1)]) (lenOf pd_50523903 rfl) rfl (Nat.le_of_eq rfl) (hb hby d28_49) (fun _ _ => ⟨rfl, e4, (by decide : 0 + 0 ≤ _), (by decide : 0 + 0 ≤ _)⟩)
  dsimp only [Pt.U, Pt.locs, Pt.cells, Pt.slots] at X5 l5 y5 z5 st5 hQ5
  subst l5 y5 z5
  obtain ⟨rfl, Nq5, eq5⟩ := hQ5
  refine og T5 m 52 #[vR a1, vI 1, vI 0, vU] [(.int 10), (.ref a1)] st5 ?_
  have N5 := Fr.app N0 Nq5
  obtain ⟨T6, h6, k6, X6, e6, E6, A6, Ov6, st6⟩ := newR X5 hx hZ hown (own_w hw 196 rfl) (own_w hw 197 rfl) eq5 (g := (mkF m 52 #[vR a1, vI 1, vI 0, vU] [(.int 10), (.ref a1)])) rfl (hb hby d28_52) rfl (by decide) (cap := 10) (by decide) (by decide) (by decide) (by decide)
  obtain ⟨b6, g6⟩ : ∃ z, z = h0.size := ⟨_, rfl⟩
  rw [← g6] at A6 st6
  refine og T6 m 55 #[vR a1, vI 1, vI 0, vU] [(.ref b6), (.ref a1)] st6 ?_
  have V6 : Arv Z h6 b6 k6 (.object "java/lang/Object") (10 : Int32) [.null, .null, .null, .null, .null, .null, .null, .null, .null, .null] .null := (Arv.new A6 (by decide)).pad (pad_rep [] .null 10)
  have ne_a1_b6 : a1 ≠ b6 := Nat.ne_of_lt (Nat.lt_of_lt_of_le f0.lt (Nat.le_of_eq g6.symm))
  have ne_wG5_b6 : wG5 ≠ b6 := Nat.ne_of_lt (Nat.lt_of_lt_of_le fg_wG5_0.lt (Nat.le_of_eq g6.symm))
  have g_b6 : n0 ≤ b6 := Nat.le_trans (Nat.le_trans Z0 K0.1) (Nat.le_of_eq g6.symm)
  have s_b6 : h0.size ≤ b6 := Nat.le_trans K0.1 (Nat.le_of_eq g6.symm)
  have F6_1 := f0.ext E6
  have F6_2 := f1.ext E6
  have F6_3 := f2.ext E6
  have F6_4 := f3.ext E6
  have F6_5 := fg_wG5_0.ext E6
  have Ol6 := X00.ext E6
  have K6 : Keep h0 h6 ([a1] : List Addr) := K0.ext E6
  refine og T6 m 56 #[vR a1, vI 1, vI 0, vU] [(.ref b6), (.ref a1), (.ref b6)] (fun tgt kgo => ?_) ?_
  · refine XS.dupX1 X6.here hx rfl (hb hby d28_55) rfl rfl rfl ?_
    exact kgo
  obtain ⟨T7, h7, X7, e7, W7, st7⟩ := putF X6 hx hZ hown (host := "") (Or.inl (own_w hw 56 rfl)) Via.refl e6 F6_3 F6_1 (Or.inl (own_w hw 57 rfl)) (own_w hw 35 rfl) (ty := (.array (.object "java/lang/Object"))) (by decide) rfl rfl (g := (mkF m 56 #[vR a1, vI 1, vI 0, vU] [(.ref b6), (.ref a1), (.ref b6)])) rfl rfl (hb hby d28_56)
  refine og T7 m 59 #[vR a1, vI 1, vI 0, vU] [(.ref b6)] st7 ?_
  have Fw7 := F6_3.same W7
  have F7_6 := F6_1.wr W7
  have F7_7 := F6_2.other W7 (Or.inr (slot_ne (Or.inl (own_w hw 54 rfl)) (Or.inl (own_w hw 57 rfl)) (by decide) (t := .int) (t' := (.array (.object "java/lang/Object"))) (by decide) (by decide)))
  have F7_8 := F6_4.other W7 (Or.inr (slot_ne (Or.inl (own_w hw 108 rfl)) (Or.inl (own_w hw 57 rfl)) (by decide) (t := .int) (t' := (.array (.object "java/lang/Object"))) (by decide) (by decide)))
  have F7_9 := F6_5.other W7 (Ne.symm (Exa.neArv F6_1 F6_5 (own_w hw 35 rfl)))
  have F7_10 := V6.other W7 (Ne.symm ne_a1_b6)
  have Ol7 := Ol6.wr W7 f4
  have K7 : Keep h0 h7 ([a1] : List Addr) := K6.wr W7 (Or.inl (List.mem_of_getElem? (i := 0) rfl))
  have N7 := Fr.snoc X7 N5 f4
  have hret : ∀ fs, (∀ (f : JFrame) (acts : List Action), f.method = m → f.locked = none → f.entered = [] → (doReturn e (T7.setTop f) acts (some (.ref b6))).1 = T7.setFrames fs) → Steps p.tables e below (T7.setTop (mkF m 59 #[vR a1, vI 1, vI 0, vU] [(.ref b6)])) (T7.setFrames fs) := by
    intro fs hr
    jvm_step X7.here [X7.here.top, hx, (hb hby d28_59), X7.method', Bd.returns, Value.isRef, FieldType.isReference]
    first | (intro acts; rw [hr _ acts rfl rfl rfl]) | rw [hr _ _ rfl rfl rfl]
    exact Steps.refl _
  refine own_leave X7 hlk (v := some (.ref b6)) (fun h => by rw [Bd.returns] at h; cases h) hret (by decide) (by decide) ?_
  show Q_grow1 Z a1 m1x h0 n0 _ T7.heap _
  rw [e7]
  exact ⟨b6, k6, rfl, N7, K7, s_b6, F7_6, F7_7, Fw7, F7_8, F7_10, Ov6⟩
theorem ef_grow0 (m : MethodId) (x0 : Addr) : entryFrame m #[(.ref x0)] 1 = mkF m 0 #[vR x0] [] := by
  first | (simp [entryFrame, mkF, argsToLocals, Value.category]; done) | rfl
def Q_grow0 (Z : State) (a1 : Addr) (m1x : Int32) (h0 : Heap) (n0 : Nat) (v : Option Value) (h : Heap) (L : List Loc) : Prop := ∃ (b : Addr), ∃ (kb : ClassId), v = some (.ref b) ∧ Fr n0 L ∧ Keep h0 h ([a1] : List Addr) ∧ h0.size ≤ b ∧ Exa Z h a1 "java/util/ArrayList" ∧ Fld Z h a1 "java/util/AbstractList" "modCount" "I" (.int m1x) ∧ Fld Z h a1 "java/util/ArrayList" "elementData" "[Ljava/lang/Object;" (.ref b) ∧ Fld Z h a1 "java/util/ArrayList" "size" "I" (.int 0) ∧ Arv Z h b kb (.object "java/lang/Object") (10 : Int32) [.null, .null, .null, .null, .null, .null, .null, .null, .null, .null] .null ∧ (Ovr Z kb "java/lang/Object")
theorem d29_0 : decode jdk_38_method_7_code 0 = .ok (.aload_n 0, 1) := by decide +kernel
theorem d29_1 : decode jdk_38_method_7_code 1 = .ok (.aload_n 0, 1) := by decide +kernel
theorem d29_2 : decode jdk_38_method_7_code 2 = .ok (.getfield 48, 3) := by decide +kernel
theorem d29_5 : decode jdk_38_method_7_code 5 = .ok (.iconst 1, 1) := by decide +kernel
theorem d29_6 : decode jdk_38_method_7_code 6 = .ok (.iadd, 1) := by decide +kernel
theorem d29_7 : decode jdk_38_method_7_code 7 = .ok (.invokevirtual 69, 3) := by decide +kernel
theorem pd_18615735 : parseMethodDescriptor "(I)[Ljava/lang/Object;" = some ⟨[.int], some (.array (.object "java/lang/Object"))⟩ := by decide +kernel
theorem d29_10 : decode jdk_38_method_7_code 10 = .ok (.areturn, 1) := by decide +kernel
set_option maxRecDepth 65536 in
set_option maxHeartbeats 40000000 in
theorem rm_grow0 (l : Launch) (Z : State) (a0 : Array Value) (hw : ∀ d ∈ tables_1, d.before a0 Z = true) (ws : List Jvm.Cond) (wG1 : Int32) (wG3 : Value) (wG5 : Addr) (wK5 : ClassId) (cx : OwnCx Z a0 wG1 wG3 wG5 wK5) (hEL : EW Z a0 consts_1) (h0 : Heap) (n0 : Nat) (X00 : Old Z n0 h0) (a1 : Addr) (m1x : Int32) (f0 : Exa Z h0 a1 "java/util/ArrayList") (f1 : Fld Z h0 a1 "java/util/AbstractList" "modCount" "I" (.int m1x)) (f2 : Fld Z h0 a1 "java/util/ArrayList" "elementData" "[Ljava/lang/Object;" (.ref wG5)) (f3 : Fld Z h0 a1 "java/util/ArrayList" "size" "I" (.int 0)) (f4 : n0 ≤ a1) :
    MetFree l mN29 (head1 (Jvm.Cond.code mN29 jdk_38_method_7_code 1 (some (.array (.object "java/lang/Object"))) :: ws) (oR 2 1 10 29)) (fun a U => a = #[(.ref a1)] ∧ Z.Warmed39 U.vm ∧ U.heap = h0) (fun _ _ _ _ _ => True) (fun _ U o U' => ∃ v L, o = .returned v ∧ Q_grow0 Z a1 m1x h0 n0 v U'.heap L ∧ FrameEnd U o U' L (oR 2 1 10 29).cells (oR 2 1 10 29).slots) := by
  refine MetFree.of_bodySF (plainFor_of_name pn_13458729) hisR ?_
  intro p e s m args below meth c s₁ Bd hml0 hP hK
  obtain ⟨rfl, hZ, hh⟩ := hP
  obtain ⟨wO2, wP5, wO4, wrG3, hstr, wO5, wV5⟩ := id cx
  have hx := Bd.exec
  have hby := Bd.bytes
  have hlk := Bd.notSynchronized
  have hml : c.maxLocals = 1 := hml0
  have hown : s.vm.findClass "java/util/ArrayList" = some m.cls := findClass_of_methodNamed Bd.named
  have hnm := (name_of_methodNamed Bd.named Bd.method).1
  have X0 : Stand p l e (oR 2 1 10 29) s m #[(.ref a1)] below meth c s₁ [] 0 0 := Stand.of_body Bd
  have e0 : s₁.heap = h0 := by rw [← hh, Bd.state]; rfl
  have N0 := Fr.nil n0
  have Z0 : n0 ≤ h0.size := X00.1 ▸ X00.2.1
  have K0 : Keep h0 h0 ([a1] : List Addr) := Keep.refl _ _
  have fg_wG5_0 := wV5.ext X00.2
  have lt_wG5 : wG5 < n0 := X00.1 ▸ wV5.lt
  show OwnGoes p e below _ s₁ (entryFrame m _ _)
  refine og s₁ m 0 #[vR a1] [] (fun tgt kgo => castTop (ef_grow0 m a1) kgo) ?_
  refine og s₁ m 2 #[vR a1] [(.ref a1), (.ref a1)] (fun tgt kgo => ?_) ?_
  · refine XS.aloadN X0.here hx rfl (hb hby d29_0) rfl rfl ?_
    refine XS.aloadN X0.here hx rfl (hb hby d29_1) rfl rfl ?_
    exact kgo
  obtain ⟨T1, X1, e1, st1⟩ := getF X0 hx hZ hown (host := "") (Or.inl (own_w hw 107 rfl)) Via.refl e0 f3 (g := (mkF m 2 #[vR a1] [(.ref a1), (.ref a1)])) rfl rfl (hb hby d29_2)
  refine og T1 m 5 #[vR a1] [(.int 0), (.ref a1)] st1 ?_
  refine og T1 m 7 #[vR a1] [(.int 1), (.ref a1)] (fun tgt kgo => ?_) ?_
  · refine XS.iconst X1.here hx rfl (hb hby d29_5) ?_
    refine XS.iadd X1.here hx rfl (hb hby d29_6) rfl ?_
    exact kgo
  obtain ⟨cq2, q2, q2'⟩ := f0.cell
  obtain ⟨_, _, ⟨T2, L2, k2, n2⟩, -, X2, ⟨Lc2, hQ2, l2, y2, z2⟩, st2⟩ := X1.privateBack hx (y := mN28) hown (mvT hZ (own_w hw 190 rfl)) (mvT hZ (own_w hw 191 rfl)) (mvT hZ (own_w hw 193 rfl)) (Cond.privateMethod_at (mvP hZ (own_w hw 192 rfl) (args := #[]))) (mvT hZ (own_w hw 194 rfl)) (by decide) (backOf (W := 0) (rm_grow1 l Z a0 hw [] wG1 wG3 wG5 wK5 cx hEL h0 n0 X00 a1 m1x f0 f1 f2 f3 f4) hZ (own_w hw 194 rfl) (own_w hw 36 rfl) (by decide) (by decide)) (g := (mkF m 7 #[vR a1] [(.int 1), (.ref a1)])) rfl (by rw [hml]; rfl) (Steps.refl _) (a := a1) (by rw [e1]; exact q2) q2' (argsL := [(.int 1)]) (rest := []) (lenOf pd_18615735 rfl) rfl (Nat.le_of_eq rfl) (hb hby d29_7) (fun _ _ => ⟨rfl, e1, (by decide : 0 + 1 ≤ _), (by decide : 0 + 10 ≤ _)⟩)
  dsimp only [Pt.U, Pt.locs, Pt.cells, Pt.slots] at X2 l2 y2 z2 st2 hQ2
  subst l2 y2 z2
  obtain ⟨b_2, kb_2, rfl, Nq2, Kq2, zq2_0, fq2_0, fq2_1, fq2_2, fq2_3, fq2_4, pq2_0⟩ := hQ2
  refine OwnGoes.tr (T' := T2) (g' := (mkF m 10 #[vR a1] [(.ref b_2)])) st2 ?_
  have N2 := Fr.app N0 Nq2
  have ne_a1_b_2 : a1 ≠ b_2 := Nat.ne_of_lt (Nat.lt_of_lt_of_le f0.lt zq2_0)
  have ne_wG5_b_2 : wG5 ≠ b_2 := Nat.ne_of_lt (Nat.lt_of_lt_of_le fg_wG5_0.lt zq2_0)
  have g_b_2 : n0 ≤ b_2 := Nat.le_trans (Nat.le_trans Z0 K0.1) zq2_0
  have s_b_2 : h0.size ≤ b_2 := Nat.le_trans K0.1 zq2_0
  have F2_1 := f0.keep Kq2
  have F2_2 := fg_wG5_0.keep Kq2 (ninS (Ne.symm (Exa.neArv f0 fg_wG5_0 (own_w hw 35 rfl))) nin0)
  have Ol2 := X00.keep Kq2 (allS f4 all0)
  have K2 : Keep h0 T2.heap ([a1] : List Addr) := K0.trans Kq2 (allS (Or.inl (List.mem_of_getElem? (i := 0) rfl)) all0)
  have hret : ∀ fs, (∀ (f : JFrame) (acts : List Action), f.method = m → f.locked = none → f.entered = [] → (doReturn e (T2.setTop f) acts (some (.ref b_2))).1 = T2.setFrames fs) → Steps p.tables e below (T2.setTop (mkF m 10 #[vR a1] [(.ref b_2)])) (T2.setFrames fs) := by
    intro fs hr
    jvm_step X2.here [X2.here.top, hx, (hb hby d29_10), X2.method', Bd.returns, Value.isRef, FieldType.isReference]
    first | (intro acts; rw [hr _ acts rfl rfl rfl]) | rw [hr _ _ rfl rfl rfl]
    exact Steps.refl _
  refine own_leave X2 hlk (v := some (.ref b_2)) (fun h => by rw [Bd.returns] at h; cases h) hret (by decide) (by decide) ?_
  show Q_grow0 Z a1 m1x h0 n0 _ T2.heap _
  exact ⟨b_2, kb_2, rfl, N2, K2, s_b_2, fq2_0, fq2_1, fq2_2, fq2_3, fq2_4, pq2_0⟩
theorem ef_add3_0 (m : MethodId) (x0 : Addr) (x1 : Addr) (x2 : Addr) : entryFrame m #[(.ref x0), (.ref x1), (.ref x2), (.int 0)] 4 = mkF m 0 #[vR x0, vR x1, vR x2, vI 0] [] := by
  first | (simp [entryFrame, mkF, argsToLocals, Value.category]; done) | rfl
def Q_add3_0 (Z : State) (a1 : Addr) (m1x : Int32) (x1 : Addr) (h0 : Heap) (n0 : Nat) (v : Option Value) (h : Heap) (L : List Loc) : Prop := ∃ (b : Addr), ∃ (kb : ClassId), v = none ∧ Fr n0 L ∧ Keep h0 h ([a1] : List Addr) ∧ h0.size ≤ b ∧ Exa Z h a1 "java/util/ArrayList" ∧ Fld Z h a1 "java/util/AbstractList" "modCount" "I" (.int m1x) ∧ Fld Z h a1 "java/util/ArrayList" "elementData" "[Ljava/lang/Object;" (.ref b) ∧ Fld Z h a1 "java/util/ArrayList" "size" "I" (.int 1) ∧ Arv Z h b kb (.object "java/lang/Object") (10 : Int32) [(.ref x1), .null, .null, .null, .null, .null, .null, .null, .null, .null] .null ∧ (Ovr Z kb "java/lang/Object")
theorem d30_0 : decode jdk_38_method_24_code 0 = .ok (.iload_n 3, 1) := by decide +kernel
theorem d30_1 : decode jdk_38_method_24_code 1 = .ok (.aload_n 2, 1) := by decide +kernel
theorem d30_2 : decode jdk_38_method_24_code 2 = .ok (.arraylength, 1) := by decide +kernel
theorem d30_3 : decode jdk_38_method_24_code 3 = .ok (.if_icmp .ne 8, 3) := by decide +kernel
theorem d30_6 : decode jdk_38_method_24_code 6 = .ok (.aload_n 0, 1) := by decide +kernel
theorem d30_7 : decode jdk_38_method_24_code 7 = .ok (.invokevirtual 129, 3) := by decide +kernel
theorem pd_48715688 : parseMethodDescriptor "()[Ljava/lang/Object;" = some ⟨[], some (.array (.object "java/lang/Object"))⟩ := by decide +kernel
theorem d30_10 : decode jdk_38_method_24_code 10 = .ok (.astore_n 2, 1) := by decide +kernel
theorem d30_11 : decode jdk_38_method_24_code 11 = .ok (.aload_n 2, 1) := by decide +kernel
theorem d30_12 : decode jdk_38_method_24_code 12 = .ok (.iload_n 3, 1) := by decide +kernel
theorem d30_13 : decode jdk_38_method_24_code 13 = .ok (.aload_n 1, 1) := by decide +kernel
theorem d30_14 : decode jdk_38_method_24_code 14 = .ok (.aastore, 1) := by decide +kernel
theorem d30_15 : decode jdk_38_method_24_code 15 = .ok (.aload_n 0, 1) := by decide +kernel
theorem d30_16 : decode jdk_38_method_24_code 16 = .ok (.iload_n 3, 1) := by decide +kernel
theorem d30_17 : decode jdk_38_method_24_code 17 = .ok (.iconst 1, 1) := by decide +kernel
theorem d30_18 : decode jdk_38_method_24_code 18 = .ok (.iadd, 1) := by decide +kernel
theorem d30_19 : decode jdk_38_method_24_code 19 = .ok (.putfield 48, 3) := by decide +kernel
theorem d30_22 : decode jdk_38_method_24_code 22 = .ok (.return_, 1) := by decide +kernel
set_option maxRecDepth 65536 in
set_option maxHeartbeats 40000000 in
theorem rm_add3_0 (l : Launch) (Z : State) (a0 : Array Value) (hw : ∀ d ∈ tables_1, d.before a0 Z = true) (ws : List Jvm.Cond) (wG1 : Int32) (wG3 : Value) (wG5 : Addr) (wK5 : ClassId) (cx : OwnCx Z a0 wG1 wG3 wG5 wK5) (hEL : EW Z a0 consts_1) (h0 : Heap) (n0 : Nat) (X00 : Old Z n0 h0) (a1 : Addr) (m1x : Int32) (x1 : Addr) (f0 : Exa Z h0 a1 "java/util/ArrayList") (f1 : Fld Z h0 a1 "java/util/AbstractList" "modCount" "I" (.int m1x)) (f2 : Fld Z h0 a1 "java/util/ArrayList" "elementData" "[Ljava/lang/Object;" (.ref wG5)) (f3 : Fld Z h0 a1 "java/util/ArrayList" "size" "I" (.int 0)) (f4 : n0 ≤ a1) (f5 : Exa Z h0 x1 "java/lang/String") :
    MetFree l mN30 (head1 (Jvm.Cond.code mN30 jdk_38_method_24_code 4 none :: ws) (oR 3 1 10 41)) (fun a U => a = #[(.ref a1), (.ref x1), (.ref wG5), (.int 0)] ∧ Z.Warmed39 U.vm ∧ U.heap = h0) (fun _ _ _ _ _ => True) (fun _ U o U' => ∃ v L, o = .returned v ∧ Q_add3_0 Z a1 m1x x1 h0 n0 v U'.heap L ∧ FrameEnd U o U' L (oR 3 1 10 41).cells (oR 3 1 10 41).slots) := by
  refine MetFree.of_bodySF (plainFor_of_name pn_13458729) hisR ?_
  intro p e s m args below meth c s₁ Bd hml0 hP hK
  obtain ⟨rfl, hZ, hh⟩ := hP
  obtain ⟨wO2, wP5, wO4, wrG3, hstr, wO5, wV5⟩ := id cx
  have hx := Bd.exec
  have hby := Bd.bytes
  have hlk := Bd.notSynchronized
  have hml : c.maxLocals = 4 := hml0
  have hown : s.vm.findClass "java/util/ArrayList" = some m.cls := findClass_of_methodNamed Bd.named
  have hnm := (name_of_methodNamed Bd.named Bd.method).1
  have X0 : Stand p l e (oR 3 1 10 41) s m #[(.ref a1), (.ref x1), (.ref wG5), (.int 0)] below meth c s₁ [] 0 0 := Stand.of_body Bd
  have e0 : s₁.heap = h0 := by rw [← hh, Bd.state]; rfl
  have N0 := Fr.nil n0
  have Z0 : n0 ≤ h0.size := X00.1 ▸ X00.2.1
  have K0 : Keep h0 h0 ([a1] : List Addr) := Keep.refl _ _
  have fg_wG5_0 := wV5.ext X00.2
  have lt_wG5 : wG5 < n0 := X00.1 ▸ wV5.lt
  show OwnGoes p e below _ s₁ (entryFrame m _ _)
  refine og s₁ m 0 #[vR a1, vR x1, vR wG5, vI 0] [] (fun tgt kgo => castTop (ef_add3_0 m a1 x1 wG5) kgo) ?_
  refine og s₁ m 7 #[vR a1, vR x1, vR wG5, vI 0] [(.ref a1)] (fun tgt kgo => ?_) ?_
  · refine XS.iloadN X0.here hx rfl (hb hby d30_0) rfl ?_
    refine XS.aloadN X0.here hx rfl (hb hby d30_1) rfl rfl ?_
    show OwnG p e below s₁ m 2 #[vR a1, vR x1, vR wG5, vI 0] [(.ref wG5), (.int 0)] tgt
    obtain ⟨cl1, Ar1, q1, S1, M1, -, -⟩ := fg_wG5_0
    refine X0.arraylength hx (by rw [e0]; exact Ar1.1) (State.isArrayOf_alike hZ.alike Ar1.2.1) (g := (mkF m 2 #[vR a1, vR x1, vR wG5, vI 0] [(.ref wG5), (.int 0)])) rfl rfl (hb hby d30_2) _ ?_
    rw [len_of S1 M1]
    show OwnG p e below s₁ m 3 #[vR a1, vR x1, vR wG5, vI 0] [(.int 0), (.int 0)] tgt
    refine XS.icmpNo X0.here hx rfl (hb hby d30_3) rfl (teq (by decide : (0 : Int32) = (0 : Int32))).2 ?_
    refine XS.aloadN X0.here hx rfl (hb hby d30_6) rfl rfl ?_
    exact kgo
  obtain ⟨cq2, q2, q2'⟩ := f0.cell
  obtain ⟨_, _, ⟨T2, L2, k2, n2⟩, -, X2, ⟨Lc2, hQ2, l2, y2, z2⟩, st2⟩ := X0.privateBack hx (y := mN29) hown (mvT hZ (own_w hw 185 rfl)) (mvT hZ (own_w hw 186 rfl)) (mvT hZ (own_w hw 188 rfl)) (Cond.privateMethod_at (mvP hZ (own_w hw 187 rfl) (args := #[]))) (mvT hZ (own_w hw 189 rfl)) (by decide) (backOf (W := 0) (rm_grow0 l Z a0 hw [] wG1 wG3 wG5 wK5 cx hEL h0 n0 X00 a1 m1x f0 f1 f2 f3 f4) hZ (own_w hw 189 rfl) (own_w hw 36 rfl) (by decide) (by decide)) (g := (mkF m 7 #[vR a1, vR x1, vR wG5, vI 0] [(.ref a1)])) rfl (by rw [hml]; rfl) (Steps.refl _) (a := a1) (by rw [e0]; exact q2) q2' (argsL := []) (rest := []) (lenOf pd_48715688 rfl) rfl (Nat.le_of_eq rfl) (hb hby d30_7) (fun _ _ => ⟨rfl, e0, (by decide : 0 + 1 ≤ _), (by decide : 0 + 10 ≤ _)⟩)
  dsimp only [Pt.U, Pt.locs, Pt.cells, Pt.slots] at X2 l2 y2 z2 st2 hQ2
  subst l2 y2 z2
  obtain ⟨b_2, kb_2, rfl, Nq2, Kq2, zq2_0, fq2_0, fq2_1, fq2_2, fq2_3, fq2_4, pq2_0⟩ := hQ2
  refine OwnGoes.tr (T' := T2) (g' := (mkF m 10 #[vR a1, vR x1, vR wG5, vI 0] [(.ref b_2)])) st2 ?_
  have N2 := Fr.app N0 Nq2
  have ne_a1_b_2 : a1 ≠ b_2 := Nat.ne_of_lt (Nat.lt_of_lt_of_le f0.lt zq2_0)
  have ne_x1_b_2 : x1 ≠ b_2 := Nat.ne_of_lt (Nat.lt_of_lt_of_le f5.lt zq2_0)
  have ne_wG5_b_2 : wG5 ≠ b_2 := Nat.ne_of_lt (Nat.lt_of_lt_of_le fg_wG5_0.lt zq2_0)
  have g_b_2 : n0 ≤ b_2 := Nat.le_trans (Nat.le_trans Z0 K0.1) zq2_0
  have s_b_2 : h0.size ≤ b_2 := Nat.le_trans K0.1 zq2_0
  have F2_1 := f0.keep Kq2
  have F2_2 := f5.keep Kq2
  have F2_3 := fg_wG5_0.keep Kq2 (ninS (Ne.symm (Exa.neArv f0 fg_wG5_0 (own_w hw 35 rfl))) nin0)
  have Ol2 := X00.keep Kq2 (allS f4 all0)
  have K2 : Keep h0 T2.heap ([a1] : List Addr) := K0.trans Kq2 (allS (Or.inl (List.mem_of_getElem? (i := 0) rfl)) all0)
  refine og T2 m 14 #[vR a1, vR x1, vR b_2, vI 0] [(.ref x1), (.int 0), (.ref b_2)] (fun tgt kgo => ?_) ?_
  · refine XS.astoreN X2.here hx rfl (hb hby d30_10) rfl rfl (l' := #[vR a1, vR x1, vR b_2, vI 0]) rfl ?_
    refine XS.aloadN X2.here hx rfl (hb hby d30_11) rfl rfl ?_
    refine XS.iloadN X2.here hx rfl (hb hby d30_12) rfl ?_
    show OwnG p e below T2 m 13 #[vR a1, vR x1, vR b_2, vI 0] [(.int 0), (.ref b_2)] tgt
    refine XS.aloadN X2.here hx rfl (hb hby d30_13) rfl rfl ?_
    exact kgo
  obtain ⟨cl3, Ar3, q3, S3, M3, H3, G3⟩ := id fq2_4
  obtain ⟨T3, h3, X3, e3, W3, st3⟩ := stR X2 hx hZ rfl Ar3 (j := (0 : Int32)) (inb_of S3 ⟨by decide, by decide⟩) rfl (Sto.ofV Ar3 q3 pq2_0 (Ins.of_exa F2_2 (own_w hw 198 rfl))) (g := (mkF m 14 #[vR a1, vR x1, vR b_2, vI 0] [(.ref x1), (.int 0), (.ref b_2)])) rfl rfl (hb hby d30_14)
  refine og T3 m 15 #[vR a1, vR x1, vR b_2, vI 0] [] st3 ?_
  have V3 : Arv Z h3 b_2 kb_2 (.object "java/lang/Object") (10 : Int32) [(.ref x1), .null, .null, .null, .null, .null, .null, .null, .null, .null] .null := Arv.set Ar3 q3 S3 M3 H3 G3 rfl W3 0 rfl (Nat.le_of_ble_eq_true rfl)
  have F3_4 := fq2_0.wr W3
  have F3_5 := F2_2.wr W3
  have F3_6 := F2_3.other W3 ne_wG5_b_2
  have F3_7 := fq2_1.other W3 (Or.inl ne_a1_b_2)
  have F3_8 := fq2_2.other W3 (Or.inl ne_a1_b_2)
  have F3_9 := fq2_3.other W3 (Or.inl ne_a1_b_2)
  have Ol3 := Ol2.wr W3 g_b_2
  have K3 : Keep h0 h3 ([a1] : List Addr) := K2.wr W3 (Or.inr s_b_2)
  have N3 := Fr.snoc X3 N2 g_b_2
  refine og T3 m 19 #[vR a1, vR x1, vR b_2, vI 0] [(.int 1), (.ref a1)] (fun tgt kgo => ?_) ?_
  · refine XS.aloadN X3.here hx rfl (hb hby d30_15) rfl rfl ?_
    refine XS.iloadN X3.here hx rfl (hb hby d30_16) rfl ?_
    refine XS.iconst X3.here hx rfl (hb hby d30_17) ?_
    show OwnG p e below T3 m 18 #[vR a1, vR x1, vR b_2, vI 0] [(.int 1), (.int 0), (.ref a1)] tgt
    refine XS.iadd X3.here hx rfl (hb hby d30_18) rfl ?_
    exact kgo
  obtain ⟨T4, h4, X4, e4, W4, st4⟩ := putF X3 hx hZ hown (host := "") (Or.inl (own_w hw 107 rfl)) Via.refl e3 F3_9 F3_4 (Or.inl (own_w hw 108 rfl)) (own_w hw 35 rfl) (ty := .int) (by decide) rfl rfl (g := (mkF m 19 #[vR a1, vR x1, vR b_2, vI 0] [(.int 1), (.ref a1)])) rfl rfl (hb hby d30_19)
  refine og T4 m 22 #[vR a1, vR x1, vR b_2, vI 0] [] st4 ?_
  have Fw4 := F3_9.same W4
  have F4_10 := F3_4.wr W4
  have F4_11 := F3_5.wr W4
  have F4_12 := F3_6.other W4 (Ne.symm (Exa.neArv F3_4 F3_6 (own_w hw 35 rfl)))
  have F4_13 := F3_7.other W4 (Or.inr (slot_ne (Or.inl (own_w hw 54 rfl)) (Or.inl (own_w hw 108 rfl)) (by decide) (t := .int) (t' := .int) (by decide) (by decide)))
  have F4_14 := F3_8.other W4 (Or.inr (slot_ne (Or.inl (own_w hw 57 rfl)) (Or.inl (own_w hw 108 rfl)) (by decide) (t := (.array (.object "java/lang/Object"))) (t' := .int) (by decide) (by decide)))
  have F4_15 := V3.other W4 (Ne.symm ne_a1_b_2)
  have Ol4 := Ol3.wr W4 f4
  have K4 : Keep h0 h4 ([a1] : List Addr) := K3.wr W4 (Or.inl (List.mem_of_getElem? (i := 0) rfl))
  have N4 := Fr.snoc X4 N3 f4
  refine own_leave X4 hlk (v := none) (fun _ => rfl) (fun fs hr => X4.returnOut hx Bd.returns (hb hby d30_22) hr) (by decide) (by decide) ?_
  show Q_add3_0 Z a1 m1x x1 h0 n0 _ T4.heap _
  rw [e4]
  exact ⟨b_2, kb_2, rfl, N4, K4, s_b_2, F4_10, F4_13, F4_14, Fw4, F4_15, pq2_0⟩
theorem ef_add1_0 (m : MethodId) (x0 : Addr) (x1 : Addr) : entryFrame m #[(.ref x0), (.ref x1)] 2 = mkF m 0 #[vR x0, vR x1] [] := by
  first | (simp [entryFrame, mkF, argsToLocals, Value.category]; done) | rfl
def Q_add1_0 (Z : State) (a1 : Addr) (m1x : Int32) (x1 : Addr) (h0 : Heap) (n0 : Nat) (v : Option Value) (h : Heap) (L : List Loc) : Prop := ∃ (b : Addr), ∃ (kb : ClassId), v = some (.int 1) ∧ Fr n0 L ∧ Keep h0 h ([a1] : List Addr) ∧ h0.size ≤ b ∧ Exa Z h a1 "java/util/ArrayList" ∧ Fld Z h a1 "java/util/AbstractList" "modCount" "I" (.int (m1x + (1 : Int32))) ∧ Fld Z h a1 "java/util/ArrayList" "elementData" "[Ljava/lang/Object;" (.ref b) ∧ Fld Z h a1 "java/util/ArrayList" "size" "I" (.int 1) ∧ Arv Z h b kb (.object "java/lang/Object") (10 : Int32) [(.ref x1), .null, .null, .null, .null, .null, .null, .null, .null, .null] .null ∧ (Ovr Z kb "java/lang/Object")
theorem d31_0 : decode jdk_38_method_25_code 0 = .ok (.aload_n 0, 1) := by decide +kernel
theorem d31_1 : decode jdk_38_method_25_code 1 = .ok (.dup, 1) := by decide +kernel
theorem d31_2 : decode jdk_38_method_25_code 2 = .ok (.getfield 63, 3) := by decide +kernel
theorem d31_5 : decode jdk_38_method_25_code 5 = .ok (.iconst 1, 1) := by decide +kernel
theorem d31_6 : decode jdk_38_method_25_code 6 = .ok (.iadd, 1) := by decide +kernel
theorem d31_7 : decode jdk_38_method_25_code 7 = .ok (.putfield 63, 3) := by decide +kernel
theorem d31_10 : decode jdk_38_method_25_code 10 = .ok (.aload_n 0, 1) := by decide +kernel
theorem d31_11 : decode jdk_38_method_25_code 11 = .ok (.aload_n 1, 1) := by decide +kernel
theorem d31_12 : decode jdk_38_method_25_code 12 = .ok (.aload_n 0, 1) := by decide +kernel
theorem d31_13 : decode jdk_38_method_25_code 13 = .ok (.getfield 9, 3) := by decide +kernel
theorem d31_16 : decode jdk_38_method_25_code 16 = .ok (.aload_n 0, 1) := by decide +kernel
theorem d31_17 : decode jdk_38_method_25_code 17 = .ok (.getfield 48, 3) := by decide +kernel
theorem d31_20 : decode jdk_38_method_25_code 20 = .ok (.invokevirtual 131, 3) := by decide +kernel
theorem pd_92935056 : parseMethodDescriptor "(Ljava/lang/Object;[Ljava/lang/Object;I)V" = some ⟨[(.object "java/lang/Object"), (.array (.object "java/lang/Object")), .int], none⟩ := by decide +kernel
theorem d31_23 : decode jdk_38_method_25_code 23 = .ok (.iconst 1, 1) := by decide +kernel
theorem d31_24 : decode jdk_38_method_25_code 24 = .ok (.ireturn, 1) := by decide +kernel
set_option maxRecDepth 65536 in
set_option maxHeartbeats 40000000 in
theorem rm_add1_0 (l : Launch) (Z : State) (a0 : Array Value) (hw : ∀ d ∈ tables_1, d.before a0 Z = true) (ws : List Jvm.Cond) (wG1 : Int32) (wG3 : Value) (wG5 : Addr) (wK5 : ClassId) (cx : OwnCx Z a0 wG1 wG3 wG5 wK5) (hEL : EW Z a0 consts_1) (h0 : Heap) (n0 : Nat) (X00 : Old Z n0 h0) (a1 : Addr) (m1x : Int32) (x1 : Addr) (f0 : Exa Z h0 a1 "java/util/ArrayList") (f1 : Fld Z h0 a1 "java/util/AbstractList" "modCount" "I" (.int m1x)) (f2 : Fld Z h0 a1 "java/util/ArrayList" "elementData" "[Ljava/lang/Object;" (.ref wG5)) (f3 : Fld Z h0 a1 "java/util/ArrayList" "size" "I" (.int 0)) (f4 : n0 ≤ a1) (f5 : Exa Z h0 x1 "java/lang/String") :
    MetFree l mN31 (head1 (Jvm.Cond.code mN31 jdk_38_method_25_code 2 (some .boolean) :: ws) (oR 4 1 10 56)) (fun a U => a = #[(.ref a1), (.ref x1)] ∧ Z.Warmed39 U.vm ∧ U.heap = h0) (fun _ _ _ _ _ => True) (fun _ U o U' => ∃ v L, o = .returned v ∧ Q_add1_0 Z a1 m1x x1 h0 n0 v U'.heap L ∧ FrameEnd U o U' L (oR 4 1 10 56).cells (oR 4 1 10 56).slots) := by
  refine MetFree.of_bodySF (plainFor_of_name pn_13458729) hisR ?_
  intro p e s m args below meth c s₁ Bd hml0 hP hK
  obtain ⟨rfl, hZ, hh⟩ := hP
  obtain ⟨wO2, wP5, wO4, wrG3, hstr, wO5, wV5⟩ := id cx
  have hx := Bd.exec
  have hby := Bd.bytes
  have hlk := Bd.notSynchronized
  have hml : c.maxLocals = 2 := hml0
  have hown : s.vm.findClass "java/util/ArrayList" = some m.cls := findClass_of_methodNamed Bd.named
  have hnm := (name_of_methodNamed Bd.named Bd.method).1
  have X0 : Stand p l e (oR 4 1 10 56) s m #[(.ref a1), (.ref x1)] below meth c s₁ [] 0 0 := Stand.of_body Bd
  have e0 : s₁.heap = h0 := by rw [← hh, Bd.state]; rfl
  have N0 := Fr.nil n0
  have Z0 : n0 ≤ h0.size := X00.1 ▸ X00.2.1
  have K0 : Keep h0 h0 ([a1] : List Addr) := Keep.refl _ _
  have fg_wG5_0 := wV5.ext X00.2
  have lt_wG5 : wG5 < n0 := X00.1 ▸ wV5.lt
  show OwnGoes p e below _ s₁ (entryFrame m _ _)
  refine og s₁ m 0 #[vR a1, vR x1] [] (fun tgt kgo => castTop (ef_add1_0 m a1 x1) kgo) ?_
  refine og s₁ m 2 #[vR a1, vR x1] [(.ref a1), (.ref a1)] (fun tgt kgo => ?_) ?_
  · refine XS.aloadN X0.here hx rfl (hb hby d31_0) rfl rfl ?_
    refine XS.dup X0.here hx rfl (hb hby d31_1) rfl rfl ?_
    exact kgo
  obtain ⟨T1, X1, e1, st1⟩ := getF X0 hx hZ hown (host := "") (Or.inl (own_w hw 178 rfl)) (Via.of (own_w hw 179 rfl)) e0 f1 (g := (mkF m 2 #[vR a1, vR x1] [(.ref a1), (.ref a1)])) rfl rfl (hb hby d31_2)
  refine og T1 m 5 #[vR a1, vR x1] [(.int m1x), (.ref a1)] st1 ?_
  refine og T1 m 7 #[vR a1, vR x1] [(.int (m1x + (1 : Int32))), (.ref a1)] (fun tgt kgo => ?_) ?_
  · refine XS.iconst X1.here hx rfl (hb hby d31_5) ?_
    refine XS.iadd X1.here hx rfl (hb hby d31_6) rfl ?_
    exact kgo
  obtain ⟨T2, h2, X2, e2, W2, st2⟩ := putF X1 hx hZ hown (host := "") (Or.inl (own_w hw 178 rfl)) (Via.of (own_w hw 179 rfl)) e1 f1 f0 (Or.inl (own_w hw 54 rfl)) (own_w hw 35 rfl) (ty := .int) (by decide) rfl rfl (g := (mkF m 7 #[vR a1, vR x1] [(.int (m1x + (1 : Int32))), (.ref a1)])) rfl rfl (hb hby d31_7)
  refine og T2 m 10 #[vR a1, vR x1] [] st2 ?_
  have Fw2 := f1.same W2
  have F2_1 := f0.wr W2
  have F2_2 := f2.other W2 (Or.inr (slot_ne (Or.inl (own_w hw 57 rfl)) (Or.inl (own_w hw 54 rfl)) (by decide) (t := (.array (.object "java/lang/Object"))) (t' := .int) (by decide) (by decide)))
  have F2_3 := f3.other W2 (Or.inr (slot_ne (Or.inl (own_w hw 108 rfl)) (Or.inl (own_w hw 54 rfl)) (by decide) (t := .int) (t' := .int) (by decide) (by decide)))
  have F2_4 := f5.wr W2
  have F2_5 := fg_wG5_0.other W2 (Ne.symm (Exa.neArv f0 fg_wG5_0 (own_w hw 35 rfl)))
  have Ol2 := X00.wr W2 f4
  have K2 : Keep h0 h2 ([a1] : List Addr) := K0.wr W2 (Or.inl (List.mem_of_getElem? (i := 0) rfl))
  have N2 := Fr.snoc X2 N0 f4
  refine og T2 m 13 #[vR a1, vR x1] [(.ref a1), (.ref x1), (.ref a1)] (fun tgt kgo => ?_) ?_
  · refine XS.aloadN X2.here hx rfl (hb hby d31_10) rfl rfl ?_
    refine XS.aloadN X2.here hx rfl (hb hby d31_11) rfl rfl ?_
    refine XS.aloadN X2.here hx rfl (hb hby d31_12) rfl rfl ?_
    exact kgo
  obtain ⟨T3, X3, e3, st3⟩ := getF X2 hx hZ hown (host := "") (Or.inl (own_w hw 56 rfl)) Via.refl e2 F2_2 (g := (mkF m 13 #[vR a1, vR x1] [(.ref a1), (.ref x1), (.ref a1)])) rfl rfl (hb hby d31_13)
  refine og T3 m 16 #[vR a1, vR x1] [(.ref wG5), (.ref x1), (.ref a1)] st3 ?_
  refine og T3 m 17 #[vR a1, vR x1] [(.ref a1), (.ref wG5), (.ref x1), (.ref a1)] (fun tgt kgo => ?_) ?_
  · refine XS.aloadN X3.here hx rfl (hb hby d31_16) rfl rfl ?_
    exact kgo
  obtain ⟨T4, X4, e4, st4⟩ := getF X3 hx hZ hown (host := "") (Or.inl (own_w hw 107 rfl)) Via.refl e3 F2_3 (g := (mkF m 17 #[vR a1, vR x1] [(.ref a1), (.ref wG5), (.ref x1), (.ref a1)])) rfl rfl (hb hby d31_17)
  refine og T4 m 20 #[vR a1, vR x1] [(.int 0), (.ref wG5), (.ref x1), (.ref a1)] st4 ?_
  obtain ⟨cq5, q5, q5'⟩ := F2_1.cell
  obtain ⟨_, _, ⟨T5, L5, k5, n5⟩, -, X5, ⟨Lc5, hQ5, l5, y5, z5⟩, st5⟩ := X4.privateBack hx (y := mN30) hown (mvT hZ (own_w hw 180 rfl)) (mvT hZ (own_w hw 181 rfl)) (mvT hZ (own_w hw 183 rfl)) (Cond.privateMethod_at (mvP hZ (own_w hw 182 rfl) (args := #[]))) (mvT hZ (own_w hw 184 rfl)) (by decide) (backOf (W := 0) (rm_add3_0 l Z a0 hw [] wG1 wG3 wG5 wK5 cx hEL h2 n0 Ol2 a1 (m1x + (1 : Int32)) x1 F2_1 Fw2 F2_2 F2_3 f4 F2_4) hZ (own_w hw 184 rfl) (own_w hw 36 rfl) (by decide) (by decide)) (g := (mkF m 20 #[vR a1, vR x1] [(.int 0), (.ref wG5), (.ref x1), (.ref a1)])) rfl (by rw [hml]; rfl) (Steps.refl _) (a := a1) (by rw [e4]; exact q5) q5' (argsL := [(.ref x1), (.ref wG5), (.int 0)]) (rest := []) (lenOf pd_92935056 rfl) rfl (Nat.le_of_eq rfl) (hb hby d31_20) (fun _ _ => ⟨rfl, e4, (by decide : 0 + 1 ≤ _), (by decide : 0 + 10 ≤ _)⟩)
  dsimp only [Pt.U, Pt.locs, Pt.cells, Pt.slots] at X5 l5 y5 z5 st5 hQ5
  subst l5 y5 z5
  obtain ⟨b_5, kb_5, rfl, Nq5, Kq5, zq5_0, fq5_0, fq5_1, fq5_2, fq5_3, fq5_4, pq5_0⟩ := hQ5
  refine OwnGoes.tr (T' := T5) (g' := (mkF m 23 #[vR a1, vR x1] [])) st5 ?_
  have N5 := Fr.app N2 Nq5
  have ne_a1_b_5 : a1 ≠ b_5 := Nat.ne_of_lt (Nat.lt_of_lt_of_le F2_1.lt zq5_0)
  have ne_x1_b_5 : x1 ≠ b_5 := Nat.ne_of_lt (Nat.lt_of_lt_of_le F2_4.lt zq5_0)
  have ne_wG5_b_5 : wG5 ≠ b_5 := Nat.ne_of_lt (Nat.lt_of_lt_of_le F2_5.lt zq5_0)
  have g_b_5 : n0 ≤ b_5 := Nat.le_trans (Nat.le_trans Z0 K2.1) zq5_0
  have s_b_5 : h0.size ≤ b_5 := Nat.le_trans K2.1 zq5_0
  have F5_6 := F2_1.keep Kq5
  have F5_7 := F2_4.keep Kq5
  have F5_8 := F2_5.keep Kq5 (ninS (Ne.symm (Exa.neArv F2_1 F2_5 (own_w hw 35 rfl))) nin0)
  have Ol5 := Ol2.keep Kq5 (allS f4 all0)
  have K5 : Keep h0 T5.heap ([a1] : List Addr) := K2.trans Kq5 (allS (Or.inl (List.mem_of_getElem? (i := 0) rfl)) all0)
  refine og T5 m 24 #[vR a1, vR x1] [(.int 1)] (fun tgt kgo => ?_) ?_
  · refine XS.iconst X5.here hx rfl (hb hby d31_23) ?_
    exact kgo
  refine own_leave X5 hlk (v := some (.int 1)) (fun h => by rw [Bd.returns] at h; cases h) (fun fs hr => retN X5 hx (t := .boolean) Bd.returns (by simp) (hb hby d31_24) (by rw [(by decide : nar .boolean (1 : Int32) = (1 : Int32))]; exact hr)) (by decide) (by decide) ?_
  show Q_add1_0 Z a1 m1x x1 h0 n0 _ T5.heap _
  exact ⟨b_5, kb_5, rfl, N5, K5, s_b_5, fq5_0, fq5_1, fq5_2, fq5_3, fq5_4, pq5_0⟩
theorem ef_add3_1 (m : MethodId) (x0 : Addr) (x1 : Addr) (x2 : Addr) : entryFrame m #[(.ref x0), (.ref x1), (.ref x2), (.int 1)] 4 = mkF m 0 #[vR x0, vR x1, vR x2, vI 1] [] := by
  first | (simp [entryFrame, mkF, argsToLocals, Value.category]; done) | rfl
def Q_add3_1 (Z : State) (a1 : Addr) (m1x : Int32) (x1 : Addr) (ed : Addr) (ke : ClassId) (ya0 : Addr) (h0 : Heap) (n0 : Nat) (v : Option Value) (h : Heap) (L : List Loc) : Prop := v = none ∧ Fr n0 L ∧ Keep h0 h ([a1, ed] : List Addr) ∧ Exa Z h a1 "java/util/ArrayList" ∧ Fld Z h a1 "java/util/AbstractList" "modCount" "I" (.int m1x) ∧ Fld Z h a1 "java/util/ArrayList" "elementData" "[Ljava/lang/Object;" (.ref ed) ∧ Fld Z h a1 "java/util/ArrayList" "size" "I" (.int 2) ∧ Arv Z h ed ke (.object "java/lang/Object") (10 : Int32) [(.ref ya0), (.ref x1), .null, .null, .null, .null, .null, .null, .null, .null] .null
set_option maxRecDepth 65536 in
set_option maxHeartbeats 40000000 in
theorem rm_add3_1 (l : Launch) (Z : State) (a0 : Array Value) (hw : ∀ d ∈ tables_1, d.before a0 Z = true) (ws : List Jvm.Cond) (wG1 : Int32) (wG3 : Value) (wG5 : Addr) (wK5 : ClassId) (cx : OwnCx Z a0 wG1 wG3 wG5 wK5) (hEL : EW Z a0 consts_1) (h0 : Heap) (n0 : Nat) (X00 : Old Z n0 h0) (a1 : Addr) (m1x : Int32) (x1 : Addr) (ed : Addr) (ke : ClassId) (ya0 : Addr) (f0 : Exa Z h0 a1 "java/util/ArrayList") (f1 : Fld Z h0 a1 "java/util/AbstractList" "modCount" "I" (.int m1x)) (f2 : Fld Z h0 a1 "java/util/ArrayList" "elementData" "[Ljava/lang/Object;" (.ref ed)) (f3 : Fld Z h0 a1 "java/util/ArrayList" "size" "I" (.int 1)) (f4 : Arv Z h0 ed ke (.object "java/lang/Object") (10 : Int32) [(.ref ya0), .null, .null, .null, .null, .null, .null, .null, .null, .null] .null) (f5 : n0 ≤ ed) (f6 : n0 ≤ a1) (f7 : Exa Z h0 x1 "java/lang/String") (hov : Ovr Z ke "java/lang/Object") :
    MetFree l mN30 (head1 (Jvm.Cond.code mN30 jdk_38_method_24_code 4 none :: ws) (oR 0 0 0 0)) (fun a U => a = #[(.ref a1), (.ref x1), (.ref ed), (.int 1)] ∧ Z.Warmed39 U.vm ∧ U.heap = h0) (fun _ _ _ _ _ => True) (fun _ U o U' => ∃ v L, o = .returned v ∧ Q_add3_1 Z a1 m1x x1 ed ke ya0 h0 n0 v U'.heap L ∧ FrameEnd U o U' L (oR 0 0 0 0).cells (oR 0 0 0 0).slots) := by
  refine MetFree.of_bodySF (plainFor_of_name pn_13458729) hisR ?_
  intro p e s m args below meth c s₁ Bd hml0 hP hK
  obtain ⟨rfl, hZ, hh⟩ := hP
  obtain ⟨wO2, wP5, wO4, wrG3, hstr, wO5, wV5⟩ := id cx
  have hx := Bd.exec
  have hby := Bd.bytes
  have hlk := Bd.notSynchronized
  have hml : c.maxLocals = 4 := hml0
  have hown : s.vm.findClass "java/util/ArrayList" = some m.cls := findClass_of_methodNamed Bd.named
  have hnm := (name_of_methodNamed Bd.named Bd.method).1
  have X0 : Stand p l e (oR 0 0 0 0) s m #[(.ref a1), (.ref x1), (.ref ed), (.int 1)] below meth c s₁ [] 0 0 := Stand.of_body Bd
  have e0 : s₁.heap = h0 := by rw [← hh, Bd.state]; rfl
  have N0 := Fr.nil n0
  have Z0 : n0 ≤ h0.size := X00.1 ▸ X00.2.1
  have K0 : Keep h0 h0 ([a1, ed] : List Addr) := Keep.refl _ _
  show OwnGoes p e below _ s₁ (entryFrame m _ _)
  refine og s₁ m 0 #[vR a1, vR x1, vR ed, vI 1] [] (fun tgt kgo => castTop (ef_add3_1 m a1 x1 ed) kgo) ?_
  refine og s₁ m 14 #[vR a1, vR x1, vR ed, vI 1] [(.ref x1), (.int 1), (.ref ed)] (fun tgt kgo => ?_) ?_
  · refine XS.iloadN X0.here hx rfl (hb hby d30_0) rfl ?_
    refine XS.aloadN X0.here hx rfl (hb hby d30_1) rfl rfl ?_
    show OwnG p e below s₁ m 2 #[vR a1, vR x1, vR ed, vI 1] [(.ref ed), (.int 1)] tgt
    obtain ⟨cl1, Ar1, q1, S1, M1, -, -⟩ := f4
    refine X0.arraylength hx (by rw [e0]; exact Ar1.1) (State.isArrayOf_alike hZ.alike Ar1.2.1) (g := (mkF m 2 #[vR a1, vR x1, vR ed, vI 1] [(.ref ed), (.int 1)])) rfl rfl (hb hby d30_2) _ ?_
    rw [len_of S1 M1]
    show OwnG p e below s₁ m 3 #[vR a1, vR x1, vR ed, vI 1] [(.int 10), (.int 1)] tgt
    refine XS.icmpYes X0.here hx rfl (pc0 := 3) (pc' := 11) rfl (hb hby d30_3) rfl (feq (by decide : ¬ ((1 : Int32) = (10 : Int32)))).2 (by decide) (by decide) ?_
    refine XS.aloadN X0.here hx rfl (hb hby d30_11) rfl rfl ?_
    refine XS.iloadN X0.here hx rfl (hb hby d30_12) rfl ?_
    show OwnG p e below s₁ m 13 #[vR a1, vR x1, vR ed, vI 1] [(.int 1), (.ref ed)] tgt
    refine XS.aloadN X0.here hx rfl (hb hby d30_13) rfl rfl ?_
    exact kgo
  obtain ⟨cl2, Ar2, q2, S2, M2, H2, G2⟩ := id f4
  obtain ⟨T2, h2, X2, e2, W2, st2⟩ := stR X0 hx hZ e0 Ar2 (j := (1 : Int32)) (inb_of S2 ⟨by decide, by decide⟩) rfl (Sto.ofV Ar2 q2 hov (Ins.of_exa f7 (own_w hw 198 rfl))) (g := (mkF m 14 #[vR a1, vR x1, vR ed, vI 1] [(.ref x1), (.int 1), (.ref ed)])) rfl rfl (hb hby d30_14)
  refine og T2 m 15 #[vR a1, vR x1, vR ed, vI 1] [] st2 ?_
  have V2 : Arv Z h2 ed ke (.object "java/lang/Object") (10 : Int32) [(.ref ya0), (.ref x1), .null, .null, .null, .null, .null, .null, .null, .null] .null := Arv.set Ar2 q2 S2 M2 H2 G2 rfl W2 1 rfl (Nat.le_of_ble_eq_true rfl)
  have F2_1 := f0.wr W2
  have F2_2 := f1.other W2 (Or.inl (Exa.neArv f0 f4 (own_w hw 35 rfl)))
  have F2_3 := f2.other W2 (Or.inl (Exa.neArv f0 f4 (own_w hw 35 rfl)))
  have F2_4 := f3.other W2 (Or.inl (Exa.neArv f0 f4 (own_w hw 35 rfl)))
  have F2_5 := f7.wr W2
  have Ol2 := X00.wr W2 f5
  have K2 : Keep h0 h2 ([a1, ed] : List Addr) := K0.wr W2 (Or.inl (List.mem_of_getElem? (i := 1) rfl))
  have N2 := Fr.snoc X2 N0 f5
  refine og T2 m 19 #[vR a1, vR x1, vR ed, vI 1] [(.int 2), (.ref a1)] (fun tgt kgo => ?_) ?_
  · refine XS.aloadN X2.here hx rfl (hb hby d30_15) rfl rfl ?_
    refine XS.iloadN X2.here hx rfl (hb hby d30_16) rfl ?_
    refine XS.iconst X2.here hx rfl (hb hby d30_17) ?_
    show OwnG p e below T2 m 18 #[vR a1, vR x1, vR ed, vI 1] [(.int 1), (.int 1), (.ref a1)] tgt
    refine XS.iadd X2.here hx rfl (hb hby d30_18) rfl ?_
    exact kgo
  obtain ⟨T3, h3, X3, e3, W3, st3⟩ := putF X2 hx hZ hown (host := "") (Or.inl (own_w hw 107 rfl)) Via.refl e2 F2_4 F2_1 (Or.inl (own_w hw 108 rfl)) (own_w hw 35 rfl) (ty := .int) (by decide) rfl rfl (g := (mkF m 19 #[vR a1, vR x1, vR ed, vI 1] [(.int 2), (.ref a1)])) rfl rfl (hb hby d30_19)
  refine og T3 m 22 #[vR a1, vR x1, vR ed, vI 1] [] st3 ?_
  have Fw3 := F2_4.same W3
  have F3_6 := F2_1.wr W3
  have F3_7 := F2_2.other W3 (Or.inr (slot_ne (Or.inl (own_w hw 54 rfl)) (Or.inl (own_w hw 108 rfl)) (by decide) (t := .int) (t' := .int) (by decide) (by decide)))
  have F3_8 := F2_3.other W3 (Or.inr (slot_ne (Or.inl (own_w hw 57 rfl)) (Or.inl (own_w hw 108 rfl)) (by decide) (t := (.array (.object "java/lang/Object"))) (t' := .int) (by decide) (by decide)))
  have F3_9 := V2.other W3 (Ne.symm (Exa.neArv F2_1 V2 (own_w hw 35 rfl)))
  have F3_10 := F2_5.wr W3
  have Ol3 := Ol2.wr W3 f6
  have K3 : Keep h0 h3 ([a1, ed] : List Addr) := K2.wr W3 (Or.inl (List.mem_of_getElem? (i := 0) rfl))
  have N3 := Fr.snoc X3 N2 f6
  refine own_leave X3 hlk (v := none) (fun _ => rfl) (fun fs hr => X3.returnOut hx Bd.returns (hb hby d30_22) hr) (by decide) (by decide) ?_
  show Q_add3_1 Z a1 m1x x1 ed ke ya0 h0 n0 _ T3.heap _
  rw [e3]
  exact ⟨rfl, N3, K3, F3_6, F3_7, F3_8, Fw3, F3_9⟩
theorem ef_add1_1 (m : MethodId) (x0 : Addr) (x1 : Addr) : entryFrame m #[(.ref x0), (.ref x1)] 2 = mkF m 0 #[vR x0, vR x1] [] := by
  first | (simp [entryFrame, mkF, argsToLocals, Value.category]; done) | rfl
def Q_add1_1 (Z : State) (a1 : Addr) (m1x : Int32) (x1 : Addr) (ed : Addr) (ke : ClassId) (ya0 : Addr) (h0 : Heap) (n0 : Nat) (v : Option Value) (h : Heap) (L : List Loc) : Prop := v = some (.int 1) ∧ Fr n0 L ∧ Keep h0 h ([a1, ed] : List Addr) ∧ Exa Z h a1 "java/util/ArrayList" ∧ Fld Z h a1 "java/util/AbstractList" "modCount" "I" (.int (m1x + (1 : Int32))) ∧ Fld Z h a1 "java/util/ArrayList" "elementData" "[Ljava/lang/Object;" (.ref ed) ∧ Fld Z h a1 "java/util/ArrayList" "size" "I" (.int 2) ∧ Arv Z h ed ke (.object "java/lang/Object") (10 : Int32) [(.ref ya0), (.ref x1), .null, .null, .null, .null, .null, .null, .null, .null] .null
set_option maxRecDepth 65536 in
set_option maxHeartbeats 40000000 in
theorem rm_add1_1 (l : Launch) (Z : State) (a0 : Array Value) (hw : ∀ d ∈ tables_1, d.before a0 Z = true) (ws : List Jvm.Cond) (wG1 : Int32) (wG3 : Value) (wG5 : Addr) (wK5 : ClassId) (cx : OwnCx Z a0 wG1 wG3 wG5 wK5) (hEL : EW Z a0 consts_1) (h0 : Heap) (n0 : Nat) (X00 : Old Z n0 h0) (a1 : Addr) (m1x : Int32) (x1 : Addr) (ed : Addr) (ke : ClassId) (ya0 : Addr) (f0 : Exa Z h0 a1 "java/util/ArrayList") (f1 : Fld Z h0 a1 "java/util/AbstractList" "modCount" "I" (.int m1x)) (f2 : Fld Z h0 a1 "java/util/ArrayList" "elementData" "[Ljava/lang/Object;" (.ref ed)) (f3 : Fld Z h0 a1 "java/util/ArrayList" "size" "I" (.int 1)) (f4 : Arv Z h0 ed ke (.object "java/lang/Object") (10 : Int32) [(.ref ya0), .null, .null, .null, .null, .null, .null, .null, .null, .null] .null) (f5 : n0 ≤ ed) (f6 : n0 ≤ a1) (f7 : Exa Z h0 x1 "java/lang/String") (hov : Ovr Z ke "java/lang/Object") :
    MetFree l mN31 (head1 (Jvm.Cond.code mN31 jdk_38_method_25_code 2 (some .boolean) :: ws) (oR 1 0 0 15)) (fun a U => a = #[(.ref a1), (.ref x1)] ∧ Z.Warmed39 U.vm ∧ U.heap = h0) (fun _ _ _ _ _ => True) (fun _ U o U' => ∃ v L, o = .returned v ∧ Q_add1_1 Z a1 m1x x1 ed ke ya0 h0 n0 v U'.heap L ∧ FrameEnd U o U' L (oR 1 0 0 15).cells (oR 1 0 0 15).slots) := by
  refine MetFree.of_bodySF (plainFor_of_name pn_13458729) hisR ?_
  intro p e s m args below meth c s₁ Bd hml0 hP hK
  obtain ⟨rfl, hZ, hh⟩ := hP
  obtain ⟨wO2, wP5, wO4, wrG3, hstr, wO5, wV5⟩ := id cx
  have hx := Bd.exec
  have hby := Bd.bytes
  have hlk := Bd.notSynchronized
  have hml : c.maxLocals = 2 := hml0
  have hown : s.vm.findClass "java/util/ArrayList" = some m.cls := findClass_of_methodNamed Bd.named
  have hnm := (name_of_methodNamed Bd.named Bd.method).1
  have X0 : Stand p l e (oR 1 0 0 15) s m #[(.ref a1), (.ref x1)] below meth c s₁ [] 0 0 := Stand.of_body Bd
  have e0 : s₁.heap = h0 := by rw [← hh, Bd.state]; rfl
  have N0 := Fr.nil n0
  have Z0 : n0 ≤ h0.size := X00.1 ▸ X00.2.1
  have K0 : Keep h0 h0 ([a1, ed] : List Addr) := Keep.refl _ _
  show OwnGoes p e below _ s₁ (entryFrame m _ _)
  refine og s₁ m 0 #[vR a1, vR x1] [] (fun tgt kgo => castTop (ef_add1_1 m a1 x1) kgo) ?_
  refine og s₁ m 2 #[vR a1, vR x1] [(.ref a1), (.ref a1)] (fun tgt kgo => ?_) ?_
  · refine XS.aloadN X0.here hx rfl (hb hby d31_0) rfl rfl ?_
    refine XS.dup X0.here hx rfl (hb hby d31_1) rfl rfl ?_
    exact kgo
  obtain ⟨T1, X1, e1, st1⟩ := getF X0 hx hZ hown (host := "") (Or.inl (own_w hw 178 rfl)) (Via.of (own_w hw 179 rfl)) e0 f1 (g := (mkF m 2 #[vR a1, vR x1] [(.ref a1), (.ref a1)])) rfl rfl (hb hby d31_2)
  refine og T1 m 5 #[vR a1, vR x1] [(.int m1x), (.ref a1)] st1 ?_
  refine og T1 m 7 #[vR a1, vR x1] [(.int (m1x + (1 : Int32))), (.ref a1)] (fun tgt kgo => ?_) ?_
  · refine XS.iconst X1.here hx rfl (hb hby d31_5) ?_
    refine XS.iadd X1.here hx rfl (hb hby d31_6) rfl ?_
    exact kgo
  obtain ⟨T2, h2, X2, e2, W2, st2⟩ := putF X1 hx hZ hown (host := "") (Or.inl (own_w hw 178 rfl)) (Via.of (own_w hw 179 rfl)) e1 f1 f0 (Or.inl (own_w hw 54 rfl)) (own_w hw 35 rfl) (ty := .int) (by decide) rfl rfl (g := (mkF m 7 #[vR a1, vR x1] [(.int (m1x + (1 : Int32))), (.ref a1)])) rfl rfl (hb hby d31_7)
  refine og T2 m 10 #[vR a1, vR x1] [] st2 ?_
  have Fw2 := f1.same W2
  have F2_1 := f0.wr W2
  have F2_2 := f2.other W2 (Or.inr (slot_ne (Or.inl (own_w hw 57 rfl)) (Or.inl (own_w hw 54 rfl)) (by decide) (t := (.array (.object "java/lang/Object"))) (t' := .int) (by decide) (by decide)))
  have F2_3 := f3.other W2 (Or.inr (slot_ne (Or.inl (own_w hw 108 rfl)) (Or.inl (own_w hw 54 rfl)) (by decide) (t := .int) (t' := .int) (by decide) (by decide)))
  have F2_4 := f4.other W2 (Ne.symm (Exa.neArv f0 f4 (own_w hw 35 rfl)))
  have F2_5 := f7.wr W2
  have Ol2 := X00.wr W2 f6
  have K2 : Keep h0 h2 ([a1, ed] : List Addr) := K0.wr W2 (Or.inl (List.mem_of_getElem? (i := 0) rfl))
  have N2 := Fr.snoc X2 N0 f6
  refine og T2 m 13 #[vR a1, vR x1] [(.ref a1), (.ref x1), (.ref a1)] (fun tgt kgo => ?_) ?_
  · refine XS.aloadN X2.here hx rfl (hb hby d31_10) rfl rfl ?_
    refine XS.aloadN X2.here hx rfl (hb hby d31_11) rfl rfl ?_
    refine XS.aloadN X2.here hx rfl (hb hby d31_12) rfl rfl ?_
    exact kgo
  obtain ⟨T3, X3, e3, st3⟩ := getF X2 hx hZ hown (host := "") (Or.inl (own_w hw 56 rfl)) Via.refl e2 F2_2 (g := (mkF m 13 #[vR a1, vR x1] [(.ref a1), (.ref x1), (.ref a1)])) rfl rfl (hb hby d31_13)
  refine og T3 m 16 #[vR a1, vR x1] [(.ref ed), (.ref x1), (.ref a1)] st3 ?_
  refine og T3 m 17 #[vR a1, vR x1] [(.ref a1), (.ref ed), (.ref x1), (.ref a1)] (fun tgt kgo => ?_) ?_
  · refine XS.aloadN X3.here hx rfl (hb hby d31_16) rfl rfl ?_
    exact kgo
  obtain ⟨T4, X4, e4, st4⟩ := getF X3 hx hZ hown (host := "") (Or.inl (own_w hw 107 rfl)) Via.refl e3 F2_3 (g := (mkF m 17 #[vR a1, vR x1] [(.ref a1), (.ref ed), (.ref x1), (.ref a1)])) rfl rfl (hb hby d31_17)
  refine og T4 m 20 #[vR a1, vR x1] [(.int 1), (.ref ed), (.ref x1), (.ref a1)] st4 ?_
  obtain ⟨cq5, q5, q5'⟩ := F2_1.cell
  obtain ⟨_, _, ⟨T5, L5, k5, n5⟩, -, X5, ⟨Lc5, hQ5, l5, y5, z5⟩, st5⟩ := X4.privateBack hx (y := mN30) hown (mvT hZ (own_w hw 180 rfl)) (mvT hZ (own_w hw 181 rfl)) (mvT hZ (own_w hw 183 rfl)) (Cond.privateMethod_at (mvP hZ (own_w hw 182 rfl) (args := #[]))) (mvT hZ (own_w hw 184 rfl)) (by decide) (backOf (W := 0) (rm_add3_1 l Z a0 hw [] wG1 wG3 wG5 wK5 cx hEL h2 n0 Ol2 a1 (m1x + (1 : Int32)) x1 ed ke ya0 F2_1 Fw2 F2_2 F2_3 F2_4 f5 f6 F2_5 hov) hZ (own_w hw 184 rfl) (own_w hw 36 rfl) (by decide) (by decide)) (g := (mkF m 20 #[vR a1, vR x1] [(.int 1), (.ref ed), (.ref x1), (.ref a1)])) rfl (by rw [hml]; rfl) (Steps.refl _) (a := a1) (by rw [e4]; exact q5) q5' (argsL := [(.ref x1), (.ref ed), (.int 1)]) (rest := []) (lenOf pd_92935056 rfl) rfl (Nat.le_of_eq rfl) (hb hby d31_20) (fun _ _ => ⟨rfl, e4, (by decide : 0 + 0 ≤ _), (by decide : 0 + 0 ≤ _)⟩)
  dsimp only [Pt.U, Pt.locs, Pt.cells, Pt.slots] at X5 l5 y5 z5 st5 hQ5
  subst l5 y5 z5
  obtain ⟨rfl, Nq5, Kq5, fq5_0, fq5_1, fq5_2, fq5_3, fq5_4⟩ := hQ5
  refine OwnGoes.tr (T' := T5) (g' := (mkF m 23 #[vR a1, vR x1] [])) st5 ?_
  have N5 := Fr.app N2 Nq5
  have F5_6 := F2_1.keep Kq5
  have F5_7 := F2_5.keep Kq5
  have Ol5 := Ol2.keep Kq5 (allS f6 (allS f5 all0))
  have K5 : Keep h0 T5.heap ([a1, ed] : List Addr) := K2.trans Kq5 (allS (Or.inl (List.mem_of_getElem? (i := 0) rfl)) (allS (Or.inl (List.mem_of_getElem? (i := 1) rfl)) all0))
  refine og T5 m 24 #[vR a1, vR x1] [(.int 1)] (fun tgt kgo => ?_) ?_
  · refine XS.iconst X5.here hx rfl (hb hby d31_23) ?_
    exact kgo
  refine own_leave X5 hlk (v := some (.int 1)) (fun h => by rw [Bd.returns] at h; cases h) (fun fs hr => retN X5 hx (t := .boolean) Bd.returns (by simp) (hb hby d31_24) (by rw [(by decide : nar .boolean (1 : Int32) = (1 : Int32))]; exact hr)) (by decide) (by decide) ?_
  show Q_add1_1 Z a1 m1x x1 ed ke ya0 h0 n0 _ T5.heap _
  exact ⟨rfl, N5, K5, fq5_0, fq5_1, fq5_2, fq5_3, fq5_4⟩
theorem ef_add3_2 (m : MethodId) (x0 : Addr) (x1 : Addr) (x2 : Addr) : entryFrame m #[(.ref x0), (.ref x1), (.ref x2), (.int 2)] 4 = mkF m 0 #[vR x0, vR x1, vR x2, vI 2] [] := by
  first | (simp [entryFrame, mkF, argsToLocals, Value.category]; done) | rfl
def Q_add3_2 (Z : State) (a1 : Addr) (m1x : Int32) (x1 : Addr) (ed : Addr) (ke : ClassId) (ya0 : Addr) (ya1 : Addr) (h0 : Heap) (n0 : Nat) (v : Option Value) (h : Heap) (L : List Loc) : Prop := v = none ∧ Fr n0 L ∧ Keep h0 h ([a1, ed] : List Addr) ∧ Exa Z h a1 "java/util/ArrayList" ∧ Fld Z h a1 "java/util/AbstractList" "modCount" "I" (.int m1x) ∧ Fld Z h a1 "java/util/ArrayList" "elementData" "[Ljava/lang/Object;" (.ref ed) ∧ Fld Z h a1 "java/util/ArrayList" "size" "I" (.int 3) ∧ Arv Z h ed ke (.object "java/lang/Object") (10 : Int32) [(.ref ya0), (.ref ya1), (.ref x1), .null, .null, .null, .null, .null, .null, .null] .null
set_option maxRecDepth 65536 in
set_option maxHeartbeats 40000000 in
theorem rm_add3_2 (l : Launch) (Z : State) (a0 : Array Value) (hw : ∀ d ∈ tables_1, d.before a0 Z = true) (ws : List Jvm.Cond) (wG1 : Int32) (wG3 : Value) (wG5 : Addr) (wK5 : ClassId) (cx : OwnCx Z a0 wG1 wG3 wG5 wK5) (hEL : EW Z a0 consts_1) (h0 : Heap) (n0 : Nat) (X00 : Old Z n0 h0) (a1 : Addr) (m1x : Int32) (x1 : Addr) (ed : Addr) (ke : ClassId) (ya0 : Addr) (ya1 : Addr) (f0 : Exa Z h0 a1 "java/util/ArrayList") (f1 : Fld Z h0 a1 "java/util/AbstractList" "modCount" "I" (.int m1x)) (f2 : Fld Z h0 a1 "java/util/ArrayList" "elementData" "[Ljava/lang/Object;" (.ref ed)) (f3 : Fld Z h0 a1 "java/util/ArrayList" "size" "I" (.int 2)) (f4 : Arv Z h0 ed ke (.object "java/lang/Object") (10 : Int32) [(.ref ya0), (.ref ya1), .null, .null, .null, .null, .null, .null, .null, .null] .null) (f5 : n0 ≤ ed) (f6 : n0 ≤ a1) (f7 : Exa Z h0 x1 "java/lang/String") (hov : Ovr Z ke "java/lang/Object") :
    MetFree l mN30 (head1 (Jvm.Cond.code mN30 jdk_38_method_24_code 4 none :: ws) (oR 0 0 0 0)) (fun a U => a = #[(.ref a1), (.ref x1), (.ref ed), (.int 2)] ∧ Z.Warmed39 U.vm ∧ U.heap = h0) (fun _ _ _ _ _ => True) (fun _ U o U' => ∃ v L, o = .returned v ∧ Q_add3_2 Z a1 m1x x1 ed ke ya0 ya1 h0 n0 v U'.heap L ∧ FrameEnd U o U' L (oR 0 0 0 0).cells (oR 0 0 0 0).slots) := by
  refine MetFree.of_bodySF (plainFor_of_name pn_13458729) hisR ?_
  intro p e s m args below meth c s₁ Bd hml0 hP hK
  obtain ⟨rfl, hZ, hh⟩ := hP
  obtain ⟨wO2, wP5, wO4, wrG3, hstr, wO5, wV5⟩ := id cx
  have hx := Bd.exec
  have hby := Bd.bytes
  have hlk := Bd.notSynchronized
  have hml : c.maxLocals = 4 := hml0
  have hown : s.vm.findClass "java/util/ArrayList" = some m.cls := findClass_of_methodNamed Bd.named
  have hnm := (name_of_methodNamed Bd.named Bd.method).1
  have X0 : Stand p l e (oR 0 0 0 0) s m #[(.ref a1), (.ref x1), (.ref ed), (.int 2)] below meth c s₁ [] 0 0 := Stand.of_body Bd
  have e0 : s₁.heap = h0 := by rw [← hh, Bd.state]; rfl
  have N0 := Fr.nil n0
  have Z0 : n0 ≤ h0.size := X00.1 ▸ X00.2.1
  have K0 : Keep h0 h0 ([a1, ed] : List Addr) := Keep.refl _ _
  show OwnGoes p e below _ s₁ (entryFrame m _ _)
  refine og s₁ m 0 #[vR a1, vR x1, vR ed, vI 2] [] (fun tgt kgo => castTop (ef_add3_2 m a1 x1 ed) kgo) ?_
  refine og s₁ m 14 #[vR a1, vR x1, vR ed, vI 2] [(.ref x1), (.int 2), (.ref ed)] (fun tgt kgo => ?_) ?_
  · refine XS.iloadN X0.here hx rfl (hb hby d30_0) rfl ?_
    refine XS.aloadN X0.here hx rfl (hb hby d30_1) rfl rfl ?_
    show OwnG p e below s₁ m 2 #[vR a1, vR x1, vR ed, vI 2] [(.ref ed), (.int 2)] tgt
    obtain ⟨cl1, Ar1, q1, S1, M1, -, -⟩ := f4
    refine X0.arraylength hx (by rw [e0]; exact Ar1.1) (State.isArrayOf_alike hZ.alike Ar1.2.1) (g := (mkF m 2 #[vR a1, vR x1, vR ed, vI 2] [(.ref ed), (.int 2)])) rfl rfl (hb hby d30_2) _ ?_
    rw [len_of S1 M1]
    show OwnG p e below s₁ m 3 #[vR a1, vR x1, vR ed, vI 2] [(.int 10), (.int 2)] tgt
    refine XS.icmpYes X0.here hx rfl (pc0 := 3) (pc' := 11) rfl (hb hby d30_3) rfl (feq (by decide : ¬ ((2 : Int32) = (10 : Int32)))).2 (by decide) (by decide) ?_
    refine XS.aloadN X0.here hx rfl (hb hby d30_11) rfl rfl ?_
    refine XS.iloadN X0.here hx rfl (hb hby d30_12) rfl ?_
    show OwnG p e below s₁ m 13 #[vR a1, vR x1, vR ed, vI 2] [(.int 2), (.ref ed)] tgt
    refine XS.aloadN X0.here hx rfl (hb hby d30_13) rfl rfl ?_
    exact kgo
  obtain ⟨cl2, Ar2, q2, S2, M2, H2, G2⟩ := id f4
  obtain ⟨T2, h2, X2, e2, W2, st2⟩ := stR X0 hx hZ e0 Ar2 (j := (2 : Int32)) (inb_of S2 ⟨by decide, by decide⟩) rfl (Sto.ofV Ar2 q2 hov (Ins.of_exa f7 (own_w hw 198 rfl))) (g := (mkF m 14 #[vR a1, vR x1, vR ed, vI 2] [(.ref x1), (.int 2), (.ref ed)])) rfl rfl (hb hby d30_14)
  refine og T2 m 15 #[vR a1, vR x1, vR ed, vI 2] [] st2 ?_
  have V2 : Arv Z h2 ed ke (.object "java/lang/Object") (10 : Int32) [(.ref ya0), (.ref ya1), (.ref x1), .null, .null, .null, .null, .null, .null, .null] .null := Arv.set Ar2 q2 S2 M2 H2 G2 rfl W2 2 rfl (Nat.le_of_ble_eq_true rfl)
  have F2_1 := f0.wr W2
  have F2_2 := f1.other W2 (Or.inl (Exa.neArv f0 f4 (own_w hw 35 rfl)))
  have F2_3 := f2.other W2 (Or.inl (Exa.neArv f0 f4 (own_w hw 35 rfl)))
  have F2_4 := f3.other W2 (Or.inl (Exa.neArv f0 f4 (own_w hw 35 rfl)))
  have F2_5 := f7.wr W2
  have Ol2 := X00.wr W2 f5
  have K2 : Keep h0 h2 ([a1, ed] : List Addr) := K0.wr W2 (Or.inl (List.mem_of_getElem? (i := 1) rfl))
  have N2 := Fr.snoc X2 N0 f5
  refine og T2 m 19 #[vR a1, vR x1, vR ed, vI 2] [(.int 3), (.ref a1)] (fun tgt kgo => ?_) ?_
  · refine XS.aloadN X2.here hx rfl (hb hby d30_15) rfl rfl ?_
    refine XS.iloadN X2.here hx rfl (hb hby d30_16) rfl ?_
    refine XS.iconst X2.here hx rfl (hb hby d30_17) ?_
    show OwnG p e below T2 m 18 #[vR a1, vR x1, vR ed, vI 2] [(.int 1), (.int 2), (.ref a1)] tgt
    refine XS.iadd X2.here hx rfl (hb hby d30_18) rfl ?_
    exact kgo
  obtain ⟨T3, h3, X3, e3, W3, st3⟩ := putF X2 hx hZ hown (host := "") (Or.inl (own_w hw 107 rfl)) Via.refl e2 F2_4 F2_1 (Or.inl (own_w hw 108 rfl)) (own_w hw 35 rfl) (ty := .int) (by decide) rfl rfl (g := (mkF m 19 #[vR a1, vR x1, vR ed, vI 2] [(.int 3), (.ref a1)])) rfl rfl (hb hby d30_19)
  refine og T3 m 22 #[vR a1, vR x1, vR ed, vI 2] [] st3 ?_
  have Fw3 := F2_4.same W3
  have F3_6 := F2_1.wr W3
  have F3_7 := F2_2.other W3 (Or.inr (slot_ne (Or.inl (own_w hw 54 rfl)) (Or.inl (own_w hw 108 rfl)) (by decide) (t := .int) (t' := .int) (by decide) (by decide)))
  have F3_8 := F2_3.other W3 (Or.inr (slot_ne (Or.inl (own_w hw 57 rfl)) (Or.inl (own_w hw 108 rfl)) (by decide) (t := (.array (.object "java/lang/Object"))) (t' := .int) (by decide) (by decide)))
  have F3_9 := V2.other W3 (Ne.symm (Exa.neArv F2_1 V2 (own_w hw 35 rfl)))
  have F3_10 := F2_5.wr W3
  have Ol3 := Ol2.wr W3 f6
  have K3 : Keep h0 h3 ([a1, ed] : List Addr) := K2.wr W3 (Or.inl (List.mem_of_getElem? (i := 0) rfl))
  have N3 := Fr.snoc X3 N2 f6
  refine own_leave X3 hlk (v := none) (fun _ => rfl) (fun fs hr => X3.returnOut hx Bd.returns (hb hby d30_22) hr) (by decide) (by decide) ?_
  show Q_add3_2 Z a1 m1x x1 ed ke ya0 ya1 h0 n0 _ T3.heap _
  rw [e3]
  exact ⟨rfl, N3, K3, F3_6, F3_7, F3_8, Fw3, F3_9⟩
theorem ef_add1_2 (m : MethodId) (x0 : Addr) (x1 : Addr) : entryFrame m #[(.ref x0), (.ref x1)] 2 = mkF m 0 #[vR x0, vR x1] [] := by
  first | (simp [entryFrame, mkF, argsToLocals, Value.category]; done) | rfl
def Q_add1_2 (Z : State) (a1 : Addr) (m1x : Int32) (x1 : Addr) (ed : Addr) (ke : ClassId) (ya0 : Addr) (ya1 : Addr) (h0 : Heap) (n0 : Nat) (v : Option Value) (h : Heap) (L : List Loc) : Prop := v = some (.int 1) ∧ Fr n0 L ∧ Keep h0 h ([a1, ed] : List Addr) ∧ Exa Z h a1 "java/util/ArrayList" ∧ Fld Z h a1 "java/util/AbstractList" "modCount" "I" (.int (m1x + (1 : Int32))) ∧ Fld Z h a1 "java/util/ArrayList" "elementData" "[Ljava/lang/Object;" (.ref ed) ∧ Fld Z h a1 "java/util/ArrayList" "size" "I" (.int 3) ∧ Arv Z h ed ke (.object "java/lang/Object") (10 : Int32) [(.ref ya0), (.ref ya1), (.ref x1), .null, .null, .null, .null, .null, .null, .null] .null
set_option maxRecDepth 65536 in
set_option maxHeartbeats 40000000 in
theorem rm_add1_2 (l : Launch) (Z : State) (a0 : Array Value) (hw : ∀ d ∈ tables_1, d.before a0 Z = true) (ws : List Jvm.Cond) (wG1 : Int32) (wG3 : Value) (wG5 : Addr) (wK5 : ClassId) (cx : OwnCx Z a0 wG1 wG3 wG5 wK5) (hEL : EW Z a0 consts_1) (h0 : Heap) (n0 : Nat) (X00 : Old Z n0 h0) (a1 : Addr) (m1x : Int32) (x1 : Addr) (ed : Addr) (ke : ClassId) (ya0 : Addr) (ya1 : Addr) (f0 : Exa Z h0 a1 "java/util/ArrayList") (f1 : Fld Z h0 a1 "java/util/AbstractList" "modCount" "I" (.int m1x)) (f2 : Fld Z h0 a1 "java/util/ArrayList" "elementData" "[Ljava/lang/Object;" (.ref ed)) (f3 : Fld Z h0 a1 "java/util/ArrayList" "size" "I" (.int 2)) (f4 : Arv Z h0 ed ke (.object "java/lang/Object") (10 : Int32) [(.ref ya0), (.ref ya1), .null, .null, .null, .null, .null, .null, .null, .null] .null) (f5 : n0 ≤ ed) (f6 : n0 ≤ a1) (f7 : Exa Z h0 x1 "java/lang/String") (hov : Ovr Z ke "java/lang/Object") :
    MetFree l mN31 (head1 (Jvm.Cond.code mN31 jdk_38_method_25_code 2 (some .boolean) :: ws) (oR 1 0 0 15)) (fun a U => a = #[(.ref a1), (.ref x1)] ∧ Z.Warmed39 U.vm ∧ U.heap = h0) (fun _ _ _ _ _ => True) (fun _ U o U' => ∃ v L, o = .returned v ∧ Q_add1_2 Z a1 m1x x1 ed ke ya0 ya1 h0 n0 v U'.heap L ∧ FrameEnd U o U' L (oR 1 0 0 15).cells (oR 1 0 0 15).slots) := by
  refine MetFree.of_bodySF (plainFor_of_name pn_13458729) hisR ?_
  intro p e s m args below meth c s₁ Bd hml0 hP hK
  obtain ⟨rfl, hZ, hh⟩ := hP
  obtain ⟨wO2, wP5, wO4, wrG3, hstr, wO5, wV5⟩ := id cx
  have hx := Bd.exec
  have hby := Bd.bytes
  have hlk := Bd.notSynchronized
  have hml : c.maxLocals = 2 := hml0
  have hown : s.vm.findClass "java/util/ArrayList" = some m.cls := findClass_of_methodNamed Bd.named
  have hnm := (name_of_methodNamed Bd.named Bd.method).1
  have X0 : Stand p l e (oR 1 0 0 15) s m #[(.ref a1), (.ref x1)] below meth c s₁ [] 0 0 := Stand.of_body Bd
  have e0 : s₁.heap = h0 := by rw [← hh, Bd.state]; rfl
  have N0 := Fr.nil n0
  have Z0 : n0 ≤ h0.size := X00.1 ▸ X00.2.1
  have K0 : Keep h0 h0 ([a1, ed] : List Addr) := Keep.refl _ _
  show OwnGoes p e below _ s₁ (entryFrame m _ _)
  refine og s₁ m 0 #[vR a1, vR x1] [] (fun tgt kgo => castTop (ef_add1_2 m a1 x1) kgo) ?_
  refine og s₁ m 2 #[vR a1, vR x1] [(.ref a1), (.ref a1)] (fun tgt kgo => ?_) ?_
  · refine XS.aloadN X0.here hx rfl (hb hby d31_0) rfl rfl ?_
    refine XS.dup X0.here hx rfl (hb hby d31_1) rfl rfl ?_
    exact kgo
  obtain ⟨T1, X1, e1, st1⟩ := getF X0 hx hZ hown (host := "") (Or.inl (own_w hw 178 rfl)) (Via.of (own_w hw 179 rfl)) e0 f1 (g := (mkF m 2 #[vR a1, vR x1] [(.ref a1), (.ref a1)])) rfl rfl (hb hby d31_2)
  refine og T1 m 5 #[vR a1, vR x1] [(.int m1x), (.ref a1)] st1 ?_
  refine og T1 m 7 #[vR a1, vR x1] [(.int (m1x + (1 : Int32))), (.ref a1)] (fun tgt kgo => ?_) ?_
  · refine XS.iconst X1.here hx rfl (hb hby d31_5) ?_
    refine XS.iadd X1.here hx rfl (hb hby d31_6) rfl ?_
    exact kgo
  obtain ⟨T2, h2, X2, e2, W2, st2⟩ := putF X1 hx hZ hown (host := "") (Or.inl (own_w hw 178 rfl)) (Via.of (own_w hw 179 rfl)) e1 f1 f0 (Or.inl (own_w hw 54 rfl)) (own_w hw 35 rfl) (ty := .int) (by decide) rfl rfl (g := (mkF m 7 #[vR a1, vR x1] [(.int (m1x + (1 : Int32))), (.ref a1)])) rfl rfl (hb hby d31_7)
  refine og T2 m 10 #[vR a1, vR x1] [] st2 ?_
  have Fw2 := f1.same W2
  have F2_1 := f0.wr W2
  have F2_2 := f2.other W2 (Or.inr (slot_ne (Or.inl (own_w hw 57 rfl)) (Or.inl (own_w hw 54 rfl)) (by decide) (t := (.array (.object "java/lang/Object"))) (t' := .int) (by decide) (by decide)))
  have F2_3 := f3.other W2 (Or.inr (slot_ne (Or.inl (own_w hw 108 rfl)) (Or.inl (own_w hw 54 rfl)) (by decide) (t := .int) (t' := .int) (by decide) (by decide)))
  have F2_4 := f4.other W2 (Ne.symm (Exa.neArv f0 f4 (own_w hw 35 rfl)))
  have F2_5 := f7.wr W2
  have Ol2 := X00.wr W2 f6
  have K2 : Keep h0 h2 ([a1, ed] : List Addr) := K0.wr W2 (Or.inl (List.mem_of_getElem? (i := 0) rfl))
  have N2 := Fr.snoc X2 N0 f6
  refine og T2 m 13 #[vR a1, vR x1] [(.ref a1), (.ref x1), (.ref a1)] (fun tgt kgo => ?_) ?_
  · refine XS.aloadN X2.here hx rfl (hb hby d31_10) rfl rfl ?_
    refine XS.aloadN X2.here hx rfl (hb hby d31_11) rfl rfl ?_
    refine XS.aloadN X2.here hx rfl (hb hby d31_12) rfl rfl ?_
    exact kgo
  obtain ⟨T3, X3, e3, st3⟩ := getF X2 hx hZ hown (host := "") (Or.inl (own_w hw 56 rfl)) Via.refl e2 F2_2 (g := (mkF m 13 #[vR a1, vR x1] [(.ref a1), (.ref x1), (.ref a1)])) rfl rfl (hb hby d31_13)
  refine og T3 m 16 #[vR a1, vR x1] [(.ref ed), (.ref x1), (.ref a1)] st3 ?_
  refine og T3 m 17 #[vR a1, vR x1] [(.ref a1), (.ref ed), (.ref x1), (.ref a1)] (fun tgt kgo => ?_) ?_
  · refine XS.aloadN X3.here hx rfl (hb hby d31_16) rfl rfl ?_
    exact kgo
  obtain ⟨T4, X4, e4, st4⟩ := getF X3 hx hZ hown (host := "") (Or.inl (own_w hw 107 rfl)) Via.refl e3 F2_3 (g := (mkF m 17 #[vR a1, vR x1] [(.ref a1), (.ref ed), (.ref x1), (.ref a1)])) rfl rfl (hb hby d31_17)
  refine og T4 m 20 #[vR a1, vR x1] [(.int 2), (.ref ed), (.ref x1), (.ref a1)] st4 ?_
  obtain ⟨cq5, q5, q5'⟩ := F2_1.cell
  obtain ⟨_, _, ⟨T5, L5, k5, n5⟩, -, X5, ⟨Lc5, hQ5, l5, y5, z5⟩, st5⟩ := X4.privateBack hx (y := mN30) hown (mvT hZ (own_w hw 180 rfl)) (mvT hZ (own_w hw 181 rfl)) (mvT hZ (own_w hw 183 rfl)) (Cond.privateMethod_at (mvP hZ (own_w hw 182 rfl) (args := #[]))) (mvT hZ (own_w hw 184 rfl)) (by decide) (backOf (W := 0) (rm_add3_2 l Z a0 hw [] wG1 wG3 wG5 wK5 cx hEL h2 n0 Ol2 a1 (m1x + (1 : Int32)) x1 ed ke ya0 ya1 F2_1 Fw2 F2_2 F2_3 F2_4 f5 f6 F2_5 hov) hZ (own_w hw 184 rfl) (own_w hw 36 rfl) (by decide) (by decide)) (g := (mkF m 20 #[vR a1, vR x1] [(.int 2), (.ref ed), (.ref x1), (.ref a1)])) rfl (by rw [hml]; rfl) (Steps.refl _) (a := a1) (by rw [e4]; exact q5) q5' (argsL := [(.ref x1), (.ref ed), (.int 2)]) (rest := []) (lenOf pd_92935056 rfl) rfl (Nat.le_of_eq rfl) (hb hby d31_20) (fun _ _ => ⟨rfl, e4, (by decide : 0 + 0 ≤ _), (by decide : 0 + 0 ≤ _)⟩)
  dsimp only [Pt.U, Pt.locs, Pt.cells, Pt.slots] at X5 l5 y5 z5 st5 hQ5
  subst l5 y5 z5
  obtain ⟨rfl, Nq5, Kq5, fq5_0, fq5_1, fq5_2, fq5_3, fq5_4⟩ := hQ5
  refine OwnGoes.tr (T' := T5) (g' := (mkF m 23 #[vR a1, vR x1] [])) st5 ?_
  have N5 := Fr.app N2 Nq5
  have F5_6 := F2_1.keep Kq5
  have F5_7 := F2_5.keep Kq5
  have Ol5 := Ol2.keep Kq5 (allS f6 (allS f5 all0))
  have K5 : Keep h0 T5.heap ([a1, ed] : List Addr) := K2.trans Kq5 (allS (Or.inl (List.mem_of_getElem? (i := 0) rfl)) (allS (Or.inl (List.mem_of_getElem? (i := 1) rfl)) all0))
  refine og T5 m 24 #[vR a1, vR x1] [(.int 1)] (fun tgt kgo => ?_) ?_
  · refine XS.iconst X5.here hx rfl (hb hby d31_23) ?_
    exact kgo
  refine own_leave X5 hlk (v := some (.int 1)) (fun h => by rw [Bd.returns] at h; cases h) (fun fs hr => retN X5 hx (t := .boolean) Bd.returns (by simp) (hb hby d31_24) (by rw [(by decide : nar .boolean (1 : Int32) = (1 : Int32))]; exact hr)) (by decide) (by decide) ?_
  show Q_add1_2 Z a1 m1x x1 ed ke ya0 ya1 h0 n0 _ T5.heap _
  exact ⟨rfl, N5, K5, fq5_0, fq5_1, fq5_2, fq5_3, fq5_4⟩
theorem ef_add3_3 (m : MethodId) (x0 : Addr) (x1 : Addr) (x2 : Addr) : entryFrame m #[(.ref x0), (.ref x1), (.ref x2), (.int 3)] 4 = mkF m 0 #[vR x0, vR x1, vR x2, vI 3] [] := by
  first | (simp [entryFrame, mkF, argsToLocals, Value.category]; done) | rfl
def Q_add3_3 (Z : State) (a1 : Addr) (m1x : Int32) (x1 : Addr) (ed : Addr) (ke : ClassId) (ya0 : Addr) (ya1 : Addr) (ya2 : Addr) (h0 : Heap) (n0 : Nat) (v : Option Value) (h : Heap) (L : List Loc) : Prop := v = none ∧ Fr n0 L ∧ Keep h0 h ([a1, ed] : List Addr) ∧ Exa Z h a1 "java/util/ArrayList" ∧ Fld Z h a1 "java/util/AbstractList" "modCount" "I" (.int m1x) ∧ Fld Z h a1 "java/util/ArrayList" "elementData" "[Ljava/lang/Object;" (.ref ed) ∧ Fld Z h a1 "java/util/ArrayList" "size" "I" (.int 4) ∧ Arv Z h ed ke (.object "java/lang/Object") (10 : Int32) [(.ref ya0), (.ref ya1), (.ref ya2), (.ref x1), .null, .null, .null, .null, .null, .null] .null
set_option maxRecDepth 65536 in
set_option maxHeartbeats 40000000 in
theorem rm_add3_3 (l : Launch) (Z : State) (a0 : Array Value) (hw : ∀ d ∈ tables_1, d.before a0 Z = true) (ws : List Jvm.Cond) (wG1 : Int32) (wG3 : Value) (wG5 : Addr) (wK5 : ClassId) (cx : OwnCx Z a0 wG1 wG3 wG5 wK5) (hEL : EW Z a0 consts_1) (h0 : Heap) (n0 : Nat) (X00 : Old Z n0 h0) (a1 : Addr) (m1x : Int32) (x1 : Addr) (ed : Addr) (ke : ClassId) (ya0 : Addr) (ya1 : Addr) (ya2 : Addr) (f0 : Exa Z h0 a1 "java/util/ArrayList") (f1 : Fld Z h0 a1 "java/util/AbstractList" "modCount" "I" (.int m1x)) (f2 : Fld Z h0 a1 "java/util/ArrayList" "elementData" "[Ljava/lang/Object;" (.ref ed)) (f3 : Fld Z h0 a1 "java/util/ArrayList" "size" "I" (.int 3)) (f4 : Arv Z h0 ed ke (.object "java/lang/Object") (10 : Int32) [(.ref ya0), (.ref ya1), (.ref ya2), .null, .null, .null, .null, .null, .null, .null] .null) (f5 : n0 ≤ ed) (f6 : n0 ≤ a1) (f7 : Exa Z h0 x1 "java/lang/String") (hov : Ovr Z ke "java/lang/Object") :
    MetFree l mN30 (head1 (Jvm.Cond.code mN30 jdk_38_method_24_code 4 none :: ws) (oR 0 0 0 0)) (fun a U => a = #[(.ref a1), (.ref x1), (.ref ed), (.int 3)] ∧ Z.Warmed39 U.vm ∧ U.heap = h0) (fun _ _ _ _ _ => True) (fun _ U o U' => ∃ v L, o = .returned v ∧ Q_add3_3 Z a1 m1x x1 ed ke ya0 ya1 ya2 h0 n0 v U'.heap L ∧ FrameEnd U o U' L (oR 0 0 0 0).cells (oR 0 0 0 0).slots) := by
  refine MetFree.of_bodySF (plainFor_of_name pn_13458729) hisR ?_
  intro p e s m args below meth c s₁ Bd hml0 hP hK
  obtain ⟨rfl, hZ, hh⟩ := hP
  obtain ⟨wO2, wP5, wO4, wrG3, hstr, wO5, wV5⟩ := id cx
  have hx := Bd.exec
  have hby := Bd.bytes
  have hlk := Bd.notSynchronized
  have hml : c.maxLocals = 4 := hml0
  have hown : s.vm.findClass "java/util/ArrayList" = some m.cls := findClass_of_methodNamed Bd.named
  have hnm := (name_of_methodNamed Bd.named Bd.method).1
  have X0 : Stand p l e (oR 0 0 0 0) s m #[(.ref a1), (.ref x1), (.ref ed), (.int 3)] below meth c s₁ [] 0 0 := Stand.of_body Bd
  have e0 : s₁.heap = h0 := by rw [← hh, Bd.state]; rfl
  have N0 := Fr.nil n0
  have Z0 : n0 ≤ h0.size := X00.1 ▸ X00.2.1
  have K0 : Keep h0 h0 ([a1, ed] : List Addr) := Keep.refl _ _
  show OwnGoes p e below _ s₁ (entryFrame m _ _)
  refine og s₁ m 0 #[vR a1, vR x1, vR ed, vI 3] [] (fun tgt kgo => castTop (ef_add3_3 m a1 x1 ed) kgo) ?_
  refine og s₁ m 14 #[vR a1, vR x1, vR ed, vI 3] [(.ref x1), (.int 3), (.ref ed)] (fun tgt kgo => ?_) ?_
  · refine XS.iloadN X0.here hx rfl (hb hby d30_0) rfl ?_
    refine XS.aloadN X0.here hx rfl (hb hby d30_1) rfl rfl ?_
    show OwnG p e below s₁ m 2 #[vR a1, vR x1, vR ed, vI 3] [(.ref ed), (.int 3)] tgt
    obtain ⟨cl1, Ar1, q1, S1, M1, -, -⟩ := f4
    refine X0.arraylength hx (by rw [e0]; exact Ar1.1) (State.isArrayOf_alike hZ.alike Ar1.2.1) (g := (mkF m 2 #[vR a1, vR x1, vR ed, vI 3] [(.ref ed), (.int 3)])) rfl rfl (hb hby d30_2) _ ?_
    rw [len_of S1 M1]
    show OwnG p e below s₁ m 3 #[vR a1, vR x1, vR ed, vI 3] [(.int 10), (.int 3)] tgt
    refine XS.icmpYes X0.here hx rfl (pc0 := 3) (pc' := 11) rfl (hb hby d30_3) rfl (feq (by decide : ¬ ((3 : Int32) = (10 : Int32)))).2 (by decide) (by decide) ?_
    refine XS.aloadN X0.here hx rfl (hb hby d30_11) rfl rfl ?_
    refine XS.iloadN X0.here hx rfl (hb hby d30_12) rfl ?_
    show OwnG p e below s₁ m 13 #[vR a1, vR x1, vR ed, vI 3] [(.int 3), (.ref ed)] tgt
    refine XS.aloadN X0.here hx rfl (hb hby d30_13) rfl rfl ?_
    exact kgo
  obtain ⟨cl2, Ar2, q2, S2, M2, H2, G2⟩ := id f4
  obtain ⟨T2, h2, X2, e2, W2, st2⟩ := stR X0 hx hZ e0 Ar2 (j := (3 : Int32)) (inb_of S2 ⟨by decide, by decide⟩) rfl (Sto.ofV Ar2 q2 hov (Ins.of_exa f7 (own_w hw 198 rfl))) (g := (mkF m 14 #[vR a1, vR x1, vR ed, vI 3] [(.ref x1), (.int 3), (.ref ed)])) rfl rfl (hb hby d30_14)
  refine og T2 m 15 #[vR a1, vR x1, vR ed, vI 3] [] st2 ?_
  have V2 : Arv Z h2 ed ke (.object "java/lang/Object") (10 : Int32) [(.ref ya0), (.ref ya1), (.ref ya2), (.ref x1), .null, .null, .null, .null, .null, .null] .null := Arv.set Ar2 q2 S2 M2 H2 G2 rfl W2 3 rfl (Nat.le_of_ble_eq_true rfl)
  have F2_1 := f0.wr W2
  have F2_2 := f1.other W2 (Or.inl (Exa.neArv f0 f4 (own_w hw 35 rfl)))
  have F2_3 := f2.other W2 (Or.inl (Exa.neArv f0 f4 (own_w hw 35 rfl)))
  have F2_4 := f3.other W2 (Or.inl (Exa.neArv f0 f4 (own_w hw 35 rfl)))
  have F2_5 := f7.wr W2
  have Ol2 := X00.wr W2 f5
  have K2 : Keep h0 h2 ([a1, ed] : List Addr) := K0.wr W2 (Or.inl (List.mem_of_getElem? (i := 1) rfl))
  have N2 := Fr.snoc X2 N0 f5
  refine og T2 m 19 #[vR a1, vR x1, vR ed, vI 3] [(.int 4), (.ref a1)] (fun tgt kgo => ?_) ?_
  · refine XS.aloadN X2.here hx rfl (hb hby d30_15) rfl rfl ?_
    refine XS.iloadN X2.here hx rfl (hb hby d30_16) rfl ?_
    refine XS.iconst X2.here hx rfl (hb hby d30_17) ?_
    show OwnG p e below T2 m 18 #[vR a1, vR x1, vR ed, vI 3] [(.int 1), (.int 3), (.ref a1)] tgt
    refine XS.iadd X2.here hx rfl (hb hby d30_18) rfl ?_
    exact kgo
  obtain ⟨T3, h3, X3, e3, W3, st3⟩ := putF X2 hx hZ hown (host := "") (Or.inl (own_w hw 107 rfl)) Via.refl e2 F2_4 F2_1 (Or.inl (own_w hw 108 rfl)) (own_w hw 35 rfl) (ty := .int) (by decide) rfl rfl (g := (mkF m 19 #[vR a1, vR x1, vR ed, vI 3] [(.int 4), (.ref a1)])) rfl rfl (hb hby d30_19)
  refine og T3 m 22 #[vR a1, vR x1, vR ed, vI 3] [] st3 ?_
  have Fw3 := F2_4.same W3
  have F3_6 := F2_1.wr W3
  have F3_7 := F2_2.other W3 (Or.inr (slot_ne (Or.inl (own_w hw 54 rfl)) (Or.inl (own_w hw 108 rfl)) (by decide) (t := .int) (t' := .int) (by decide) (by decide)))
  have F3_8 := F2_3.other W3 (Or.inr (slot_ne (Or.inl (own_w hw 57 rfl)) (Or.inl (own_w hw 108 rfl)) (by decide) (t := (.array (.object "java/lang/Object"))) (t' := .int) (by decide) (by decide)))
  have F3_9 := V2.other W3 (Ne.symm (Exa.neArv F2_1 V2 (own_w hw 35 rfl)))
  have F3_10 := F2_5.wr W3
  have Ol3 := Ol2.wr W3 f6
  have K3 : Keep h0 h3 ([a1, ed] : List Addr) := K2.wr W3 (Or.inl (List.mem_of_getElem? (i := 0) rfl))
  have N3 := Fr.snoc X3 N2 f6
  refine own_leave X3 hlk (v := none) (fun _ => rfl) (fun fs hr => X3.returnOut hx Bd.returns (hb hby d30_22) hr) (by decide) (by decide) ?_
  show Q_add3_3 Z a1 m1x x1 ed ke ya0 ya1 ya2 h0 n0 _ T3.heap _
  rw [e3]
  exact ⟨rfl, N3, K3, F3_6, F3_7, F3_8, Fw3, F3_9⟩
theorem ef_add1_3 (m : MethodId) (x0 : Addr) (x1 : Addr) : entryFrame m #[(.ref x0), (.ref x1)] 2 = mkF m 0 #[vR x0, vR x1] [] := by
  first | (simp [entryFrame, mkF, argsToLocals, Value.category]; done) | rfl
def Q_add1_3 (Z : State) (a1 : Addr) (m1x : Int32) (x1 : Addr) (ed : Addr) (ke : ClassId) (ya0 : Addr) (ya1 : Addr) (ya2 : Addr) (h0 : Heap) (n0 : Nat) (v : Option Value) (h : Heap) (L : List Loc) : Prop := v = some (.int 1) ∧ Fr n0 L ∧ Keep h0 h ([a1, ed] : List Addr) ∧ Exa Z h a1 "java/util/ArrayList" ∧ Fld Z h a1 "java/util/AbstractList" "modCount" "I" (.int (m1x + (1 : Int32))) ∧ Fld Z h a1 "java/util/ArrayList" "elementData" "[Ljava/lang/Object;" (.ref ed) ∧ Fld Z h a1 "java/util/ArrayList" "size" "I" (.int 4) ∧ Arv Z h ed ke (.object "java/lang/Object") (10 : Int32) [(.ref ya0), (.ref ya1), (.ref ya2), (.ref x1), .null, .null, .null, .null, .null, .null] .null
set_option maxRecDepth 65536 in
set_option maxHeartbeats 40000000 in
theorem rm_add1_3 (l : Launch) (Z : State) (a0 : Array Value) (hw : ∀ d ∈ tables_1, d.before a0 Z = true) (ws : List Jvm.Cond) (wG1 : Int32) (wG3 : Value) (wG5 : Addr) (wK5 : ClassId) (cx : OwnCx Z a0 wG1 wG3 wG5 wK5) (hEL : EW Z a0 consts_1) (h0 : Heap) (n0 : Nat) (X00 : Old Z n0 h0) (a1 : Addr) (m1x : Int32) (x1 : Addr) (ed : Addr) (ke : ClassId) (ya0 : Addr) (ya1 : Addr) (ya2 : Addr) (f0 : Exa Z h0 a1 "java/util/ArrayList") (f1 : Fld Z h0 a1 "java/util/AbstractList" "modCount" "I" (.int m1x)) (f2 : Fld Z h0 a1 "java/util/ArrayList" "elementData" "[Ljava/lang/Object;" (.ref ed)) (f3 : Fld Z h0 a1 "java/util/ArrayList" "size" "I" (.int 3)) (f4 : Arv Z h0 ed ke (.object "java/lang/Object") (10 : Int32) [(.ref ya0), (.ref ya1), (.ref ya2), .null, .null, .null, .null, .null, .null, .null] .null) (f5 : n0 ≤ ed) (f6 : n0 ≤ a1) (f7 : Exa Z h0 x1 "java/lang/String") (hov : Ovr Z ke "java/lang/Object") :
    MetFree l mN31 (head1 (Jvm.Cond.code mN31 jdk_38_method_25_code 2 (some .boolean) :: ws) (oR 1 0 0 15)) (fun a U => a = #[(.ref a1), (.ref x1)] ∧ Z.Warmed39 U.vm ∧ U.heap = h0) (fun _ _ _ _ _ => True) (fun _ U o U' => ∃ v L, o = .returned v ∧ Q_add1_3 Z a1 m1x x1 ed ke ya0 ya1 ya2 h0 n0 v U'.heap L ∧ FrameEnd U o U' L (oR 1 0 0 15).cells (oR 1 0 0 15).slots) := by
  refine MetFree.of_bodySF (plainFor_of_name pn_13458729) hisR ?_
  intro p e s m args below meth c s₁ Bd hml0 hP hK
  obtain ⟨rfl, hZ, hh⟩ := hP
  obtain ⟨wO2, wP5, wO4, wrG3, hstr, wO5, wV5⟩ := id cx
  have hx := Bd.exec
  have hby := Bd.bytes
  have hlk := Bd.notSynchronized
  have hml : c.maxLocals = 2 := hml0
  have hown : s.vm.findClass "java/util/ArrayList" = some m.cls := findClass_of_methodNamed Bd.named
  have hnm := (name_of_methodNamed Bd.named Bd.method).1
  have X0 : Stand p l e (oR 1 0 0 15) s m #[(.ref a1), (.ref x1)] below meth c s₁ [] 0 0 := Stand.of_body Bd
  have e0 : s₁.heap = h0 := by rw [← hh, Bd.state]; rfl
  have N0 := Fr.nil n0
  have Z0 : n0 ≤ h0.size := X00.1 ▸ X00.2.1
  have K0 : Keep h0 h0 ([a1, ed] : List Addr) := Keep.refl _ _
  show OwnGoes p e below _ s₁ (entryFrame m _ _)
  refine og s₁ m 0 #[vR a1, vR x1] [] (fun tgt kgo => castTop (ef_add1_3 m a1 x1) kgo) ?_
  refine og s₁ m 2 #[vR a1, vR x1] [(.ref a1), (.ref a1)] (fun tgt kgo => ?_) ?_
  · refine XS.aloadN X0.here hx rfl (hb hby d31_0) rfl rfl ?_
    refine XS.dup X0.here hx rfl (hb hby d31_1) rfl rfl ?_
    exact kgo
  obtain ⟨T1, X1, e1, st1⟩ := getF X0 hx hZ hown (host := "") (Or.inl (own_w hw 178 rfl)) (Via.of (own_w hw 179 rfl)) e0 f1 (g := (mkF m 2 #[vR a1, vR x1] [(.ref a1), (.ref a1)])) rfl rfl (hb hby d31_2)
  refine og T1 m 5 #[vR a1, vR x1] [(.int m1x), (.ref a1)] st1 ?_
  refine og T1 m 7 #[vR a1, vR x1] [(.int (m1x + (1 : Int32))), (.ref a1)] (fun tgt kgo => ?_) ?_
  · refine XS.iconst X1.here hx rfl (hb hby d31_5) ?_
    refine XS.iadd X1.here hx rfl (hb hby d31_6) rfl ?_
    exact kgo
  obtain ⟨T2, h2, X2, e2, W2, st2⟩ := putF X1 hx hZ hown (host := "") (Or.inl (own_w hw 178 rfl)) (Via.of (own_w hw 179 rfl)) e1 f1 f0 (Or.inl (own_w hw 54 rfl)) (own_w hw 35 rfl) (ty := .int) (by decide) rfl rfl (g := (mkF m 7 #[vR a1, vR x1] [(.int (m1x + (1 : Int32))), (.ref a1)])) rfl rfl (hb hby d31_7)
  refine og T2 m 10 #[vR a1, vR x1] [] st2 ?_
  have Fw2 := f1.same W2
  have F2_1 := f0.wr W2
  have F2_2 := f2.other W2 (Or.inr (slot_ne (Or.inl (own_w hw 57 rfl)) (Or.inl (own_w hw 54 rfl)) (by decide) (t := (.array (.object "java/lang/Object"))) (t' := .int) (by decide) (by decide)))
  have F2_3 := f3.other W2 (Or.inr (slot_ne (Or.inl (own_w hw 108 rfl)) (Or.inl (own_w hw 54 rfl)) (by decide) (t := .int) (t' := .int) (by decide) (by decide)))
  have F2_4 := f4.other W2 (Ne.symm (Exa.neArv f0 f4 (own_w hw 35 rfl)))
  have F2_5 := f7.wr W2
  have Ol2 := X00.wr W2 f6
  have K2 : Keep h0 h2 ([a1, ed] : List Addr) := K0.wr W2 (Or.inl (List.mem_of_getElem? (i := 0) rfl))
  have N2 := Fr.snoc X2 N0 f6
  refine og T2 m 13 #[vR a1, vR x1] [(.ref a1), (.ref x1), (.ref a1)] (fun tgt kgo => ?_) ?_
  · refine XS.aloadN X2.here hx rfl (hb hby d31_10) rfl rfl ?_
    refine XS.aloadN X2.here hx rfl (hb hby d31_11) rfl rfl ?_
    refine XS.aloadN X2.here hx rfl (hb hby d31_12) rfl rfl ?_
    exact kgo
  obtain ⟨T3, X3, e3, st3⟩ := getF X2 hx hZ hown (host := "") (Or.inl (own_w hw 56 rfl)) Via.refl e2 F2_2 (g := (mkF m 13 #[vR a1, vR x1] [(.ref a1), (.ref x1), (.ref a1)])) rfl rfl (hb hby d31_13)
  refine og T3 m 16 #[vR a1, vR x1] [(.ref ed), (.ref x1), (.ref a1)] st3 ?_
  refine og T3 m 17 #[vR a1, vR x1] [(.ref a1), (.ref ed), (.ref x1), (.ref a1)] (fun tgt kgo => ?_) ?_
  · refine XS.aloadN X3.here hx rfl (hb hby d31_16) rfl rfl ?_
    exact kgo
  obtain ⟨T4, X4, e4, st4⟩ := getF X3 hx hZ hown (host := "") (Or.inl (own_w hw 107 rfl)) Via.refl e3 F2_3 (g := (mkF m 17 #[vR a1, vR x1] [(.ref a1), (.ref ed), (.ref x1), (.ref a1)])) rfl rfl (hb hby d31_17)
  refine og T4 m 20 #[vR a1, vR x1] [(.int 3), (.ref ed), (.ref x1), (.ref a1)] st4 ?_
  obtain ⟨cq5, q5, q5'⟩ := F2_1.cell
  obtain ⟨_, _, ⟨T5, L5, k5, n5⟩, -, X5, ⟨Lc5, hQ5, l5, y5, z5⟩, st5⟩ := X4.privateBack hx (y := mN30) hown (mvT hZ (own_w hw 180 rfl)) (mvT hZ (own_w hw 181 rfl)) (mvT hZ (own_w hw 183 rfl)) (Cond.privateMethod_at (mvP hZ (own_w hw 182 rfl) (args := #[]))) (mvT hZ (own_w hw 184 rfl)) (by decide) (backOf (W := 0) (rm_add3_3 l Z a0 hw [] wG1 wG3 wG5 wK5 cx hEL h2 n0 Ol2 a1 (m1x + (1 : Int32)) x1 ed ke ya0 ya1 ya2 F2_1 Fw2 F2_2 F2_3 F2_4 f5 f6 F2_5 hov) hZ (own_w hw 184 rfl) (own_w hw 36 rfl) (by decide) (by decide)) (g := (mkF m 20 #[vR a1, vR x1] [(.int 3), (.ref ed), (.ref x1), (.ref a1)])) rfl (by rw [hml]; rfl) (Steps.refl _) (a := a1) (by rw [e4]; exact q5) q5' (argsL := [(.ref x1), (.ref ed), (.int 3)]) (rest := []) (lenOf pd_92935056 rfl) rfl (Nat.le_of_eq rfl) (hb hby d31_20) (fun _ _ => ⟨rfl, e4, (by decide : 0 + 0 ≤ _), (by decide : 0 + 0 ≤ _)⟩)
  dsimp only [Pt.U, Pt.locs, Pt.cells, Pt.slots] at X5 l5 y5 z5 st5 hQ5
  subst l5 y5 z5
  obtain ⟨rfl, Nq5, Kq5, fq5_0, fq5_1, fq5_2, fq5_3, fq5_4⟩ := hQ5
  refine OwnGoes.tr (T' := T5) (g' := (mkF m 23 #[vR a1, vR x1] [])) st5 ?_
  have N5 := Fr.app N2 Nq5
  have F5_6 := F2_1.keep Kq5
  have F5_7 := F2_5.keep Kq5
  have Ol5 := Ol2.keep Kq5 (allS f6 (allS f5 all0))
  have K5 : Keep h0 T5.heap ([a1, ed] : List Addr) := K2.trans Kq5 (allS (Or.inl (List.mem_of_getElem? (i := 0) rfl)) (allS (Or.inl (List.mem_of_getElem? (i := 1) rfl)) all0))
  refine og T5 m 24 #[vR a1, vR x1] [(.int 1)] (fun tgt kgo => ?_) ?_
  · refine XS.iconst X5.here hx rfl (hb hby d31_23) ?_
    exact kgo
  refine own_leave X5 hlk (v := some (.int 1)) (fun h => by rw [Bd.returns] at h; cases h) (fun fs hr => retN X5 hx (t := .boolean) Bd.returns (by simp) (hb hby d31_24) (by rw [(by decide : nar .boolean (1 : Int32) = (1 : Int32))]; exact hr)) (by decide) (by decide) ?_
  show Q_add1_3 Z a1 m1x x1 ed ke ya0 ya1 ya2 h0 n0 _ T5.heap _
  exact ⟨rfl, N5, K5, fq5_0, fq5_1, fq5_2, fq5_3, fq5_4⟩
theorem own_oc0 {r n i c k : Int32} (h : (r = (1 : Int32) ∧ (i < n ∧ c = 47)) ∨ (r = (0 : Int32) ∧ ¬ (i < n ∧ c = 47))) (q : r = (0 : Int32)) : k = oc n i c k := by
  rcases h with ⟨a, -⟩ | ⟨-, b⟩
  · rw [a] at q; exact absurd q (by decide)
  · exact (if_neg b).symm
theorem own_oc1 {r n i c k : Int32} (h : (r = (1 : Int32) ∧ (i < n ∧ c = 47)) ∨ (r = (0 : Int32) ∧ ¬ (i < n ∧ c = 47))) (q : ¬ r = (0 : Int32)) : k + 1 = oc n i c k := by
  rcases h with ⟨-, b⟩ | ⟨a, -⟩
  · exact (if_pos b).symm
  · exact absurd a q
theorem own_mod5 (x : Int32) : OwnN ((x &&& (2147483647 : Int32)) % (5 : Int32)) := by
  have h : (x &&& 2147483647).toBitVec.toNat < 2147483648 := by
    simp only [Int32.toBitVec_and, BitVec.toNat_and]
    exact Nat.lt_succ_of_le Nat.and_le_right
  have e : (x &&& 2147483647).toInt = ((x &&& 2147483647).toBitVec.toNat : Int) := BitVec.toInt_eq_toNat_of_lt (by omega)
  have e5 : (5 : Int32).toInt = 5 := rfl
  have em : ((x &&& 2147483647) % 5).toInt = (x &&& 2147483647).toInt.tmod 5 := by rw [Int32.toInt_mod, e5]
  have hb : 0 ≤ (x &&& 2147483647).toInt.tmod 5 ∧ (x &&& 2147483647).toInt.tmod 5 < 5 := by rw [Int.tmod_eq_emod_of_nonneg (by omega)]; omega
  have key : ∀ k : Int32, ((x &&& 2147483647) % 5).toInt = k.toInt → ((x &&& 2147483647) % 5) = k := fun k q => Int32.toInt_inj.mp q
  have e0 : (0 : Int32).toInt = 0 := rfl
  have e1 : (1 : Int32).toInt = 1 := rfl
  have e2 : (2 : Int32).toInt = 2 := rfl
  have e3 : (3 : Int32).toInt = 3 := rfl
  have e4 : (4 : Int32).toInt = 4 := rfl
  rcases (by omega : (x &&& 2147483647).toInt.tmod 5 = 0 ∨ (x &&& 2147483647).toInt.tmod 5 = 1 ∨ (x &&& 2147483647).toInt.tmod 5 = 2 ∨ (x &&& 2147483647).toInt.tmod 5 = 3 ∨ (x &&& 2147483647).toInt.tmod 5 = 4) with q | q | q | q | q
  · exact Or.inl (key 0 (by omega))
  · exact Or.inr (Or.inl (key 1 (by omega)))
  · exact Or.inr (Or.inr (Or.inl (key 2 (by omega))))
  · exact Or.inr (Or.inr (Or.inr (Or.inl (key 3 (by omega)))))
  · exact Or.inr (Or.inr (Or.inr (Or.inr (key 4 (by omega)))))
theorem own_tl {n c1 c2 c3 c4 : Int32} (hn : OwnN n) : (oT n c1 c2 c3 c4).length ≤ 4 := by
  show (List.take _ _).length ≤ 4
  rw [List.length_take]; exact Nat.min_le_right _ _
theorem ef_segm (m : MethodId) (x0 : Addr) : entryFrame m #[(.ref x0)] 4 = mkF m 0 #[vR x0, vU, vU, vU] [] := by
  first | (simp [entryFrame, mkF, argsToLocals, Value.category]; done) | rfl
def Q_segm (Z : State) (a1 : Addr) (ta : Addr) (ka : ClassId) (na : Int32) (vsa : List Value) (cs1 : List Int32) (h0 : Heap) (n0 : Nat) (v : Option Value) (h : Heap) (L : List Loc) : Prop := ∃ (x : Addr), v = some (.ref x) ∧ Fr n0 L ∧ Keep h0 h ([] : List Addr) ∧ (OwnSegs Z h x (own_segs cs1))
theorem pn_8629437 : plainName "com/example/kindling/kindling/web/PathTemplate" = true := by first | (simp [plainName, overriddenIn]; done) | decide +kernel
theorem d32_0 : decode prog_40_method_8_code 0 = .ok (.new 35, 3) := by decide +kernel
theorem d32_3 : decode prog_40_method_8_code 3 = .ok (.dup, 1) := by decide +kernel
theorem d32_4 : decode prog_40_method_8_code 4 = .ok (.invokespecial 37, 3) := by decide +kernel
theorem d32_7 : decode prog_40_method_8_code 7 = .ok (.astore_n 1, 1) := by decide +kernel
theorem d32_8 : decode prog_40_method_8_code 8 = .ok (.aload_n 0, 1) := by decide +kernel
theorem d32_9 : decode prog_40_method_8_code 9 = .ok (.bipush 47, 2) := by decide +kernel
theorem d32_11 : decode prog_40_method_8_code 11 = .ok (.invokevirtual 94, 3) := by decide +kernel
theorem pd_92649053 : parseMethodDescriptor "(I)I" = some ⟨[.int], some .int⟩ := by decide +kernel
theorem d32_14 : decode prog_40_method_8_code 14 = .ok (.istore_n 2, 1) := by decide +kernel
theorem d32_15 : decode prog_40_method_8_code 15 = .ok (.iload_n 2, 1) := by decide +kernel
theorem d32_16 : decode prog_40_method_8_code 16 = .ok (.ifCond .lt 44, 3) := by decide +kernel
theorem d32_60 : decode prog_40_method_8_code 60 = .ok (.aload_n 1, 1) := by decide +kernel
theorem d32_61 : decode prog_40_method_8_code 61 = .ok (.areturn, 1) := by decide +kernel
theorem d32_19 : decode prog_40_method_8_code 19 = .ok (.aload_n 0, 1) := by decide +kernel
theorem d32_20 : decode prog_40_method_8_code 20 = .ok (.bipush 47, 2) := by decide +kernel
theorem d32_22 : decode prog_40_method_8_code 22 = .ok (.iload_n 2, 1) := by decide +kernel
theorem d32_23 : decode prog_40_method_8_code 23 = .ok (.iconst 1, 1) := by decide +kernel
theorem d32_24 : decode prog_40_method_8_code 24 = .ok (.iadd, 1) := by decide +kernel
theorem d32_25 : decode prog_40_method_8_code 25 = .ok (.invokevirtual 126, 3) := by decide +kernel
theorem d32_28 : decode prog_40_method_8_code 28 = .ok (.istore_n 3, 1) := by decide +kernel
theorem d32_29 : decode prog_40_method_8_code 29 = .ok (.aload_n 1, 1) := by decide +kernel
theorem d32_30 : decode prog_40_method_8_code 30 = .ok (.aload_n 0, 1) := by decide +kernel
theorem d32_31 : decode prog_40_method_8_code 31 = .ok (.iload_n 2, 1) := by decide +kernel
theorem d32_32 : decode prog_40_method_8_code 32 = .ok (.iconst 1, 1) := by decide +kernel
theorem d32_33 : decode prog_40_method_8_code 33 = .ok (.iadd, 1) := by decide +kernel
theorem d32_34 : decode prog_40_method_8_code 34 = .ok (.iload_n 3, 1) := by decide +kernel
theorem d32_35 : decode prog_40_method_8_code 35 = .ok (.ifCond .ge 10, 3) := by decide +kernel
theorem d32_38 : decode prog_40_method_8_code 38 = .ok (.aload_n 0, 1) := by decide +kernel
theorem d32_39 : decode prog_40_method_8_code 39 = .ok (.invokevirtual 65, 3) := by decide +kernel
theorem d32_42 : decode prog_40_method_8_code 42 = .ok (.goto 4, 3) := by decide +kernel
theorem d32_46 : decode prog_40_method_8_code 46 = .ok (.invokevirtual 69, 3) := by decide +kernel
theorem pd_28541291 : parseMethodDescriptor "(II)Ljava/lang/String;" = some ⟨[.int, .int], some (.object "java/lang/String")⟩ := by decide +kernel
theorem d32_49 : decode prog_40_method_8_code 49 = .ok (.invokeinterface 88 2, 5) := by decide +kernel
theorem pd_81697300 : parseMethodDescriptor "(Ljava/lang/Object;)Z" = some ⟨[(.object "java/lang/Object")], some .boolean⟩ := by decide +kernel
theorem d32_54 : decode prog_40_method_8_code 54 = .ok (.pop, 1) := by decide +kernel
theorem d32_55 : decode prog_40_method_8_code 55 = .ok (.iload_n 3, 1) := by decide +kernel
theorem d32_56 : decode prog_40_method_8_code 56 = .ok (.istore_n 2, 1) := by decide +kernel
theorem d32_57 : decode prog_40_method_8_code 57 = .ok (.goto (-42), 3) := by decide +kernel
theorem d32_45 : decode prog_40_method_8_code 45 = .ok (.iload_n 3, 1) := by decide +kernel
set_option maxRecDepth 65536 in
set_option maxHeartbeats 40000000 in
theorem rm_segm (l : Launch) (Z : State) (a0 : Array Value) (hw : ∀ d ∈ tables_1, d.before a0 Z = true) (ws : List Jvm.Cond) (wG1 : Int32) (wG3 : Value) (wG5 : Addr) (wK5 : ClassId) (cx : OwnCx Z a0 wG1 wG3 wG5 wK5) (hEL : EW Z a0 consts_1) (h0 : Heap) (n0 : Nat) (X00 : Old Z n0 h0) (a1 : Addr) (ta : Addr) (ka : ClassId) (na : Int32) (vsa : List Value) (cs1 : List Int32) (f0 : Exa Z h0 a1 "java/lang/String") (f1 : Fld Z h0 a1 "java/lang/String" "value" "[B" (.ref ta)) (f2 : Fld Z h0 a1 "java/lang/String" "coder" "B" (.int 0)) (f3 : Arv Z h0 ta ka .byte na vsa (.int 0)) (hos : OwnStr cs1 (0 : Int32) na vsa) (hc4 : cs1.length ≤ 4) :
    MetFree l mN32 (head1 (Jvm.Cond.code mN32 prog_40_method_8_code 4 (some (.object "java/util/List")) :: ws) (oR 5 10 45 81)) (fun a U => a = #[(.ref a1)] ∧ Z.Warmed39 U.vm ∧ U.heap = h0 ∧ CHv Z consts_1 U.vm h0) (fun _ _ _ _ _ => True) (fun _ U o U' => ∃ v L, o = .returned v ∧ Q_segm Z a1 ta ka na vsa cs1 h0 n0 v U'.heap L ∧ CHr Z consts_1 U.vm U.heap U'.vm U'.heap ∧ ReturnedEndW U o U' L (oR 5 10 45 81).cells (oR 5 10 45 81).slots) := by
  refine MetFree.of_bodySF (plainFor_of_name pn_8629437) hisR ?_
  intro p e s m args below meth c s₁ Bd hml0 hP hK
  obtain ⟨rfl, hZ, hh, hH⟩ := hP
  obtain ⟨wO2, wP5, wO4, wrG3, hstr, wO5, wV5⟩ := id cx
  have hx := Bd.exec
  have hby := Bd.bytes
  have hlk := Bd.notSynchronized
  have hml : c.maxLocals = 4 := hml0
  have hown : s.vm.findClass "com/example/kindling/kindling/web/PathTemplate" = some m.cls := findClass_of_methodNamed Bd.named
  have hnm := (name_of_methodNamed Bd.named Bd.method).1
  have X0 : Stand p l e (oR 5 10 45 81) (s.setVm s.vm) m #[(.ref a1)] below meth c s₁ [] 0 0 := Stand.of_body Bd
  have e0 : s₁.heap = h0 := by rw [← hh, Bd.state]; rfl
  have N0 := Fr.nil n0
  have Z0 : n0 ≤ h0.size := X00.1 ▸ X00.2.1
  have K0 : Keep h0 h0 ([] : List Addr) := Keep.refl _ _
  have R0 : CHr Z consts_1 s.vm h0 s.vm h0 := CHr.refl hH
  have hS0 : s.Since s.vm h0.size := State.WarmedH.since (State.WarmedH.refl s) _
  have hk0 : h0.size ≤ h0.size := Nat.le_refl _
  have fg_wG5_0 := wV5.ext X00.2
  have lt_wG5 : wG5 < n0 := X00.1 ▸ wV5.lt
  show OwnGoes p e below _ s₁ (entryFrame m _ _)
  refine og s₁ m 0 #[vR a1, vU, vU, vU] [] (fun tgt kgo => castTop (ef_segm m a1) kgo) ?_
  obtain ⟨T1, h1, X1, e1, E1, A1, D1, U1, st1⟩ := newO X0 hx hZ hown (own_w hw 34 rfl) (own_w hw 35 rfl) (own_w hw 36 rfl) e0 (g := (mkF m 0 #[vR a1, vU, vU, vU] [])) rfl (hb hby d32_0) (by decide) (by decide)
  obtain ⟨b1, g1⟩ : ∃ z, z = h0.size := ⟨_, rfl⟩
  rw [← g1] at A1 D1 U1 st1
  refine og T1 m 3 #[vR a1, vU, vU, vU] [(.ref b1)] st1 ?_
  have ne_a1_b1 : a1 ≠ b1 := Nat.ne_of_lt (Nat.lt_of_lt_of_le f0.lt (Nat.le_of_eq g1.symm))
  have ne_ta_b1 : ta ≠ b1 := Nat.ne_of_lt (Nat.lt_of_lt_of_le f3.lt (Nat.le_of_eq g1.symm))
  have ne_wG5_b1 : wG5 ≠ b1 := Nat.ne_of_lt (Nat.lt_of_lt_of_le fg_wG5_0.lt (Nat.le_of_eq g1.symm))
  have g_b1 : n0 ≤ b1 := Nat.le_trans (Nat.le_trans Z0 K0.1) (Nat.le_of_eq g1.symm)
  have s_b1 : h0.size ≤ b1 := Nat.le_trans K0.1 (Nat.le_of_eq g1.symm)
  have Sf1 : Safe Z consts_1 s.vm h1 b1 := Safe.ext E1 R0.1 (Safe.new (Nat.le_of_eq g1.symm))
  have F1_1 := f0.ext E1
  have F1_2 := f1.ext E1
  have F1_3 := f2.ext E1
  have F1_4 := f3.ext E1
  have F1_5 := fg_wG5_0.ext E1
  have Ol1 := X00.ext E1
  have K1 : Keep h0 h1 ([] : List Addr) := K0.ext E1
  have R1 := R0.trans (CHr.ext E1 R0.1)
  have hk1 := Nat.le_trans hk0 E1.1
  have F1_6 : Fld Z h1 b1 "java/util/AbstractList" "modCount" "I" (.int 0) := D1 (Or.inl (own_w hw 54 rfl)) (ty := .int) (by decide)
  have F1_7 : Fld Z h1 b1 "java/util/ArrayList" "elementData" "[Ljava/lang/Object;" .null := D1 (Or.inl (own_w hw 57 rfl)) (ty := (.array (.object "java/lang/Object"))) (by decide)
  have F1_8 : Fld Z h1 b1 "java/util/ArrayList" "size" "I" (.int 0) := D1 (Or.inl (own_w hw 108 rfl)) (ty := .int) (by decide)
  refine og T1 m 4 #[vR a1, vU, vU, vU] [(.ref b1), (.ref b1)] (fun tgt kgo => ?_) ?_
  · refine XS.dup X1.here hx rfl (hb hby d32_3) rfl rfl ?_
    exact kgo
  obtain ⟨_, _, ⟨T2, L2, k2, n2⟩, -, X2, ⟨Lc2, hQ2, l2, y2, z2⟩, st2⟩ := X1.specialBack hx (y := mN27) rfl hown (mvT hZ (own_w hw 37 rfl)) (mvT hZ (own_w hw 38 rfl)) (mvT hZ (own_w hw 39 rfl)) (by decide) (backOf (W := 1) (rm_ali l Z a0 hw [] wG1 wG3 wG5 wK5 cx hEL h1 n0 Ol1 b1 (.int 0) .null A1 F1_6 F1_7 F1_8 g_b1) hZ (own_w hw 39 rfl) (own_w hw 36 rfl) (by decide) (by decide)) (g := (mkF m 4 #[vR a1, vU, vU, vU] [(.ref b1), (.ref b1)])) rfl (by rw [hml]; rfl) (Steps.refl _) (a := b1) (argsL := []) (rest := [(.ref b1)]) (lenOf pd_57008992 rfl) rfl (Nat.le_of_eq rfl) (hb hby d32_4) (fun _ _ => ⟨rfl, e1, (by decide : 1 + 0 ≤ _), (by decide : 3 + 0 ≤ _)⟩)
  dsimp only [Pt.U, Pt.locs, Pt.cells, Pt.slots] at X2 l2 y2 z2 st2 hQ2
  subst l2 y2 z2
  obtain ⟨rfl, Nq2, Kq2, fq2_0, fq2_1, fq2_2, fq2_3⟩ := hQ2
  refine OwnGoes.tr (T' := T2) (g' := (mkF m 7 #[vR a1, vU, vU, vU] [(.ref b1)])) st2 ?_
  have N2 := Fr.app N0 Nq2
  have F2_9 := F1_1.keep Kq2
  have F2_10 := F1_2.keep Kq2 (ninS ne_a1_b1 nin0)
  have F2_11 := F1_3.keep Kq2 (ninS ne_a1_b1 nin0)
  have F2_12 := F1_4.keep Kq2 (ninS ne_ta_b1 nin0)
  have F2_13 := F1_5.keep Kq2 (ninS ne_wG5_b1 nin0)
  have F2_14 := Safe.keep Kq2 (sfS Sf1 sf0) R1.1 Sf1
  have F2_15 := A1.keep Kq2
  have Ol2 := Ol1.keep Kq2 (allS g_b1 all0)
  have K2 : Keep h0 T2.heap ([] : List Addr) := K1.trans Kq2 (allS (Or.inr s_b1) all0)
  have R2 := R1.trans (CHr.keep Kq2 (sfS Sf1 sf0) R1.1)
  have hk2 := Nat.le_trans hk1 Kq2.1
  refine og T2 m 11 #[vR a1, vR b1, vU, vU] [(.int 47), (.ref a1)] (fun tgt kgo => ?_) ?_
  · refine XS.astoreN X2.here hx rfl (hb hby d32_7) rfl rfl (l' := #[vR a1, vR b1, vU, vU]) rfl ?_
    refine XS.aloadN X2.here hx rfl (hb hby d32_8) rfl rfl ?_
    refine XS.bipush X2.here hx rfl (hb hby d32_9) ?_
    exact kgo
  obtain ⟨cq3, kq3, q3a, q3b, q3c⟩ := isOf (s := (s.setVm s.vm)) hZ rfl F2_9
  obtain ⟨_, _, ⟨T3, L3, k3, n3⟩, -, X3, ⟨Lc3, hQ3, l3, y3, z3⟩, st3⟩ := X2.virtualBack hx (y := mN16) (z := mN16) hown (mvT hZ (own_w hw 58 rfl)) (mvT hZ (own_w hw 59 rfl)) (notFace_of_selects (args := #[]) (mvT hZ (own_w hw 61 rfl))) (mvT hZ (own_w hw 61 rfl)) (mvT hZ (own_w hw 60 rfl)) (by decide) (backOf (W := 0) (rm_si0 l Z a0 hw [] wG1 wG3 wG5 wK5 cx hEL T2.heap n0 Ol2 a1 ta ka na vsa cs1 F2_9 F2_10 F2_11 F2_12 hos) hZ (own_w hw 62 rfl) (own_w hw 11 rfl) (by decide) (by decide)) q3a q3c (g := (mkF m 11 #[vR a1, vR b1, vU, vU] [(.int 47), (.ref a1)])) rfl (by rw [hml]; rfl) (Steps.refl _) (argsL := [(.int 47)]) (rest := []) (lenOf pd_92649053 rfl) rfl (Nat.le_of_eq rfl) (hb hby d32_11) (fun _ _ => ⟨rfl, rfl, (by decide : 1 + 0 ≤ _), (by decide : 3 + 0 ≤ _)⟩)
  dsimp only [Pt.U, Pt.locs, Pt.cells, Pt.slots] at X3 l3 y3 z3 st3 hQ3
  subst l3 y3 z3
  obtain ⟨r_3, rfl, Nq3, eq3, pq3_0⟩ := hQ3
  refine OwnGoes.tr (T' := T3) (g' := (mkF m 14 #[vR a1, vR b1, vU, vU] [(.int r_3)])) st3 ?_
  have N3 := Fr.app N2 Nq3
  rcases pq3_0 with ⟨rfl, hA0⟩ | ⟨ja0, rfl, hsa0, hsb0, hsc0, hsd0⟩
  · skip
    refine og T3 m 61 #[vR a1, vR b1, vI (-1), vU] [(.ref b1)] (fun tgt kgo => ?_) ?_
    · refine XS.istoreN X3.here hx rfl (hb hby d32_14) rfl (l' := #[vR a1, vR b1, vI (-1), vU]) rfl ?_
      refine XS.iloadN X3.here hx rfl (hb hby d32_15) rfl ?_
      refine XS.ifYes X3.here hx rfl (pc0 := 16) (pc' := 60) rfl (hb hby d32_16) rfl ((if0 _ _).trans (tlt (by decide : (-1 : Int32) < (0 : Int32))).1) (by decide) (by decide) ?_
      show OwnG p e below T3 m 60 #[vR a1, vR b1, vI (-1), vU] [] tgt
      refine XS.aloadN X3.here hx rfl (hb hby d32_60) rfl rfl ?_
      exact kgo
    have hSeg : OwnSegs Z T2.heap b1 (own_segs cs1) := by
      rw [(own_i1 hA0)]
      refine ⟨_, _, _, _, fq2_0, fq2_3, fq2_2, F2_13, Nat.le_of_ble_eq_true rfl, ?_⟩
      intro k hk
      exact absurd hk (Nat.not_lt_zero _)
    have hret : ∀ fs, (∀ (f : JFrame) (acts : List Action), f.method = m → f.locked = none → f.entered = [] → (doReturn e (T3.setTop f) acts (some (.ref b1))).1 = T3.setFrames fs) → Steps p.tables e below (T3.setTop (mkF m 61 #[vR a1, vR b1, vI (-1), vU] [(.ref b1)])) (T3.setFrames fs) := by
      intro fs hr
      jvm_step X3.here [X3.here.top, hx, (hb hby d32_61), X3.method', Bd.returns, Value.isRef, FieldType.isReference]
      first | (intro acts; rw [hr _ acts rfl rfl rfl]) | rw [hr _ _ rfl rfl rfl]
      exact Steps.refl _
    refine own_leaveW (Z := Z) (EL := consts_1) X3 hS0 (eq3 ▸ hk2) hlk (v := some (.ref b1)) (fun h => by rw [Bd.returns] at h; cases h) hret (by decide) (by decide) ?_ ?_
    · rw [hh, eq3]
      exact R2.trans (CHv.at X3 hZ hEL R2.1)
    show Q_segm Z a1 ta ka na vsa cs1 h0 n0 _ T3.heap _
    rw [eq3]
    exact ⟨b1, rfl, N3, K2, hSeg⟩
  refine og T3 m 25 #[vR a1, vR b1, vI (Int32.ofNat ja0), vU] [(.int ((Int32.ofNat ja0) + (1 : Int32))), (.int 47), (.ref a1)] (fun tgt kgo => ?_) ?_
  · refine XS.istoreN X3.here hx rfl (hb hby d32_14) rfl (l' := #[vR a1, vR b1, vI (Int32.ofNat ja0), vU]) rfl ?_
    refine XS.iloadN X3.here hx rfl (hb hby d32_15) rfl ?_
    refine XS.ifNo X3.here hx rfl (hb hby d32_16) rfl ((if0 _ _).trans (flt (own_nat (by omega)).2.1).1) ?_
    show OwnG p e below T3 m 19 #[vR a1, vR b1, vI (Int32.ofNat ja0), vU] [] tgt
    refine XS.aloadN X3.here hx rfl (hb hby d32_19) rfl rfl ?_
    refine XS.bipush X3.here hx rfl (hb hby d32_20) ?_
    refine XS.iloadN X3.here hx rfl (hb hby d32_22) rfl ?_
    show OwnG p e below T3 m 23 #[vR a1, vR b1, vI (Int32.ofNat ja0), vU] [(.int (Int32.ofNat ja0)), (.int 47), (.ref a1)] tgt
    refine XS.iconst X3.here hx rfl (hb hby d32_23) ?_
    refine XS.iadd X3.here hx rfl (hb hby d32_24) rfl ?_
    exact kgo
  refine og T3 m 25 #[vR a1, vR b1, vI (Int32.ofNat ja0), vU] [(.int (Int32.ofNat (ja0 + 1))), (.int 47), (.ref a1)] (fun tgt kgo => castTop (by rw [(own_add1 ja0)]) kgo) ?_
  obtain ⟨cq5, kq5, q5a, q5b, q5c⟩ := isOf (s := (s.setVm s.vm)) hZ eq3 F2_9
  obtain ⟨_, _, ⟨T5, L5, k5, n5⟩, -, X5, ⟨Lc5, hQ5, l5, y5, z5⟩, st5⟩ := X3.virtualBack hx (y := mN15) (z := mN15) hown (mvT hZ (own_w hw 134 rfl)) (mvT hZ (own_w hw 64 rfl)) (notFace_of_selects (args := #[]) (mvT hZ (own_w hw 66 rfl))) (mvT hZ (own_w hw 66 rfl)) (mvT hZ (own_w hw 65 rfl)) (by decide) (backOf (W := 0) (rm_sio l Z a0 hw [] wG1 wG3 wG5 wK5 cx hEL T2.heap n0 Ol2 a1 ta ka na vsa cs1 (ja0 + 1) F2_9 F2_10 F2_11 F2_12 hos (by omega)) hZ (own_w hw 67 rfl) (own_w hw 11 rfl) (by decide) (by decide)) q5a q5c (g := (mkF m 25 #[vR a1, vR b1, vI (Int32.ofNat ja0), vU] [(.int (Int32.ofNat (ja0 + 1))), (.int 47), (.ref a1)])) rfl (by rw [hml]; rfl) (Steps.refl _) (argsL := [(.int 47), (.int (Int32.ofNat (ja0 + 1)))]) (rest := []) (lenOf pd_50523903 rfl) rfl (Nat.le_of_eq rfl) (hb hby d32_25) (fun _ _ => ⟨rfl, eq3, (by decide : 1 + 0 ≤ _), (by decide : 3 + 0 ≤ _)⟩)
  dsimp only [Pt.U, Pt.locs, Pt.cells, Pt.slots] at X5 l5 y5 z5 st5 hQ5
  subst l5 y5 z5
  obtain ⟨r_5, rfl, Nq5, eq5, pq5_0⟩ := hQ5
  refine OwnGoes.tr (T' := T5) (g' := (mkF m 28 #[vR a1, vR b1, vI (Int32.ofNat ja0), vU] [(.int r_5)])) st5 ?_
  have N5 := Fr.app N3 Nq5
  rcases pq5_0 with ⟨rfl, hA1⟩ | ⟨ja1, rfl, hsa1, hsb1, hsc1, hsd1⟩
  · skip
    refine og T5 m 34 #[vR a1, vR b1, vI (Int32.ofNat ja0), vI (-1)] [(.int ((Int32.ofNat ja0) + (1 : Int32))), (.ref a1), (.ref b1)] (fun tgt kgo => ?_) ?_
    · refine XS.istoreN X5.here hx rfl (hb hby d32_28) rfl (l' := #[vR a1, vR b1, vI (Int32.ofNat ja0), vI (-1)]) rfl ?_
      refine XS.aloadN X5.here hx rfl (hb hby d32_29) rfl rfl ?_
      refine XS.aloadN X5.here hx rfl (hb hby d32_30) rfl rfl ?_
      show OwnG p e below T5 m 31 #[vR a1, vR b1, vI (Int32.ofNat ja0), vI (-1)] [(.ref a1), (.ref b1)] tgt
      refine XS.iloadN X5.here hx rfl (hb hby d32_31) rfl ?_
      refine XS.iconst X5.here hx rfl (hb hby d32_32) ?_
      refine XS.iadd X5.here hx rfl (hb hby d32_33) rfl ?_
      exact kgo
    refine og T5 m 34 #[vR a1, vR b1, vI (Int32.ofNat ja0), vI (-1)] [(.int (Int32.ofNat (ja0 + 1))), (.ref a1), (.ref b1)] (fun tgt kgo => castTop (by rw [(own_add1 ja0)]) kgo) ?_
    refine og T5 m 39 #[vR a1, vR b1, vI (Int32.ofNat ja0), vI (-1)] [(.ref a1), (.int (Int32.ofNat (ja0 + 1))), (.ref a1), (.ref b1)] (fun tgt kgo => ?_) ?_
    · refine XS.iloadN X5.here hx rfl (hb hby d32_34) rfl ?_
      refine XS.ifNo X5.here hx rfl (hb hby d32_35) rfl ((if0 _ _).trans (tlt (by decide : (-1 : Int32) < (0 : Int32))).2.1) ?_
      refine XS.aloadN X5.here hx rfl (hb hby d32_38) rfl rfl ?_
      exact kgo
    obtain ⟨cq6, kq6, q6a, q6b, q6c⟩ := isOf (s := (s.setVm s.vm)) hZ eq5 F2_9
    obtain ⟨_, _, ⟨T6, L6, k6, n6⟩, -, X6, ⟨Lc6, hQ6, l6, y6, z6⟩, st6⟩ := X5.virtualBack hx (y := mN3) (z := mN3) hown (mvT hZ (own_w hw 199 rfl)) (mvT hZ (own_w hw 75 rfl)) (notFace_of_selects (args := #[]) (mvT hZ (own_w hw 77 rfl))) (mvT hZ (own_w hw 77 rfl)) (mvT hZ (own_w hw 76 rfl)) (by decide) (backOf (W := 3) (rm_len l Z a0 hw [] wG1 wG3 wG5 wK5 cx hEL T2.heap n0 Ol2 a1 ta ka na vsa F2_9 F2_10 F2_11 F2_12) hZ (own_w hw 78 rfl) (own_w hw 11 rfl) (by decide) (by decide)) q6a q6c (g := (mkF m 39 #[vR a1, vR b1, vI (Int32.ofNat ja0), vI (-1)] [(.ref a1), (.int (Int32.ofNat (ja0 + 1))), (.ref a1), (.ref b1)])) rfl (by rw [hml]; rfl) (Steps.refl _) (argsL := []) (rest := [(.int (Int32.ofNat (ja0 + 1))), (.ref a1), (.ref b1)]) (lenOf pd_86913941 rfl) rfl (Nat.le_of_eq rfl) (hb hby d32_39) (fun _ _ => ⟨rfl, eq5, (by decide : 1 + 0 ≤ _), (by decide : 3 + 0 ≤ _)⟩)
    dsimp only [Pt.U, Pt.locs, Pt.cells, Pt.slots] at X6 l6 y6 z6 st6 hQ6
    subst l6 y6 z6
    obtain ⟨rfl, Nq6, eq6⟩ := hQ6
    refine OwnGoes.tr (T' := T6) (g' := (mkF m 42 #[vR a1, vR b1, vI (Int32.ofNat ja0), vI (-1)] [(.int na), (.int (Int32.ofNat (ja0 + 1))), (.ref a1), (.ref b1)])) st6 ?_
    have N6 := Fr.app N5 Nq6
    refine og T6 m 46 #[vR a1, vR b1, vI (Int32.ofNat ja0), vI (-1)] [(.int na), (.int (Int32.ofNat (ja0 + 1))), (.ref a1), (.ref b1)] (fun tgt kgo => ?_) ?_
    · refine XS.goto X6.here hx rfl (pc0 := 42) (pc' := 46) rfl (hb hby d32_42) (by decide) (by decide) ?_
      exact kgo
    refine og T6 m 46 #[vR a1, vR b1, vI (Int32.ofNat ja0), vI (-1)] [(.int (Int32.ofNat ((ja0 + 1) + (cs1.length - (ja0 + 1))))), (.int (Int32.ofNat (ja0 + 1))), (.ref a1), (.ref b1)] (fun tgt kgo => castTop (by rw [(show na = (Int32.ofNat ((ja0 + 1) + (cs1.length - (ja0 + 1)))) by rw [(own_l0 hos).1]; congr 1; omega)]) kgo) ?_
    obtain ⟨cq7, kq7, q7a, q7b, q7c⟩ := isOf (s := (s.setVm s.vm)) hZ eq6 F2_9
    obtain ⟨_, _, ⟨T7, L7, k7, n7⟩, -, X7, Si7, Gr7, ⟨Lc7, hQ7, l7, y7, z7, Rc7⟩, st7⟩ := X6.virtualBackS hx (y := mN24) (z := mN24) hown (mvT hZ (own_w hw 135 rfl)) (mvT hZ (own_w hw 136 rfl)) (notFace_of_selects (args := #[]) (mvT hZ (own_w hw 138 rfl))) (mvT hZ (own_w hw 138 rfl)) (mvT hZ (own_w hw 137 rfl)) (by decide) (backOfSH (W := 1) (rm_subs l Z a0 hw [] wG1 wG3 wG5 wK5 cx hEL T2.heap n0 Ol2 a1 ta ka na vsa cs1 (ja0 + 1) (cs1.length - (ja0 + 1)) F2_9 F2_10 F2_11 F2_12 hos (by omega) (by omega) hc4) hZ (own_w hw 139 rfl) (own_w hw 11 rfl) (by decide) (by decide) hEL R2.1) q7a q7c (g := (mkF m 46 #[vR a1, vR b1, vI (Int32.ofNat ja0), vI (-1)] [(.int (Int32.ofNat ((ja0 + 1) + (cs1.length - (ja0 + 1))))), (.int (Int32.ofNat (ja0 + 1))), (.ref a1), (.ref b1)])) rfl (by rw [hml]; rfl) (Steps.refl _) (argsL := [(.int (Int32.ofNat (ja0 + 1))), (.int (Int32.ofNat ((ja0 + 1) + (cs1.length - (ja0 + 1)))))]) (rest := [(.ref b1)]) (lenOf pd_28541291 rfl) rfl (Nat.le_of_eq rfl) (hb hby d32_46) (fun _ _ => ⟨rfl, eq6, (by decide : 1 + 2 ≤ _), (by decide : 3 + 8 ≤ _)⟩)
    dsimp only [Pt.U, Pt.locs, Pt.cells, Pt.slots] at X7 l7 y7 z7 st7 hQ7 Si7 Gr7 Rc7
    subst l7 y7 z7
    obtain ⟨x_7, t_7, k_7, N_7, vs_7, rfl, Nq7, Kq7, fq7_0, fq7_1, fq7_2, fq7_3, pq7_0⟩ := hQ7
    refine OwnGoes.tr (T' := T7) (g' := (mkF m 49 #[vR a1, vR b1, vI (Int32.ofNat ja0), vI (-1)] [(.ref x_7), (.ref b1)])) st7 ?_
    have N7 := Fr.app N6 Nq7
    have gz7 : T2.heap.size ≤ T7.heap.size := Rc7.2.1
    obtain ⟨X7, hS7, hZ7, ho7⟩ := rebS hS0 hk2 X7 Si7 gz7 hZ hown
    have F7_16 := F2_9.keep Kq7
    have F7_17 := F2_10.keep Kq7 nin0
    have F7_18 := F2_11.keep Kq7 nin0
    have F7_19 := F2_12.keep Kq7 nin0
    have F7_20 := F2_13.keep Kq7 nin0
    have F7_21 := Rc7.safe fq2_0.lt F2_14
    have F7_22 := fq2_0.keep Kq7
    have F7_23 := fq2_1.keep Kq7 nin0
    have F7_24 := fq2_2.keep Kq7 nin0
    have F7_25 := fq2_3.keep Kq7 nin0
    have Ol7 := Ol2.keep Kq7 all0
    have K7 : Keep h0 T7.heap ([] : List Addr) := K2.trans Kq7 all0
    have R7 := R2.trans Rc7
    obtain ⟨cq8, kq8, q8a, q8b, q8c⟩ := isOf (s := (s.setVm T7.vm)) hZ7 rfl F7_22
    obtain ⟨_, _, ⟨T8, L8, k8, n8⟩, -, X8, ⟨Lc8, hQ8, l8, y8, z8⟩, st8⟩ := X7.interfaceBack hx (xi := mN33) (y := mN31) ho7 (mvT hZ7 (own_w hw 170 rfl)) (mvT hZ7 (own_w hw 171 rfl)) (mvT hZ7 (own_w hw 172 rfl)) (mvT hZ7 (own_w hw 173 rfl)) (mvT hZ7 (own_w hw 174 rfl)) (mvT hZ7 (own_w hw 175 rfl)) (mvT hZ7 (own_w hw 176 rfl)) (mvT hZ7 (own_w hw 105 rfl)) (by decide) (backOf (W := 0) (rm_add1_0 l Z a0 hw [] wG1 wG3 wG5 wK5 cx hEL T7.heap n0 Ol7 b1 (0 : Int32) x_7 F7_22 F7_23 F7_24 F7_25 g_b1 fq7_0) hZ7 (own_w hw 177 rfl) (own_w hw 36 rfl) (by decide) (by decide)) q8a q8b q8c (g := (mkF m 49 #[vR a1, vR b1, vI (Int32.ofNat ja0), vI (-1)] [(.ref x_7), (.ref b1)])) rfl (by rw [hml]; rfl) (Steps.refl _) (argsL := [(.ref x_7)]) (rest := []) (lenOf pd_81697300 rfl) rfl (Nat.le_of_eq rfl) (hb hby d32_49) (fun _ _ => ⟨rfl, rfl, (by decide : 3 + 1 ≤ _), (by decide : 11 + 10 ≤ _)⟩)
    dsimp only [Pt.U, Pt.locs, Pt.cells, Pt.slots] at X8 l8 y8 z8 st8 hQ8
    subst l8 y8 z8
    obtain ⟨b_8, kb_8, rfl, Nq8, Kq8, zq8_0, fq8_0, fq8_1, fq8_2, fq8_3, fq8_4, pq8_0⟩ := hQ8
    refine OwnGoes.tr (T' := T8) (g' := (mkF m 54 #[vR a1, vR b1, vI (Int32.ofNat ja0), vI (-1)] [(.int 1)])) st8 ?_
    have N8 := Fr.app N7 Nq8
    have ne_a1_b_8 : a1 ≠ b_8 := Nat.ne_of_lt (Nat.lt_of_lt_of_le F7_16.lt zq8_0)
    have ne_ta_b_8 : ta ≠ b_8 := Nat.ne_of_lt (Nat.lt_of_lt_of_le F7_19.lt zq8_0)
    have ne_wG5_b_8 : wG5 ≠ b_8 := Nat.ne_of_lt (Nat.lt_of_lt_of_le F7_20.lt zq8_0)
    have ne_b1_b_8 : b1 ≠ b_8 := Nat.ne_of_lt (Nat.lt_of_lt_of_le F7_22.lt zq8_0)
    have ne_x_7_b_8 : x_7 ≠ b_8 := Nat.ne_of_lt (Nat.lt_of_lt_of_le fq7_0.lt zq8_0)
    have ne_t_7_b_8 : t_7 ≠ b_8 := Nat.ne_of_lt (Nat.lt_of_lt_of_le fq7_3.lt zq8_0)
    have g_b_8 : n0 ≤ b_8 := Nat.le_trans (Nat.le_trans Z0 K7.1) zq8_0
    have s_b_8 : h0.size ≤ b_8 := Nat.le_trans K7.1 zq8_0
    have Sn8_0 : Safe Z consts_1 T7.vm T8.heap b_8 := Safe.keep Kq8 (sfS F7_21 sf0) R7.1 (Safe.new zq8_0)
    have F8_26 := F7_16.keep Kq8
    have F8_27 := F7_17.keep Kq8 (ninS ne_a1_b1 nin0)
    have F8_28 := F7_18.keep Kq8 (ninS ne_a1_b1 nin0)
    have F8_29 := F7_19.keep Kq8 (ninS ne_ta_b1 nin0)
    have F8_30 := F7_20.keep Kq8 (ninS ne_wG5_b1 nin0)
    have F8_31 := Safe.keep Kq8 (sfS F7_21 sf0) R7.1 F7_21
    have F8_32 := F7_22.keep Kq8
    have F8_33 := fq7_0.keep Kq8
    have F8_34 := fq7_1.keep Kq8 (ninS (Exa.ne fq7_0 F7_22 (by decide)) nin0)
    have F8_35 := fq7_2.keep Kq8 (ninS (Exa.ne fq7_0 F7_22 (by decide)) nin0)
    have F8_36 := fq7_3.keep Kq8 (ninS (Ne.symm (Exa.neArv F7_22 fq7_3 (own_w hw 35 rfl))) nin0)
    have Ol8 := Ol7.keep Kq8 (allS g_b1 all0)
    have K8 : Keep h0 T8.heap ([] : List Addr) := K7.trans Kq8 (allS (Or.inr s_b1) all0)
    have R8 := R7.trans (CHr.keep Kq8 (sfS F7_21 sf0) R7.1)
    have hk8 := Nat.le_trans (Nat.le_refl _) Kq8.1
    refine og T8 m 61 #[vR a1, vR b1, vI (-1), vI (-1)] [(.ref b1)] (fun tgt kgo => ?_) ?_
    · refine XS.pop X8.here hx rfl (hb hby d32_54) rfl rfl ?_
      refine XS.iloadN X8.here hx rfl (hb hby d32_55) rfl ?_
      refine XS.istoreN X8.here hx rfl (hb hby d32_56) rfl (l' := #[vR a1, vR b1, vI (-1), vI (-1)]) rfl ?_
      show OwnG p e below T8 m 57 #[vR a1, vR b1, vI (-1), vI (-1)] [] tgt
      refine XS.goto X8.here hx rfl (pc0 := 57) (pc' := 15) rfl (hb hby d32_57) (by decide) (by decide) ?_
      refine XS.iloadN X8.here hx rfl (hb hby d32_15) rfl ?_
      refine XS.ifYes X8.here hx rfl (pc0 := 16) (pc' := 60) rfl (hb hby d32_16) rfl ((if0 _ _).trans (tlt (by decide : (-1 : Int32) < (0 : Int32))).1) (by decide) (by decide) ?_
      show OwnG p e below T8 m 60 #[vR a1, vR b1, vI (-1), vI (-1)] [] tgt
      refine XS.aloadN X8.here hx rfl (hb hby d32_60) rfl rfl ?_
      exact kgo
    have hSeg : OwnSegs Z T8.heap b1 (own_segs cs1) := by
      rw [(own_i2 hsb0 hsc0 hsd0), (own_i3 hA1)]
      refine ⟨_, _, _, _, fq8_0, fq8_3, fq8_2, fq8_4, Nat.le_of_ble_eq_true rfl, ?_⟩
      intro k hk
      match k, hk with
      | 0, _ => exact ⟨⟨_, _, _, _, _, rfl, F8_33, F8_34, F8_35, F8_36, pq7_0⟩, by decide, by decide⟩
      | (k + 1), hk => exact absurd hk (by simp only [List.length_cons, List.length_nil]; omega)
    have hret : ∀ fs, (∀ (f : JFrame) (acts : List Action), f.method = m → f.locked = none → f.entered = [] → (doReturn e (T8.setTop f) acts (some (.ref b1))).1 = T8.setFrames fs) → Steps p.tables e below (T8.setTop (mkF m 61 #[vR a1, vR b1, vI (-1), vI (-1)] [(.ref b1)])) (T8.setFrames fs) := by
      intro fs hr
      jvm_step X8.here [X8.here.top, hx, (hb hby d32_61), X8.method', Bd.returns, Value.isRef, FieldType.isReference]
      first | (intro acts; rw [hr _ acts rfl rfl rfl]) | rw [hr _ _ rfl rfl rfl]
      exact Steps.refl _
    refine own_leaveW (Z := Z) (EL := consts_1) X8 hS7 hk8 hlk (v := some (.ref b1)) (fun h => by rw [Bd.returns] at h; cases h) hret (by decide) (by decide) ?_ ?_
    · rw [hh]
      exact R8.trans (CHv.at X8 hZ7 hEL R8.1)
    show Q_segm Z a1 ta ka na vsa cs1 h0 n0 _ T8.heap _
    exact ⟨b1, rfl, N8, K8, hSeg⟩
  refine og T5 m 34 #[vR a1, vR b1, vI (Int32.ofNat ja0), vI (Int32.ofNat ja1)] [(.int ((Int32.ofNat ja0) + (1 : Int32))), (.ref a1), (.ref b1)] (fun tgt kgo => ?_) ?_
  · refine XS.istoreN X5.here hx rfl (hb hby d32_28) rfl (l' := #[vR a1, vR b1, vI (Int32.ofNat ja0), vI (Int32.ofNat ja1)]) rfl ?_
    refine XS.aloadN X5.here hx rfl (hb hby d32_29) rfl rfl ?_
    refine XS.aloadN X5.here hx rfl (hb hby d32_30) rfl rfl ?_
    show OwnG p e below T5 m 31 #[vR a1, vR b1, vI (Int32.ofNat ja0), vI (Int32.ofNat ja1)] [(.ref a1), (.ref b1)] tgt
    refine XS.iloadN X5.here hx rfl (hb hby d32_31) rfl ?_
    refine XS.iconst X5.here hx rfl (hb hby d32_32) ?_
    refine XS.iadd X5.here hx rfl (hb hby d32_33) rfl ?_
    exact kgo
  refine og T5 m 34 #[vR a1, vR b1, vI (Int32.ofNat ja0), vI (Int32.ofNat ja1)] [(.int (Int32.ofNat (ja0 + 1))), (.ref a1), (.ref b1)] (fun tgt kgo => castTop (by rw [(own_add1 ja0)]) kgo) ?_
  refine og T5 m 46 #[vR a1, vR b1, vI (Int32.ofNat ja0), vI (Int32.ofNat ja1)] [(.int (Int32.ofNat ja1)), (.int (Int32.ofNat (ja0 + 1))), (.ref a1), (.ref b1)] (fun tgt kgo => ?_) ?_
  · refine XS.iloadN X5.here hx rfl (hb hby d32_34) rfl ?_
    refine XS.ifYes X5.here hx rfl (pc0 := 35) (pc' := 45) rfl (hb hby d32_35) rfl ((if0 _ _).trans (flt (own_nat (by omega)).2.1).2.1) (by decide) (by decide) ?_
    refine XS.iloadN X5.here hx rfl (hb hby d32_45) rfl ?_
    exact kgo
  refine og T5 m 46 #[vR a1, vR b1, vI (Int32.ofNat ja0), vI (Int32.ofNat ((ja0 + 1) + (ja1 - (ja0 + 1))))] [(.int (Int32.ofNat ((ja0 + 1) + (ja1 - (ja0 + 1))))), (.int (Int32.ofNat (ja0 + 1))), (.ref a1), (.ref b1)] (fun tgt kgo => castTop (by rw [(congrArg Int32.ofNat (show ja1 = (ja0 + 1) + (ja1 - (ja0 + 1)) by omega))]) kgo) ?_
  obtain ⟨cq10, kq10, q10a, q10b, q10c⟩ := isOf (s := (s.setVm s.vm)) hZ eq5 F2_9
  obtain ⟨_, _, ⟨T10, L10, k10, n10⟩, -, X10, Si10, Gr10, ⟨Lc10, hQ10, l10, y10, z10, Rc10⟩, st10⟩ := X5.virtualBackS hx (y := mN24) (z := mN24) hown (mvT hZ (own_w hw 135 rfl)) (mvT hZ (own_w hw 136 rfl)) (notFace_of_selects (args := #[]) (mvT hZ (own_w hw 138 rfl))) (mvT hZ (own_w hw 138 rfl)) (mvT hZ (own_w hw 137 rfl)) (by decide) (backOfSH (W := 1) (rm_subs l Z a0 hw [] wG1 wG3 wG5 wK5 cx hEL T2.heap n0 Ol2 a1 ta ka na vsa cs1 (ja0 + 1) (ja1 - (ja0 + 1)) F2_9 F2_10 F2_11 F2_12 hos (by omega) (by omega) hc4) hZ (own_w hw 139 rfl) (own_w hw 11 rfl) (by decide) (by decide) hEL R2.1) q10a q10c (g := (mkF m 46 #[vR a1, vR b1, vI (Int32.ofNat ja0), vI (Int32.ofNat ((ja0 + 1) + (ja1 - (ja0 + 1))))] [(.int (Int32.ofNat ((ja0 + 1) + (ja1 - (ja0 + 1))))), (.int (Int32.ofNat (ja0 + 1))), (.ref a1), (.ref b1)])) rfl (by rw [hml]; rfl) (Steps.refl _) (argsL := [(.int (Int32.ofNat (ja0 + 1))), (.int (Int32.ofNat ((ja0 + 1) + (ja1 - (ja0 + 1)))))]) (rest := [(.ref b1)]) (lenOf pd_28541291 rfl) rfl (Nat.le_of_eq rfl) (hb hby d32_46) (fun _ _ => ⟨rfl, eq5, (by decide : 1 + 2 ≤ _), (by decide : 3 + 8 ≤ _)⟩)
  dsimp only [Pt.U, Pt.locs, Pt.cells, Pt.slots] at X10 l10 y10 z10 st10 hQ10 Si10 Gr10 Rc10
  subst l10 y10 z10
  obtain ⟨x_10, t_10, k_10, N_10, vs_10, rfl, Nq10, Kq10, fq10_0, fq10_1, fq10_2, fq10_3, pq10_0⟩ := hQ10
  refine OwnGoes.tr (T' := T10) (g' := (mkF m 49 #[vR a1, vR b1, vI (Int32.ofNat ja0), vI (Int32.ofNat ((ja0 + 1) + (ja1 - (ja0 + 1))))] [(.ref x_10), (.ref b1)])) st10 ?_
  have N10 := Fr.app N5 Nq10
  have gz10 : T2.heap.size ≤ T10.heap.size := Rc10.2.1
  obtain ⟨X10, hS10, hZ10, ho10⟩ := rebS hS0 hk2 X10 Si10 gz10 hZ hown
  have F10_37 := F2_9.keep Kq10
  have F10_38 := F2_10.keep Kq10 nin0
  have F10_39 := F2_11.keep Kq10 nin0
  have F10_40 := F2_12.keep Kq10 nin0
  have F10_41 := F2_13.keep Kq10 nin0
  have F10_42 := Rc10.safe fq2_0.lt F2_14
  have F10_43 := fq2_0.keep Kq10
  have F10_44 := fq2_1.keep Kq10 nin0
  have F10_45 := fq2_2.keep Kq10 nin0
  have F10_46 := fq2_3.keep Kq10 nin0
  have Ol10 := Ol2.keep Kq10 all0
  have K10 : Keep h0 T10.heap ([] : List Addr) := K2.trans Kq10 all0
  have R10 := R2.trans Rc10
  refine og T10 m 49 #[vR a1, vR b1, vI (Int32.ofNat ja0), vI (Int32.ofNat ja1)] [(.ref x_10), (.ref b1)] (fun tgt kgo => castTop (by rw [(congrArg Int32.ofNat (show (ja0 + 1) + (ja1 - (ja0 + 1)) = ja1 by omega))]) kgo) ?_
  obtain ⟨cq11, kq11, q11a, q11b, q11c⟩ := isOf (s := (s.setVm T10.vm)) hZ10 rfl F10_43
  obtain ⟨_, _, ⟨T11, L11, k11, n11⟩, -, X11, ⟨Lc11, hQ11, l11, y11, z11⟩, st11⟩ := X10.interfaceBack hx (xi := mN33) (y := mN31) ho10 (mvT hZ10 (own_w hw 170 rfl)) (mvT hZ10 (own_w hw 171 rfl)) (mvT hZ10 (own_w hw 172 rfl)) (mvT hZ10 (own_w hw 173 rfl)) (mvT hZ10 (own_w hw 174 rfl)) (mvT hZ10 (own_w hw 175 rfl)) (mvT hZ10 (own_w hw 176 rfl)) (mvT hZ10 (own_w hw 105 rfl)) (by decide) (backOf (W := 0) (rm_add1_0 l Z a0 hw [] wG1 wG3 wG5 wK5 cx hEL T10.heap n0 Ol10 b1 (0 : Int32) x_10 F10_43 F10_44 F10_45 F10_46 g_b1 fq10_0) hZ10 (own_w hw 177 rfl) (own_w hw 36 rfl) (by decide) (by decide)) q11a q11b q11c (g := (mkF m 49 #[vR a1, vR b1, vI (Int32.ofNat ja0), vI (Int32.ofNat ja1)] [(.ref x_10), (.ref b1)])) rfl (by rw [hml]; rfl) (Steps.refl _) (argsL := [(.ref x_10)]) (rest := []) (lenOf pd_81697300 rfl) rfl (Nat.le_of_eq rfl) (hb hby d32_49) (fun _ _ => ⟨rfl, rfl, (by decide : 3 + 1 ≤ _), (by decide : 11 + 10 ≤ _)⟩)
  dsimp only [Pt.U, Pt.locs, Pt.cells, Pt.slots] at X11 l11 y11 z11 st11 hQ11
  subst l11 y11 z11
  obtain ⟨b_11, kb_11, rfl, Nq11, Kq11, zq11_0, fq11_0, fq11_1, fq11_2, fq11_3, fq11_4, pq11_0⟩ := hQ11
  refine OwnGoes.tr (T' := T11) (g' := (mkF m 54 #[vR a1, vR b1, vI (Int32.ofNat ja0), vI (Int32.ofNat ja1)] [(.int 1)])) st11 ?_
  have N11 := Fr.app N10 Nq11
  have ne_a1_b_11 : a1 ≠ b_11 := Nat.ne_of_lt (Nat.lt_of_lt_of_le F10_37.lt zq11_0)
  have ne_ta_b_11 : ta ≠ b_11 := Nat.ne_of_lt (Nat.lt_of_lt_of_le F10_40.lt zq11_0)
  have ne_wG5_b_11 : wG5 ≠ b_11 := Nat.ne_of_lt (Nat.lt_of_lt_of_le F10_41.lt zq11_0)
  have ne_b1_b_11 : b1 ≠ b_11 := Nat.ne_of_lt (Nat.lt_of_lt_of_le F10_43.lt zq11_0)
  have ne_x_10_b_11 : x_10 ≠ b_11 := Nat.ne_of_lt (Nat.lt_of_lt_of_le fq10_0.lt zq11_0)
  have ne_t_10_b_11 : t_10 ≠ b_11 := Nat.ne_of_lt (Nat.lt_of_lt_of_le fq10_3.lt zq11_0)
  have g_b_11 : n0 ≤ b_11 := Nat.le_trans (Nat.le_trans Z0 K10.1) zq11_0
  have s_b_11 : h0.size ≤ b_11 := Nat.le_trans K10.1 zq11_0
  have Sn11_0 : Safe Z consts_1 T10.vm T11.heap b_11 := Safe.keep Kq11 (sfS F10_42 sf0) R10.1 (Safe.new zq11_0)
  have F11_47 := F10_37.keep Kq11
  have F11_48 := F10_38.keep Kq11 (ninS ne_a1_b1 nin0)
  have F11_49 := F10_39.keep Kq11 (ninS ne_a1_b1 nin0)
  have F11_50 := F10_40.keep Kq11 (ninS ne_ta_b1 nin0)
  have F11_51 := F10_41.keep Kq11 (ninS ne_wG5_b1 nin0)
  have F11_52 := Safe.keep Kq11 (sfS F10_42 sf0) R10.1 F10_42
  have F11_53 := F10_43.keep Kq11
  have F11_54 := fq10_0.keep Kq11
  have F11_55 := fq10_1.keep Kq11 (ninS (Exa.ne fq10_0 F10_43 (by decide)) nin0)
  have F11_56 := fq10_2.keep Kq11 (ninS (Exa.ne fq10_0 F10_43 (by decide)) nin0)
  have F11_57 := fq10_3.keep Kq11 (ninS (Ne.symm (Exa.neArv F10_43 fq10_3 (own_w hw 35 rfl))) nin0)
  have Ol11 := Ol10.keep Kq11 (allS g_b1 all0)
  have K11 : Keep h0 T11.heap ([] : List Addr) := K10.trans Kq11 (allS (Or.inr s_b1) all0)
  have R11 := R10.trans (CHr.keep Kq11 (sfS F10_42 sf0) R10.1)
  have hk11 := Nat.le_trans (Nat.le_refl _) Kq11.1
  refine og T11 m 25 #[vR a1, vR b1, vI (Int32.ofNat ja1), vI (Int32.ofNat ja1)] [(.int ((Int32.ofNat ja1) + (1 : Int32))), (.int 47), (.ref a1)] (fun tgt kgo => ?_) ?_
  · refine XS.pop X11.here hx rfl (hb hby d32_54) rfl rfl ?_
    refine XS.iloadN X11.here hx rfl (hb hby d32_55) rfl ?_
    refine XS.istoreN X11.here hx rfl (hb hby d32_56) rfl (l' := #[vR a1, vR b1, vI (Int32.ofNat ja1), vI (Int32.ofNat ja1)]) rfl ?_
    show OwnG p e below T11 m 57 #[vR a1, vR b1, vI (Int32.ofNat ja1), vI (Int32.ofNat ja1)] [] tgt
    refine XS.goto X11.here hx rfl (pc0 := 57) (pc' := 15) rfl (hb hby d32_57) (by decide) (by decide) ?_
    refine XS.iloadN X11.here hx rfl (hb hby d32_15) rfl ?_
    refine XS.ifNo X11.here hx rfl (hb hby d32_16) rfl ((if0 _ _).trans (flt (own_nat (by omega)).2.1).1) ?_
    show OwnG p e below T11 m 19 #[vR a1, vR b1, vI (Int32.ofNat ja1), vI (Int32.ofNat ja1)] [] tgt
    refine XS.aloadN X11.here hx rfl (hb hby d32_19) rfl rfl ?_
    refine XS.bipush X11.here hx rfl (hb hby d32_20) ?_
    refine XS.iloadN X11.here hx rfl (hb hby d32_22) rfl ?_
    show OwnG p e below T11 m 23 #[vR a1, vR b1, vI (Int32.ofNat ja1), vI (Int32.ofNat ja1)] [(.int (Int32.ofNat ja1)), (.int 47), (.ref a1)] tgt
    refine XS.iconst X11.here hx rfl (hb hby d32_23) ?_
    refine XS.iadd X11.here hx rfl (hb hby d32_24) rfl ?_
    exact kgo
  refine og T11 m 25 #[vR a1, vR b1, vI (Int32.ofNat ja1), vI (Int32.ofNat ja1)] [(.int (Int32.ofNat (ja1 + 1))), (.int 47), (.ref a1)] (fun tgt kgo => castTop (by rw [(own_add1 ja1)]) kgo) ?_
  obtain ⟨cq12, kq12, q12a, q12b, q12c⟩ := isOf (s := (s.setVm T10.vm)) hZ10 rfl F11_47
  obtain ⟨_, _, ⟨T12, L12, k12, n12⟩, -, X12, ⟨Lc12, hQ12, l12, y12, z12⟩, st12⟩ := X11.virtualBack hx (y := mN15) (z := mN15) ho10 (mvT hZ10 (own_w hw 134 rfl)) (mvT hZ10 (own_w hw 64 rfl)) (notFace_of_selects (args := #[]) (mvT hZ10 (own_w hw 66 rfl))) (mvT hZ10 (own_w hw 66 rfl)) (mvT hZ10 (own_w hw 65 rfl)) (by decide) (backOf (W := 0) (rm_sio l Z a0 hw [] wG1 wG3 wG5 wK5 cx hEL T11.heap n0 Ol11 a1 ta ka na vsa cs1 (ja1 + 1) F11_47 F11_48 F11_49 F11_50 hos (by omega)) hZ10 (own_w hw 67 rfl) (own_w hw 11 rfl) (by decide) (by decide)) q12a q12c (g := (mkF m 25 #[vR a1, vR b1, vI (Int32.ofNat ja1), vI (Int32.ofNat ja1)] [(.int (Int32.ofNat (ja1 + 1))), (.int 47), (.ref a1)])) rfl (by rw [hml]; rfl) (Steps.refl _) (argsL := [(.int 47), (.int (Int32.ofNat (ja1 + 1)))]) (rest := []) (lenOf pd_50523903 rfl) rfl (Nat.le_of_eq rfl) (hb hby d32_25) (fun _ _ => ⟨rfl, rfl, (by decide : 4 + 0 ≤ _), (by decide : 21 + 0 ≤ _)⟩)
  dsimp only [Pt.U, Pt.locs, Pt.cells, Pt.slots] at X12 l12 y12 z12 st12 hQ12
  subst l12 y12 z12
  obtain ⟨r_12, rfl, Nq12, eq12, pq12_0⟩ := hQ12
  refine OwnGoes.tr (T' := T12) (g' := (mkF m 28 #[vR a1, vR b1, vI (Int32.ofNat ja1), vI (Int32.ofNat ja1)] [(.int r_12)])) st12 ?_
  have N12 := Fr.app N11 Nq12
  rcases pq12_0 with ⟨rfl, hA2⟩ | ⟨ja2, rfl, hsa2, hsb2, hsc2, hsd2⟩
  · skip
    refine og T12 m 34 #[vR a1, vR b1, vI (Int32.ofNat ja1), vI (-1)] [(.int ((Int32.ofNat ja1) + (1 : Int32))), (.ref a1), (.ref b1)] (fun tgt kgo => ?_) ?_
    · refine XS.istoreN X12.here hx rfl (hb hby d32_28) rfl (l' := #[vR a1, vR b1, vI (Int32.ofNat ja1), vI (-1)]) rfl ?_
      refine XS.aloadN X12.here hx rfl (hb hby d32_29) rfl rfl ?_
      refine XS.aloadN X12.here hx rfl (hb hby d32_30) rfl rfl ?_
      show OwnG p e below T12 m 31 #[vR a1, vR b1, vI (Int32.ofNat ja1), vI (-1)] [(.ref a1), (.ref b1)] tgt
      refine XS.iloadN X12.here hx rfl (hb hby d32_31) rfl ?_
      refine XS.iconst X12.here hx rfl (hb hby d32_32) ?_
      refine XS.iadd X12.here hx rfl (hb hby d32_33) rfl ?_
      exact kgo
    refine og T12 m 34 #[vR a1, vR b1, vI (Int32.ofNat ja1), vI (-1)] [(.int (Int32.ofNat (ja1 + 1))), (.ref a1), (.ref b1)] (fun tgt kgo => castTop (by rw [(own_add1 ja1)]) kgo) ?_
    refine og T12 m 39 #[vR a1, vR b1, vI (Int32.ofNat ja1), vI (-1)] [(.ref a1), (.int (Int32.ofNat (ja1 + 1))), (.ref a1), (.ref b1)] (fun tgt kgo => ?_) ?_
    · refine XS.iloadN X12.here hx rfl (hb hby d32_34) rfl ?_
      refine XS.ifNo X12.here hx rfl (hb hby d32_35) rfl ((if0 _ _).trans (tlt (by decide : (-1 : Int32) < (0 : Int32))).2.1) ?_
      refine XS.aloadN X12.here hx rfl (hb hby d32_38) rfl rfl ?_
      exact kgo
    obtain ⟨cq13, kq13, q13a, q13b, q13c⟩ := isOf (s := (s.setVm T10.vm)) hZ10 eq12 F11_47
    obtain ⟨_, _, ⟨T13, L13, k13, n13⟩, -, X13, ⟨Lc13, hQ13, l13, y13, z13⟩, st13⟩ := X12.virtualBack hx (y := mN3) (z := mN3) ho10 (mvT hZ10 (own_w hw 199 rfl)) (mvT hZ10 (own_w hw 75 rfl)) (notFace_of_selects (args := #[]) (mvT hZ10 (own_w hw 77 rfl))) (mvT hZ10 (own_w hw 77 rfl)) (mvT hZ10 (own_w hw 76 rfl)) (by decide) (backOf (W := 3) (rm_len l Z a0 hw [] wG1 wG3 wG5 wK5 cx hEL T11.heap n0 Ol11 a1 ta ka na vsa F11_47 F11_48 F11_49 F11_50) hZ10 (own_w hw 78 rfl) (own_w hw 11 rfl) (by decide) (by decide)) q13a q13c (g := (mkF m 39 #[vR a1, vR b1, vI (Int32.ofNat ja1), vI (-1)] [(.ref a1), (.int (Int32.ofNat (ja1 + 1))), (.ref a1), (.ref b1)])) rfl (by rw [hml]; rfl) (Steps.refl _) (argsL := []) (rest := [(.int (Int32.ofNat (ja1 + 1))), (.ref a1), (.ref b1)]) (lenOf pd_86913941 rfl) rfl (Nat.le_of_eq rfl) (hb hby d32_39) (fun _ _ => ⟨rfl, eq12, (by decide : 4 + 0 ≤ _), (by decide : 21 + 0 ≤ _)⟩)
    dsimp only [Pt.U, Pt.locs, Pt.cells, Pt.slots] at X13 l13 y13 z13 st13 hQ13
    subst l13 y13 z13
    obtain ⟨rfl, Nq13, eq13⟩ := hQ13
    refine OwnGoes.tr (T' := T13) (g' := (mkF m 42 #[vR a1, vR b1, vI (Int32.ofNat ja1), vI (-1)] [(.int na), (.int (Int32.ofNat (ja1 + 1))), (.ref a1), (.ref b1)])) st13 ?_
    have N13 := Fr.app N12 Nq13
    refine og T13 m 46 #[vR a1, vR b1, vI (Int32.ofNat ja1), vI (-1)] [(.int na), (.int (Int32.ofNat (ja1 + 1))), (.ref a1), (.ref b1)] (fun tgt kgo => ?_) ?_
    · refine XS.goto X13.here hx rfl (pc0 := 42) (pc' := 46) rfl (hb hby d32_42) (by decide) (by decide) ?_
      exact kgo
    refine og T13 m 46 #[vR a1, vR b1, vI (Int32.ofNat ja1), vI (-1)] [(.int (Int32.ofNat ((ja1 + 1) + (cs1.length - (ja1 + 1))))), (.int (Int32.ofNat (ja1 + 1))), (.ref a1), (.ref b1)] (fun tgt kgo => castTop (by rw [(show na = (Int32.ofNat ((ja1 + 1) + (cs1.length - (ja1 + 1)))) by rw [(own_l0 hos).1]; congr 1; omega)]) kgo) ?_
    obtain ⟨cq14, kq14, q14a, q14b, q14c⟩ := isOf (s := (s.setVm T10.vm)) hZ10 eq13 F11_47
    obtain ⟨_, _, ⟨T14, L14, k14, n14⟩, -, X14, Si14, Gr14, ⟨Lc14, hQ14, l14, y14, z14, Rc14⟩, st14⟩ := X13.virtualBackS hx (y := mN24) (z := mN24) ho10 (mvT hZ10 (own_w hw 135 rfl)) (mvT hZ10 (own_w hw 136 rfl)) (notFace_of_selects (args := #[]) (mvT hZ10 (own_w hw 138 rfl))) (mvT hZ10 (own_w hw 138 rfl)) (mvT hZ10 (own_w hw 137 rfl)) (by decide) (backOfSH (W := 1) (rm_subs l Z a0 hw [] wG1 wG3 wG5 wK5 cx hEL T11.heap n0 Ol11 a1 ta ka na vsa cs1 (ja1 + 1) (cs1.length - (ja1 + 1)) F11_47 F11_48 F11_49 F11_50 hos (by omega) (by omega) hc4) hZ10 (own_w hw 139 rfl) (own_w hw 11 rfl) (by decide) (by decide) hEL R11.1) q14a q14c (g := (mkF m 46 #[vR a1, vR b1, vI (Int32.ofNat ja1), vI (-1)] [(.int (Int32.ofNat ((ja1 + 1) + (cs1.length - (ja1 + 1))))), (.int (Int32.ofNat (ja1 + 1))), (.ref a1), (.ref b1)])) rfl (by rw [hml]; rfl) (Steps.refl _) (argsL := [(.int (Int32.ofNat (ja1 + 1))), (.int (Int32.ofNat ((ja1 + 1) + (cs1.length - (ja1 + 1)))))]) (rest := [(.ref b1)]) (lenOf pd_28541291 rfl) rfl (Nat.le_of_eq rfl) (hb hby d32_46) (fun _ _ => ⟨rfl, eq13, (by decide : 4 + 2 ≤ _), (by decide : 21 + 8 ≤ _)⟩)
    dsimp only [Pt.U, Pt.locs, Pt.cells, Pt.slots] at X14 l14 y14 z14 st14 hQ14 Si14 Gr14 Rc14
    subst l14 y14 z14
    obtain ⟨x_14, t_14, k_14, N_14, vs_14, rfl, Nq14, Kq14, fq14_0, fq14_1, fq14_2, fq14_3, pq14_0⟩ := hQ14
    refine OwnGoes.tr (T' := T14) (g' := (mkF m 49 #[vR a1, vR b1, vI (Int32.ofNat ja1), vI (-1)] [(.ref x_14), (.ref b1)])) st14 ?_
    have N14 := Fr.app N13 Nq14
    have gz14 : T11.heap.size ≤ T14.heap.size := Rc14.2.1
    obtain ⟨X14, hS14, hZ14, ho14⟩ := rebS hS10 hk11 X14 Si14 gz14 hZ10 ho10
    have F14_58 := F11_47.keep Kq14
    have F14_59 := F11_48.keep Kq14 nin0
    have F14_60 := F11_49.keep Kq14 nin0
    have F14_61 := F11_50.keep Kq14 nin0
    have F14_62 := F11_51.keep Kq14 nin0
    have F14_63 := Rc14.safe fq11_0.lt F11_52
    have F14_64 := fq11_0.keep Kq14
    have F14_65 := F11_54.keep Kq14
    have F14_66 := F11_55.keep Kq14 nin0
    have F14_67 := F11_56.keep Kq14 nin0
    have F14_68 := F11_57.keep Kq14 nin0
    have F14_69 := Rc14.safe fq11_4.lt Sn11_0
    have F14_70 := fq11_1.keep Kq14 nin0
    have F14_71 := fq11_2.keep Kq14 nin0
    have F14_72 := fq11_3.keep Kq14 nin0
    have F14_73 := fq11_4.keep Kq14 nin0
    have Ol14 := Ol11.keep Kq14 all0
    have K14 : Keep h0 T14.heap ([] : List Addr) := K11.trans Kq14 all0
    have R14 := R11.trans Rc14
    obtain ⟨cq15, kq15, q15a, q15b, q15c⟩ := isOf (s := (s.setVm T14.vm)) hZ14 rfl F14_64
    obtain ⟨_, _, ⟨T15, L15, k15, n15⟩, -, X15, ⟨Lc15, hQ15, l15, y15, z15⟩, st15⟩ := X14.interfaceBack hx (xi := mN33) (y := mN31) ho14 (mvT hZ14 (own_w hw 170 rfl)) (mvT hZ14 (own_w hw 171 rfl)) (mvT hZ14 (own_w hw 172 rfl)) (mvT hZ14 (own_w hw 173 rfl)) (mvT hZ14 (own_w hw 174 rfl)) (mvT hZ14 (own_w hw 175 rfl)) (mvT hZ14 (own_w hw 176 rfl)) (mvT hZ14 (own_w hw 105 rfl)) (by decide) (backOf (W := 0) (rm_add1_1 l Z a0 hw [] wG1 wG3 wG5 wK5 cx hEL T14.heap n0 Ol14 b1 ((0 : Int32) + (1 : Int32)) x_14 b_11 kb_11 x_10 F14_64 F14_70 F14_71 F14_72 F14_73 g_b_11 g_b1 fq14_0 pq11_0) hZ14 (own_w hw 177 rfl) (own_w hw 36 rfl) (by decide) (by decide)) q15a q15b q15c (g := (mkF m 49 #[vR a1, vR b1, vI (Int32.ofNat ja1), vI (-1)] [(.ref x_14), (.ref b1)])) rfl (by rw [hml]; rfl) (Steps.refl _) (argsL := [(.ref x_14)]) (rest := []) (lenOf pd_81697300 rfl) rfl (Nat.le_of_eq rfl) (hb hby d32_49) (fun _ _ => ⟨rfl, rfl, (by decide : 6 + 0 ≤ _), (by decide : 29 + 0 ≤ _)⟩)
    dsimp only [Pt.U, Pt.locs, Pt.cells, Pt.slots] at X15 l15 y15 z15 st15 hQ15
    subst l15 y15 z15
    obtain ⟨rfl, Nq15, Kq15, fq15_0, fq15_1, fq15_2, fq15_3, fq15_4⟩ := hQ15
    refine OwnGoes.tr (T' := T15) (g' := (mkF m 54 #[vR a1, vR b1, vI (Int32.ofNat ja1), vI (-1)] [(.int 1)])) st15 ?_
    have N15 := Fr.app N14 Nq15
    have F15_74 := F14_58.keep Kq15
    have F15_75 := F14_59.keep Kq15 (ninS ne_a1_b1 (ninS ne_a1_b_11 nin0))
    have F15_76 := F14_60.keep Kq15 (ninS ne_a1_b1 (ninS ne_a1_b_11 nin0))
    have F15_77 := F14_61.keep Kq15 (ninS ne_ta_b1 (ninS ne_ta_b_11 nin0))
    have F15_78 := F14_62.keep Kq15 (ninS ne_wG5_b1 (ninS ne_wG5_b_11 nin0))
    have F15_79 := Safe.keep Kq15 (sfS F14_63 (sfS F14_69 sf0)) R14.1 F14_63
    have F15_80 := F14_64.keep Kq15
    have F15_81 := F14_65.keep Kq15
    have F15_82 := F14_66.keep Kq15 (ninS (Exa.ne F14_65 F14_64 (by decide)) (ninS ne_x_10_b_11 nin0))
    have F15_83 := F14_67.keep Kq15 (ninS (Exa.ne F14_65 F14_64 (by decide)) (ninS ne_x_10_b_11 nin0))
    have F15_84 := F14_68.keep Kq15 (ninS (Ne.symm (Exa.neArv F14_64 F14_68 (own_w hw 35 rfl))) (ninS ne_t_10_b_11 nin0))
    have F15_85 := Safe.keep Kq15 (sfS F14_63 (sfS F14_69 sf0)) R14.1 F14_69
    have F15_86 := fq14_0.keep Kq15
    have F15_87 := fq14_1.keep Kq15 (ninS (Exa.ne fq14_0 F14_64 (by decide)) (ninS (Exa.neArv fq14_0 F14_73 (own_w hw 10 rfl)) nin0))
    have F15_88 := fq14_2.keep Kq15 (ninS (Exa.ne fq14_0 F14_64 (by decide)) (ninS (Exa.neArv fq14_0 F14_73 (own_w hw 10 rfl)) nin0))
    have F15_89 := fq14_3.keep Kq15 (ninS (Ne.symm (Exa.neArv F14_64 fq14_3 (own_w hw 35 rfl))) (ninS (own_arv_ty fq14_3 F14_73 (by decide)) nin0))
    have Ol15 := Ol14.keep Kq15 (allS g_b1 (allS g_b_11 all0))
    have K15 : Keep h0 T15.heap ([] : List Addr) := K14.trans Kq15 (allS (Or.inr s_b1) (allS (Or.inr s_b_11) all0))
    have R15 := R14.trans (CHr.keep Kq15 (sfS F14_63 (sfS F14_69 sf0)) R14.1)
    have hk15 := Nat.le_trans (Nat.le_refl _) Kq15.1
    refine og T15 m 61 #[vR a1, vR b1, vI (-1), vI (-1)] [(.ref b1)] (fun tgt kgo => ?_) ?_
    · refine XS.pop X15.here hx rfl (hb hby d32_54) rfl rfl ?_
      refine XS.iloadN X15.here hx rfl (hb hby d32_55) rfl ?_
      refine XS.istoreN X15.here hx rfl (hb hby d32_56) rfl (l' := #[vR a1, vR b1, vI (-1), vI (-1)]) rfl ?_
      show OwnG p e below T15 m 57 #[vR a1, vR b1, vI (-1), vI (-1)] [] tgt
      refine XS.goto X15.here hx rfl (pc0 := 57) (pc' := 15) rfl (hb hby d32_57) (by decide) (by decide) ?_
      refine XS.iloadN X15.here hx rfl (hb hby d32_15) rfl ?_
      refine XS.ifYes X15.here hx rfl (pc0 := 16) (pc' := 60) rfl (hb hby d32_16) rfl ((if0 _ _).trans (tlt (by decide : (-1 : Int32) < (0 : Int32))).1) (by decide) (by decide) ?_
      show OwnG p e below T15 m 60 #[vR a1, vR b1, vI (-1), vI (-1)] [] tgt
      refine XS.aloadN X15.here hx rfl (hb hby d32_60) rfl rfl ?_
      exact kgo
    have hSeg : OwnSegs Z T15.heap b1 (own_segs cs1) := by
      rw [(own_i2 hsb0 hsc0 hsd0), (own_i4 hsa1 hsb1 hsc1 hsd1), (own_i3 hA2)]
      refine ⟨_, _, _, _, fq15_0, fq15_3, fq15_2, fq15_4, Nat.le_of_ble_eq_true rfl, ?_⟩
      intro k hk
      match k, hk with
      | 0, _ => exact ⟨⟨_, _, _, _, _, rfl, F15_81, F15_82, F15_83, F15_84, pq10_0⟩, by decide, by decide⟩
      | 1, _ => exact ⟨⟨_, _, _, _, _, rfl, F15_86, F15_87, F15_88, F15_89, pq14_0⟩, by decide, by decide⟩
      | (k + 2), hk => exact absurd hk (by simp only [List.length_cons, List.length_nil]; omega)
    have hret : ∀ fs, (∀ (f : JFrame) (acts : List Action), f.method = m → f.locked = none → f.entered = [] → (doReturn e (T15.setTop f) acts (some (.ref b1))).1 = T15.setFrames fs) → Steps p.tables e below (T15.setTop (mkF m 61 #[vR a1, vR b1, vI (-1), vI (-1)] [(.ref b1)])) (T15.setFrames fs) := by
      intro fs hr
      jvm_step X15.here [X15.here.top, hx, (hb hby d32_61), X15.method', Bd.returns, Value.isRef, FieldType.isReference]
      first | (intro acts; rw [hr _ acts rfl rfl rfl]) | rw [hr _ _ rfl rfl rfl]
      exact Steps.refl _
    refine own_leaveW (Z := Z) (EL := consts_1) X15 hS14 hk15 hlk (v := some (.ref b1)) (fun h => by rw [Bd.returns] at h; cases h) hret (by decide) (by decide) ?_ ?_
    · rw [hh]
      exact R15.trans (CHv.at X15 hZ14 hEL R15.1)
    show Q_segm Z a1 ta ka na vsa cs1 h0 n0 _ T15.heap _
    exact ⟨b1, rfl, N15, K15, hSeg⟩
  refine og T12 m 34 #[vR a1, vR b1, vI (Int32.ofNat ja1), vI (Int32.ofNat ja2)] [(.int ((Int32.ofNat ja1) + (1 : Int32))), (.ref a1), (.ref b1)] (fun tgt kgo => ?_) ?_
  · refine XS.istoreN X12.here hx rfl (hb hby d32_28) rfl (l' := #[vR a1, vR b1, vI (Int32.ofNat ja1), vI (Int32.ofNat ja2)]) rfl ?_
    refine XS.aloadN X12.here hx rfl (hb hby d32_29) rfl rfl ?_
    refine XS.aloadN X12.here hx rfl (hb hby d32_30) rfl rfl ?_
    show OwnG p e below T12 m 31 #[vR a1, vR b1, vI (Int32.ofNat ja1), vI (Int32.ofNat ja2)] [(.ref a1), (.ref b1)] tgt
    refine XS.iloadN X12.here hx rfl (hb hby d32_31) rfl ?_
    refine XS.iconst X12.here hx rfl (hb hby d32_32) ?_
    refine XS.iadd X12.here hx rfl (hb hby d32_33) rfl ?_
    exact kgo
  refine og T12 m 34 #[vR a1, vR b1, vI (Int32.ofNat ja1), vI (Int32.ofNat ja2)] [(.int (Int32.ofNat (ja1 + 1))), (.ref a1), (.ref b1)] (fun tgt kgo => castTop (by rw [(own_add1 ja1)]) kgo) ?_
  refine og T12 m 46 #[vR a1, vR b1, vI (Int32.ofNat ja1), vI (Int32.ofNat ja2)] [(.int (Int32.ofNat ja2)), (.int (Int32.ofNat (ja1 + 1))), (.ref a1), (.ref b1)] (fun tgt kgo => ?_) ?_
  · refine XS.iloadN X12.here hx rfl (hb hby d32_34) rfl ?_
    refine XS.ifYes X12.here hx rfl (pc0 := 35) (pc' := 45) rfl (hb hby d32_35) rfl ((if0 _ _).trans (flt (own_nat (by omega)).2.1).2.1) (by decide) (by decide) ?_
    refine XS.iloadN X12.here hx rfl (hb hby d32_45) rfl ?_
    exact kgo
  refine og T12 m 46 #[vR a1, vR b1, vI (Int32.ofNat ja1), vI (Int32.ofNat ((ja1 + 1) + (ja2 - (ja1 + 1))))] [(.int (Int32.ofNat ((ja1 + 1) + (ja2 - (ja1 + 1))))), (.int (Int32.ofNat (ja1 + 1))), (.ref a1), (.ref b1)] (fun tgt kgo => castTop (by rw [(congrArg Int32.ofNat (show ja2 = (ja1 + 1) + (ja2 - (ja1 + 1)) by omega))]) kgo) ?_
  obtain ⟨cq17, kq17, q17a, q17b, q17c⟩ := isOf (s := (s.setVm T10.vm)) hZ10 eq12 F11_47
  obtain ⟨_, _, ⟨T17, L17, k17, n17⟩, -, X17, Si17, Gr17, ⟨Lc17, hQ17, l17, y17, z17, Rc17⟩, st17⟩ := X12.virtualBackS hx (y := mN24) (z := mN24) ho10 (mvT hZ10 (own_w hw 135 rfl)) (mvT hZ10 (own_w hw 136 rfl)) (notFace_of_selects (args := #[]) (mvT hZ10 (own_w hw 138 rfl))) (mvT hZ10 (own_w hw 138 rfl)) (mvT hZ10 (own_w hw 137 rfl)) (by decide) (backOfSH (W := 1) (rm_subs l Z a0 hw [] wG1 wG3 wG5 wK5 cx hEL T11.heap n0 Ol11 a1 ta ka na vsa cs1 (ja1 + 1) (ja2 - (ja1 + 1)) F11_47 F11_48 F11_49 F11_50 hos (by omega) (by omega) hc4) hZ10 (own_w hw 139 rfl) (own_w hw 11 rfl) (by decide) (by decide) hEL R11.1) q17a q17c (g := (mkF m 46 #[vR a1, vR b1, vI (Int32.ofNat ja1), vI (Int32.ofNat ((ja1 + 1) + (ja2 - (ja1 + 1))))] [(.int (Int32.ofNat ((ja1 + 1) + (ja2 - (ja1 + 1))))), (.int (Int32.ofNat (ja1 + 1))), (.ref a1), (.ref b1)])) rfl (by rw [hml]; rfl) (Steps.refl _) (argsL := [(.int (Int32.ofNat (ja1 + 1))), (.int (Int32.ofNat ((ja1 + 1) + (ja2 - (ja1 + 1)))))]) (rest := [(.ref b1)]) (lenOf pd_28541291 rfl) rfl (Nat.le_of_eq rfl) (hb hby d32_46) (fun _ _ => ⟨rfl, eq12, (by decide : 4 + 2 ≤ _), (by decide : 21 + 8 ≤ _)⟩)
  dsimp only [Pt.U, Pt.locs, Pt.cells, Pt.slots] at X17 l17 y17 z17 st17 hQ17 Si17 Gr17 Rc17
  subst l17 y17 z17
  obtain ⟨x_17, t_17, k_17, N_17, vs_17, rfl, Nq17, Kq17, fq17_0, fq17_1, fq17_2, fq17_3, pq17_0⟩ := hQ17
  refine OwnGoes.tr (T' := T17) (g' := (mkF m 49 #[vR a1, vR b1, vI (Int32.ofNat ja1), vI (Int32.ofNat ((ja1 + 1) + (ja2 - (ja1 + 1))))] [(.ref x_17), (.ref b1)])) st17 ?_
  have N17 := Fr.app N12 Nq17
  have gz17 : T11.heap.size ≤ T17.heap.size := Rc17.2.1
  obtain ⟨X17, hS17, hZ17, ho17⟩ := rebS hS10 hk11 X17 Si17 gz17 hZ10 ho10
  have F17_90 := F11_47.keep Kq17
  have F17_91 := F11_48.keep Kq17 nin0
  have F17_92 := F11_49.keep Kq17 nin0
  have F17_93 := F11_50.keep Kq17 nin0
  have F17_94 := F11_51.keep Kq17 nin0
  have F17_95 := Rc17.safe fq11_0.lt F11_52
  have F17_96 := fq11_0.keep Kq17
  have F17_97 := F11_54.keep Kq17
  have F17_98 := F11_55.keep Kq17 nin0
  have F17_99 := F11_56.keep Kq17 nin0
  have F17_100 := F11_57.keep Kq17 nin0
  have F17_101 := Rc17.safe fq11_4.lt Sn11_0
  have F17_102 := fq11_1.keep Kq17 nin0
  have F17_103 := fq11_2.keep Kq17 nin0
  have F17_104 := fq11_3.keep Kq17 nin0
  have F17_105 := fq11_4.keep Kq17 nin0
  have Ol17 := Ol11.keep Kq17 all0
  have K17 : Keep h0 T17.heap ([] : List Addr) := K11.trans Kq17 all0
  have R17 := R11.trans Rc17
  refine og T17 m 49 #[vR a1, vR b1, vI (Int32.ofNat ja1), vI (Int32.ofNat ja2)] [(.ref x_17), (.ref b1)] (fun tgt kgo => castTop (by rw [(congrArg Int32.ofNat (show (ja1 + 1) + (ja2 - (ja1 + 1)) = ja2 by omega))]) kgo) ?_
  obtain ⟨cq18, kq18, q18a, q18b, q18c⟩ := isOf (s := (s.setVm T17.vm)) hZ17 rfl F17_96
  obtain ⟨_, _, ⟨T18, L18, k18, n18⟩, -, X18, ⟨Lc18, hQ18, l18, y18, z18⟩, st18⟩ := X17.interfaceBack hx (xi := mN33) (y := mN31) ho17 (mvT hZ17 (own_w hw 170 rfl)) (mvT hZ17 (own_w hw 171 rfl)) (mvT hZ17 (own_w hw 172 rfl)) (mvT hZ17 (own_w hw 173 rfl)) (mvT hZ17 (own_w hw 174 rfl)) (mvT hZ17 (own_w hw 175 rfl)) (mvT hZ17 (own_w hw 176 rfl)) (mvT hZ17 (own_w hw 105 rfl)) (by decide) (backOf (W := 0) (rm_add1_1 l Z a0 hw [] wG1 wG3 wG5 wK5 cx hEL T17.heap n0 Ol17 b1 ((0 : Int32) + (1 : Int32)) x_17 b_11 kb_11 x_10 F17_96 F17_102 F17_103 F17_104 F17_105 g_b_11 g_b1 fq17_0 pq11_0) hZ17 (own_w hw 177 rfl) (own_w hw 36 rfl) (by decide) (by decide)) q18a q18b q18c (g := (mkF m 49 #[vR a1, vR b1, vI (Int32.ofNat ja1), vI (Int32.ofNat ja2)] [(.ref x_17), (.ref b1)])) rfl (by rw [hml]; rfl) (Steps.refl _) (argsL := [(.ref x_17)]) (rest := []) (lenOf pd_81697300 rfl) rfl (Nat.le_of_eq rfl) (hb hby d32_49) (fun _ _ => ⟨rfl, rfl, (by decide : 6 + 0 ≤ _), (by decide : 29 + 0 ≤ _)⟩)
  dsimp only [Pt.U, Pt.locs, Pt.cells, Pt.slots] at X18 l18 y18 z18 st18 hQ18
  subst l18 y18 z18
  obtain ⟨rfl, Nq18, Kq18, fq18_0, fq18_1, fq18_2, fq18_3, fq18_4⟩ := hQ18
  refine OwnGoes.tr (T' := T18) (g' := (mkF m 54 #[vR a1, vR b1, vI (Int32.ofNat ja1), vI (Int32.ofNat ja2)] [(.int 1)])) st18 ?_
  have N18 := Fr.app N17 Nq18
  have F18_106 := F17_90.keep Kq18
  have F18_107 := F17_91.keep Kq18 (ninS ne_a1_b1 (ninS ne_a1_b_11 nin0))
  have F18_108 := F17_92.keep Kq18 (ninS ne_a1_b1 (ninS ne_a1_b_11 nin0))
  have F18_109 := F17_93.keep Kq18 (ninS ne_ta_b1 (ninS ne_ta_b_11 nin0))
  have F18_110 := F17_94.keep Kq18 (ninS ne_wG5_b1 (ninS ne_wG5_b_11 nin0))
  have F18_111 := Safe.keep Kq18 (sfS F17_95 (sfS F17_101 sf0)) R17.1 F17_95
  have F18_112 := F17_96.keep Kq18
  have F18_113 := F17_97.keep Kq18
  have F18_114 := F17_98.keep Kq18 (ninS (Exa.ne F17_97 F17_96 (by decide)) (ninS ne_x_10_b_11 nin0))
  have F18_115 := F17_99.keep Kq18 (ninS (Exa.ne F17_97 F17_96 (by decide)) (ninS ne_x_10_b_11 nin0))
  have F18_116 := F17_100.keep Kq18 (ninS (Ne.symm (Exa.neArv F17_96 F17_100 (own_w hw 35 rfl))) (ninS ne_t_10_b_11 nin0))
  have F18_117 := Safe.keep Kq18 (sfS F17_95 (sfS F17_101 sf0)) R17.1 F17_101
  have F18_118 := fq17_0.keep Kq18
  have F18_119 := fq17_1.keep Kq18 (ninS (Exa.ne fq17_0 F17_96 (by decide)) (ninS (Exa.neArv fq17_0 F17_105 (own_w hw 10 rfl)) nin0))
  have F18_120 := fq17_2.keep Kq18 (ninS (Exa.ne fq17_0 F17_96 (by decide)) (ninS (Exa.neArv fq17_0 F17_105 (own_w hw 10 rfl)) nin0))
  have F18_121 := fq17_3.keep Kq18 (ninS (Ne.symm (Exa.neArv F17_96 fq17_3 (own_w hw 35 rfl))) (ninS (own_arv_ty fq17_3 F17_105 (by decide)) nin0))
  have Ol18 := Ol17.keep Kq18 (allS g_b1 (allS g_b_11 all0))
  have K18 : Keep h0 T18.heap ([] : List Addr) := K17.trans Kq18 (allS (Or.inr s_b1) (allS (Or.inr s_b_11) all0))
  have R18 := R17.trans (CHr.keep Kq18 (sfS F17_95 (sfS F17_101 sf0)) R17.1)
  have hk18 := Nat.le_trans (Nat.le_refl _) Kq18.1
  refine og T18 m 25 #[vR a1, vR b1, vI (Int32.ofNat ja2), vI (Int32.ofNat ja2)] [(.int ((Int32.ofNat ja2) + (1 : Int32))), (.int 47), (.ref a1)] (fun tgt kgo => ?_) ?_
  · refine XS.pop X18.here hx rfl (hb hby d32_54) rfl rfl ?_
    refine XS.iloadN X18.here hx rfl (hb hby d32_55) rfl ?_
    refine XS.istoreN X18.here hx rfl (hb hby d32_56) rfl (l' := #[vR a1, vR b1, vI (Int32.ofNat ja2), vI (Int32.ofNat ja2)]) rfl ?_
    show OwnG p e below T18 m 57 #[vR a1, vR b1, vI (Int32.ofNat ja2), vI (Int32.ofNat ja2)] [] tgt
    refine XS.goto X18.here hx rfl (pc0 := 57) (pc' := 15) rfl (hb hby d32_57) (by decide) (by decide) ?_
    refine XS.iloadN X18.here hx rfl (hb hby d32_15) rfl ?_
    refine XS.ifNo X18.here hx rfl (hb hby d32_16) rfl ((if0 _ _).trans (flt (own_nat (by omega)).2.1).1) ?_
    show OwnG p e below T18 m 19 #[vR a1, vR b1, vI (Int32.ofNat ja2), vI (Int32.ofNat ja2)] [] tgt
    refine XS.aloadN X18.here hx rfl (hb hby d32_19) rfl rfl ?_
    refine XS.bipush X18.here hx rfl (hb hby d32_20) ?_
    refine XS.iloadN X18.here hx rfl (hb hby d32_22) rfl ?_
    show OwnG p e below T18 m 23 #[vR a1, vR b1, vI (Int32.ofNat ja2), vI (Int32.ofNat ja2)] [(.int (Int32.ofNat ja2)), (.int 47), (.ref a1)] tgt
    refine XS.iconst X18.here hx rfl (hb hby d32_23) ?_
    refine XS.iadd X18.here hx rfl (hb hby d32_24) rfl ?_
    exact kgo
  refine og T18 m 25 #[vR a1, vR b1, vI (Int32.ofNat ja2), vI (Int32.ofNat ja2)] [(.int (Int32.ofNat (ja2 + 1))), (.int 47), (.ref a1)] (fun tgt kgo => castTop (by rw [(own_add1 ja2)]) kgo) ?_
  obtain ⟨cq19, kq19, q19a, q19b, q19c⟩ := isOf (s := (s.setVm T17.vm)) hZ17 rfl F18_106
  obtain ⟨_, _, ⟨T19, L19, k19, n19⟩, -, X19, ⟨Lc19, hQ19, l19, y19, z19⟩, st19⟩ := X18.virtualBack hx (y := mN15) (z := mN15) ho17 (mvT hZ17 (own_w hw 134 rfl)) (mvT hZ17 (own_w hw 64 rfl)) (notFace_of_selects (args := #[]) (mvT hZ17 (own_w hw 66 rfl))) (mvT hZ17 (own_w hw 66 rfl)) (mvT hZ17 (own_w hw 65 rfl)) (by decide) (backOf (W := 0) (rm_sio l Z a0 hw [] wG1 wG3 wG5 wK5 cx hEL T18.heap n0 Ol18 a1 ta ka na vsa cs1 (ja2 + 1) F18_106 F18_107 F18_108 F18_109 hos (by omega)) hZ17 (own_w hw 67 rfl) (own_w hw 11 rfl) (by decide) (by decide)) q19a q19c (g := (mkF m 25 #[vR a1, vR b1, vI (Int32.ofNat ja2), vI (Int32.ofNat ja2)] [(.int (Int32.ofNat (ja2 + 1))), (.int 47), (.ref a1)])) rfl (by rw [hml]; rfl) (Steps.refl _) (argsL := [(.int 47), (.int (Int32.ofNat (ja2 + 1)))]) (rest := []) (lenOf pd_50523903 rfl) rfl (Nat.le_of_eq rfl) (hb hby d32_25) (fun _ _ => ⟨rfl, rfl, (by decide : 6 + 0 ≤ _), (by decide : 29 + 0 ≤ _)⟩)
  dsimp only [Pt.U, Pt.locs, Pt.cells, Pt.slots] at X19 l19 y19 z19 st19 hQ19
  subst l19 y19 z19
  obtain ⟨r_19, rfl, Nq19, eq19, pq19_0⟩ := hQ19
  refine OwnGoes.tr (T' := T19) (g' := (mkF m 28 #[vR a1, vR b1, vI (Int32.ofNat ja2), vI (Int32.ofNat ja2)] [(.int r_19)])) st19 ?_
  have N19 := Fr.app N18 Nq19
  rcases pq19_0 with ⟨rfl, hA3⟩ | ⟨ja3, rfl, hsa3, hsb3, hsc3, hsd3⟩
  · skip
    refine og T19 m 34 #[vR a1, vR b1, vI (Int32.ofNat ja2), vI (-1)] [(.int ((Int32.ofNat ja2) + (1 : Int32))), (.ref a1), (.ref b1)] (fun tgt kgo => ?_) ?_
    · refine XS.istoreN X19.here hx rfl (hb hby d32_28) rfl (l' := #[vR a1, vR b1, vI (Int32.ofNat ja2), vI (-1)]) rfl ?_
      refine XS.aloadN X19.here hx rfl (hb hby d32_29) rfl rfl ?_
      refine XS.aloadN X19.here hx rfl (hb hby d32_30) rfl rfl ?_
      show OwnG p e below T19 m 31 #[vR a1, vR b1, vI (Int32.ofNat ja2), vI (-1)] [(.ref a1), (.ref b1)] tgt
      refine XS.iloadN X19.here hx rfl (hb hby d32_31) rfl ?_
      refine XS.iconst X19.here hx rfl (hb hby d32_32) ?_
      refine XS.iadd X19.here hx rfl (hb hby d32_33) rfl ?_
      exact kgo
    refine og T19 m 34 #[vR a1, vR b1, vI (Int32.ofNat ja2), vI (-1)] [(.int (Int32.ofNat (ja2 + 1))), (.ref a1), (.ref b1)] (fun tgt kgo => castTop (by rw [(own_add1 ja2)]) kgo) ?_
    refine og T19 m 39 #[vR a1, vR b1, vI (Int32.ofNat ja2), vI (-1)] [(.ref a1), (.int (Int32.ofNat (ja2 + 1))), (.ref a1), (.ref b1)] (fun tgt kgo => ?_) ?_
    · refine XS.iloadN X19.here hx rfl (hb hby d32_34) rfl ?_
      refine XS.ifNo X19.here hx rfl (hb hby d32_35) rfl ((if0 _ _).trans (tlt (by decide : (-1 : Int32) < (0 : Int32))).2.1) ?_
      refine XS.aloadN X19.here hx rfl (hb hby d32_38) rfl rfl ?_
      exact kgo
    obtain ⟨cq20, kq20, q20a, q20b, q20c⟩ := isOf (s := (s.setVm T17.vm)) hZ17 eq19 F18_106
    obtain ⟨_, _, ⟨T20, L20, k20, n20⟩, -, X20, ⟨Lc20, hQ20, l20, y20, z20⟩, st20⟩ := X19.virtualBack hx (y := mN3) (z := mN3) ho17 (mvT hZ17 (own_w hw 199 rfl)) (mvT hZ17 (own_w hw 75 rfl)) (notFace_of_selects (args := #[]) (mvT hZ17 (own_w hw 77 rfl))) (mvT hZ17 (own_w hw 77 rfl)) (mvT hZ17 (own_w hw 76 rfl)) (by decide) (backOf (W := 3) (rm_len l Z a0 hw [] wG1 wG3 wG5 wK5 cx hEL T18.heap n0 Ol18 a1 ta ka na vsa F18_106 F18_107 F18_108 F18_109) hZ17 (own_w hw 78 rfl) (own_w hw 11 rfl) (by decide) (by decide)) q20a q20c (g := (mkF m 39 #[vR a1, vR b1, vI (Int32.ofNat ja2), vI (-1)] [(.ref a1), (.int (Int32.ofNat (ja2 + 1))), (.ref a1), (.ref b1)])) rfl (by rw [hml]; rfl) (Steps.refl _) (argsL := []) (rest := [(.int (Int32.ofNat (ja2 + 1))), (.ref a1), (.ref b1)]) (lenOf pd_86913941 rfl) rfl (Nat.le_of_eq rfl) (hb hby d32_39) (fun _ _ => ⟨rfl, eq19, (by decide : 6 + 0 ≤ _), (by decide : 29 + 0 ≤ _)⟩)
    dsimp only [Pt.U, Pt.locs, Pt.cells, Pt.slots] at X20 l20 y20 z20 st20 hQ20
    subst l20 y20 z20
    obtain ⟨rfl, Nq20, eq20⟩ := hQ20
    refine OwnGoes.tr (T' := T20) (g' := (mkF m 42 #[vR a1, vR b1, vI (Int32.ofNat ja2), vI (-1)] [(.int na), (.int (Int32.ofNat (ja2 + 1))), (.ref a1), (.ref b1)])) st20 ?_
    have N20 := Fr.app N19 Nq20
    refine og T20 m 46 #[vR a1, vR b1, vI (Int32.ofNat ja2), vI (-1)] [(.int na), (.int (Int32.ofNat (ja2 + 1))), (.ref a1), (.ref b1)] (fun tgt kgo => ?_) ?_
    · refine XS.goto X20.here hx rfl (pc0 := 42) (pc' := 46) rfl (hb hby d32_42) (by decide) (by decide) ?_
      exact kgo
    refine og T20 m 46 #[vR a1, vR b1, vI (Int32.ofNat ja2), vI (-1)] [(.int (Int32.ofNat ((ja2 + 1) + (cs1.length - (ja2 + 1))))), (.int (Int32.ofNat (ja2 + 1))), (.ref a1), (.ref b1)] (fun tgt kgo => castTop (by rw [(show na = (Int32.ofNat ((ja2 + 1) + (cs1.length - (ja2 + 1)))) by rw [(own_l0 hos).1]; congr 1; omega)]) kgo) ?_
    obtain ⟨cq21, kq21, q21a, q21b, q21c⟩ := isOf (s := (s.setVm T17.vm)) hZ17 eq20 F18_106
    obtain ⟨_, _, ⟨T21, L21, k21, n21⟩, -, X21, Si21, Gr21, ⟨Lc21, hQ21, l21, y21, z21, Rc21⟩, st21⟩ := X20.virtualBackS hx (y := mN24) (z := mN24) ho17 (mvT hZ17 (own_w hw 135 rfl)) (mvT hZ17 (own_w hw 136 rfl)) (notFace_of_selects (args := #[]) (mvT hZ17 (own_w hw 138 rfl))) (mvT hZ17 (own_w hw 138 rfl)) (mvT hZ17 (own_w hw 137 rfl)) (by decide) (backOfSH (W := 1) (rm_subs l Z a0 hw [] wG1 wG3 wG5 wK5 cx hEL T18.heap n0 Ol18 a1 ta ka na vsa cs1 (ja2 + 1) (cs1.length - (ja2 + 1)) F18_106 F18_107 F18_108 F18_109 hos (by omega) (by omega) hc4) hZ17 (own_w hw 139 rfl) (own_w hw 11 rfl) (by decide) (by decide) hEL R18.1) q21a q21c (g := (mkF m 46 #[vR a1, vR b1, vI (Int32.ofNat ja2), vI (-1)] [(.int (Int32.ofNat ((ja2 + 1) + (cs1.length - (ja2 + 1))))), (.int (Int32.ofNat (ja2 + 1))), (.ref a1), (.ref b1)])) rfl (by rw [hml]; rfl) (Steps.refl _) (argsL := [(.int (Int32.ofNat (ja2 + 1))), (.int (Int32.ofNat ((ja2 + 1) + (cs1.length - (ja2 + 1)))))]) (rest := [(.ref b1)]) (lenOf pd_28541291 rfl) rfl (Nat.le_of_eq rfl) (hb hby d32_46) (fun _ _ => ⟨rfl, eq20, (by decide : 6 + 2 ≤ _), (by decide : 29 + 8 ≤ _)⟩)
    dsimp only [Pt.U, Pt.locs, Pt.cells, Pt.slots] at X21 l21 y21 z21 st21 hQ21 Si21 Gr21 Rc21
    subst l21 y21 z21
    obtain ⟨x_21, t_21, k_21, N_21, vs_21, rfl, Nq21, Kq21, fq21_0, fq21_1, fq21_2, fq21_3, pq21_0⟩ := hQ21
    refine OwnGoes.tr (T' := T21) (g' := (mkF m 49 #[vR a1, vR b1, vI (Int32.ofNat ja2), vI (-1)] [(.ref x_21), (.ref b1)])) st21 ?_
    have N21 := Fr.app N20 Nq21
    have gz21 : T18.heap.size ≤ T21.heap.size := Rc21.2.1
    obtain ⟨X21, hS21, hZ21, ho21⟩ := rebS hS17 hk18 X21 Si21 gz21 hZ17 ho17
    have F21_122 := F18_106.keep Kq21
    have F21_123 := F18_107.keep Kq21 nin0
    have F21_124 := F18_108.keep Kq21 nin0
    have F21_125 := F18_109.keep Kq21 nin0
    have F21_126 := F18_110.keep Kq21 nin0
    have F21_127 := Rc21.safe fq18_0.lt F18_111
    have F21_128 := fq18_0.keep Kq21
    have F21_129 := F18_113.keep Kq21
    have F21_130 := F18_114.keep Kq21 nin0
    have F21_131 := F18_115.keep Kq21 nin0
    have F21_132 := F18_116.keep Kq21 nin0
    have F21_133 := Rc21.safe fq18_4.lt F18_117
    have F21_134 := F18_118.keep Kq21
    have F21_135 := F18_119.keep Kq21 nin0
    have F21_136 := F18_120.keep Kq21 nin0
    have F21_137 := F18_121.keep Kq21 nin0
    have F21_138 := fq18_1.keep Kq21 nin0
    have F21_139 := fq18_2.keep Kq21 nin0
    have F21_140 := fq18_3.keep Kq21 nin0
    have F21_141 := fq18_4.keep Kq21 nin0
    have Ol21 := Ol18.keep Kq21 all0
    have K21 : Keep h0 T21.heap ([] : List Addr) := K18.trans Kq21 all0
    have R21 := R18.trans Rc21
    obtain ⟨cq22, kq22, q22a, q22b, q22c⟩ := isOf (s := (s.setVm T21.vm)) hZ21 rfl F21_128
    obtain ⟨_, _, ⟨T22, L22, k22, n22⟩, -, X22, ⟨Lc22, hQ22, l22, y22, z22⟩, st22⟩ := X21.interfaceBack hx (xi := mN33) (y := mN31) ho21 (mvT hZ21 (own_w hw 170 rfl)) (mvT hZ21 (own_w hw 171 rfl)) (mvT hZ21 (own_w hw 172 rfl)) (mvT hZ21 (own_w hw 173 rfl)) (mvT hZ21 (own_w hw 174 rfl)) (mvT hZ21 (own_w hw 175 rfl)) (mvT hZ21 (own_w hw 176 rfl)) (mvT hZ21 (own_w hw 105 rfl)) (by decide) (backOf (W := 0) (rm_add1_2 l Z a0 hw [] wG1 wG3 wG5 wK5 cx hEL T21.heap n0 Ol21 b1 (((0 : Int32) + (1 : Int32)) + (1 : Int32)) x_21 b_11 kb_11 x_10 x_17 F21_128 F21_138 F21_139 F21_140 F21_141 g_b_11 g_b1 fq21_0 pq11_0) hZ21 (own_w hw 177 rfl) (own_w hw 36 rfl) (by decide) (by decide)) q22a q22b q22c (g := (mkF m 49 #[vR a1, vR b1, vI (Int32.ofNat ja2), vI (-1)] [(.ref x_21), (.ref b1)])) rfl (by rw [hml]; rfl) (Steps.refl _) (argsL := [(.ref x_21)]) (rest := []) (lenOf pd_81697300 rfl) rfl (Nat.le_of_eq rfl) (hb hby d32_49) (fun _ _ => ⟨rfl, rfl, (by decide : 8 + 0 ≤ _), (by decide : 37 + 0 ≤ _)⟩)
    dsimp only [Pt.U, Pt.locs, Pt.cells, Pt.slots] at X22 l22 y22 z22 st22 hQ22
    subst l22 y22 z22
    obtain ⟨rfl, Nq22, Kq22, fq22_0, fq22_1, fq22_2, fq22_3, fq22_4⟩ := hQ22
    refine OwnGoes.tr (T' := T22) (g' := (mkF m 54 #[vR a1, vR b1, vI (Int32.ofNat ja2), vI (-1)] [(.int 1)])) st22 ?_
    have N22 := Fr.app N21 Nq22
    have F22_142 := F21_122.keep Kq22
    have F22_143 := F21_123.keep Kq22 (ninS ne_a1_b1 (ninS ne_a1_b_11 nin0))
    have F22_144 := F21_124.keep Kq22 (ninS ne_a1_b1 (ninS ne_a1_b_11 nin0))
    have F22_145 := F21_125.keep Kq22 (ninS ne_ta_b1 (ninS ne_ta_b_11 nin0))
    have F22_146 := F21_126.keep Kq22 (ninS ne_wG5_b1 (ninS ne_wG5_b_11 nin0))
    have F22_147 := Safe.keep Kq22 (sfS F21_127 (sfS F21_133 sf0)) R21.1 F21_127
    have F22_148 := F21_128.keep Kq22
    have F22_149 := F21_129.keep Kq22
    have F22_150 := F21_130.keep Kq22 (ninS (Exa.ne F21_129 F21_128 (by decide)) (ninS ne_x_10_b_11 nin0))
    have F22_151 := F21_131.keep Kq22 (ninS (Exa.ne F21_129 F21_128 (by decide)) (ninS ne_x_10_b_11 nin0))
    have F22_152 := F21_132.keep Kq22 (ninS (Ne.symm (Exa.neArv F21_128 F21_132 (own_w hw 35 rfl))) (ninS ne_t_10_b_11 nin0))
    have F22_153 := Safe.keep Kq22 (sfS F21_127 (sfS F21_133 sf0)) R21.1 F21_133
    have F22_154 := F21_134.keep Kq22
    have F22_155 := F21_135.keep Kq22 (ninS (Exa.ne F21_134 F21_128 (by decide)) (ninS (Exa.neArv F21_134 F21_141 (own_w hw 10 rfl)) nin0))
    have F22_156 := F21_136.keep Kq22 (ninS (Exa.ne F21_134 F21_128 (by decide)) (ninS (Exa.neArv F21_134 F21_141 (own_w hw 10 rfl)) nin0))
    have F22_157 := F21_137.keep Kq22 (ninS (Ne.symm (Exa.neArv F21_128 F21_137 (own_w hw 35 rfl))) (ninS (own_arv_ty F21_137 F21_141 (by decide)) nin0))
    have F22_158 := fq21_0.keep Kq22
    have F22_159 := fq21_1.keep Kq22 (ninS (Exa.ne fq21_0 F21_128 (by decide)) (ninS (Exa.neArv fq21_0 F21_141 (own_w hw 10 rfl)) nin0))
    have F22_160 := fq21_2.keep Kq22 (ninS (Exa.ne fq21_0 F21_128 (by decide)) (ninS (Exa.neArv fq21_0 F21_141 (own_w hw 10 rfl)) nin0))
    have F22_161 := fq21_3.keep Kq22 (ninS (Ne.symm (Exa.neArv F21_128 fq21_3 (own_w hw 35 rfl))) (ninS (own_arv_ty fq21_3 F21_141 (by decide)) nin0))
    have Ol22 := Ol21.keep Kq22 (allS g_b1 (allS g_b_11 all0))
    have K22 : Keep h0 T22.heap ([] : List Addr) := K21.trans Kq22 (allS (Or.inr s_b1) (allS (Or.inr s_b_11) all0))
    have R22 := R21.trans (CHr.keep Kq22 (sfS F21_127 (sfS F21_133 sf0)) R21.1)
    have hk22 := Nat.le_trans (Nat.le_refl _) Kq22.1
    refine og T22 m 61 #[vR a1, vR b1, vI (-1), vI (-1)] [(.ref b1)] (fun tgt kgo => ?_) ?_
    · refine XS.pop X22.here hx rfl (hb hby d32_54) rfl rfl ?_
      refine XS.iloadN X22.here hx rfl (hb hby d32_55) rfl ?_
      refine XS.istoreN X22.here hx rfl (hb hby d32_56) rfl (l' := #[vR a1, vR b1, vI (-1), vI (-1)]) rfl ?_
      show OwnG p e below T22 m 57 #[vR a1, vR b1, vI (-1), vI (-1)] [] tgt
      refine XS.goto X22.here hx rfl (pc0 := 57) (pc' := 15) rfl (hb hby d32_57) (by decide) (by decide) ?_
      refine XS.iloadN X22.here hx rfl (hb hby d32_15) rfl ?_
      refine XS.ifYes X22.here hx rfl (pc0 := 16) (pc' := 60) rfl (hb hby d32_16) rfl ((if0 _ _).trans (tlt (by decide : (-1 : Int32) < (0 : Int32))).1) (by decide) (by decide) ?_
      show OwnG p e below T22 m 60 #[vR a1, vR b1, vI (-1), vI (-1)] [] tgt
      refine XS.aloadN X22.here hx rfl (hb hby d32_60) rfl rfl ?_
      exact kgo
    have hSeg : OwnSegs Z T22.heap b1 (own_segs cs1) := by
      rw [(own_i2 hsb0 hsc0 hsd0), (own_i4 hsa1 hsb1 hsc1 hsd1), (own_i4 hsa2 hsb2 hsc2 hsd2), (own_i3 hA3)]
      refine ⟨_, _, _, _, fq22_0, fq22_3, fq22_2, fq22_4, Nat.le_of_ble_eq_true rfl, ?_⟩
      intro k hk
      match k, hk with
      | 0, _ => exact ⟨⟨_, _, _, _, _, rfl, F22_149, F22_150, F22_151, F22_152, pq10_0⟩, by decide, by decide⟩
      | 1, _ => exact ⟨⟨_, _, _, _, _, rfl, F22_154, F22_155, F22_156, F22_157, pq17_0⟩, by decide, by decide⟩
      | 2, _ => exact ⟨⟨_, _, _, _, _, rfl, F22_158, F22_159, F22_160, F22_161, pq21_0⟩, by decide, by decide⟩
      | (k + 3), hk => exact absurd hk (by simp only [List.length_cons, List.length_nil]; omega)
    have hret : ∀ fs, (∀ (f : JFrame) (acts : List Action), f.method = m → f.locked = none → f.entered = [] → (doReturn e (T22.setTop f) acts (some (.ref b1))).1 = T22.setFrames fs) → Steps p.tables e below (T22.setTop (mkF m 61 #[vR a1, vR b1, vI (-1), vI (-1)] [(.ref b1)])) (T22.setFrames fs) := by
      intro fs hr
      jvm_step X22.here [X22.here.top, hx, (hb hby d32_61), X22.method', Bd.returns, Value.isRef, FieldType.isReference]
      first | (intro acts; rw [hr _ acts rfl rfl rfl]) | rw [hr _ _ rfl rfl rfl]
      exact Steps.refl _
    refine own_leaveW (Z := Z) (EL := consts_1) X22 hS21 hk22 hlk (v := some (.ref b1)) (fun h => by rw [Bd.returns] at h; cases h) hret (by decide) (by decide) ?_ ?_
    · rw [hh]
      exact R22.trans (CHv.at X22 hZ21 hEL R22.1)
    show Q_segm Z a1 ta ka na vsa cs1 h0 n0 _ T22.heap _
    exact ⟨b1, rfl, N22, K22, hSeg⟩
  refine og T19 m 34 #[vR a1, vR b1, vI (Int32.ofNat ja2), vI (Int32.ofNat ja3)] [(.int ((Int32.ofNat ja2) + (1 : Int32))), (.ref a1), (.ref b1)] (fun tgt kgo => ?_) ?_
  · refine XS.istoreN X19.here hx rfl (hb hby d32_28) rfl (l' := #[vR a1, vR b1, vI (Int32.ofNat ja2), vI (Int32.ofNat ja3)]) rfl ?_
    refine XS.aloadN X19.here hx rfl (hb hby d32_29) rfl rfl ?_
    refine XS.aloadN X19.here hx rfl (hb hby d32_30) rfl rfl ?_
    show OwnG p e below T19 m 31 #[vR a1, vR b1, vI (Int32.ofNat ja2), vI (Int32.ofNat ja3)] [(.ref a1), (.ref b1)] tgt
    refine XS.iloadN X19.here hx rfl (hb hby d32_31) rfl ?_
    refine XS.iconst X19.here hx rfl (hb hby d32_32) ?_
    refine XS.iadd X19.here hx rfl (hb hby d32_33) rfl ?_
    exact kgo
  refine og T19 m 34 #[vR a1, vR b1, vI (Int32.ofNat ja2), vI (Int32.ofNat ja3)] [(.int (Int32.ofNat (ja2 + 1))), (.ref a1), (.ref b1)] (fun tgt kgo => castTop (by rw [(own_add1 ja2)]) kgo) ?_
  refine og T19 m 46 #[vR a1, vR b1, vI (Int32.ofNat ja2), vI (Int32.ofNat ja3)] [(.int (Int32.ofNat ja3)), (.int (Int32.ofNat (ja2 + 1))), (.ref a1), (.ref b1)] (fun tgt kgo => ?_) ?_
  · refine XS.iloadN X19.here hx rfl (hb hby d32_34) rfl ?_
    refine XS.ifYes X19.here hx rfl (pc0 := 35) (pc' := 45) rfl (hb hby d32_35) rfl ((if0 _ _).trans (flt (own_nat (by omega)).2.1).2.1) (by decide) (by decide) ?_
    refine XS.iloadN X19.here hx rfl (hb hby d32_45) rfl ?_
    exact kgo
  refine og T19 m 46 #[vR a1, vR b1, vI (Int32.ofNat ja2), vI (Int32.ofNat ((ja2 + 1) + (ja3 - (ja2 + 1))))] [(.int (Int32.ofNat ((ja2 + 1) + (ja3 - (ja2 + 1))))), (.int (Int32.ofNat (ja2 + 1))), (.ref a1), (.ref b1)] (fun tgt kgo => castTop (by rw [(congrArg Int32.ofNat (show ja3 = (ja2 + 1) + (ja3 - (ja2 + 1)) by omega))]) kgo) ?_
  obtain ⟨cq24, kq24, q24a, q24b, q24c⟩ := isOf (s := (s.setVm T17.vm)) hZ17 eq19 F18_106
  obtain ⟨_, _, ⟨T24, L24, k24, n24⟩, -, X24, Si24, Gr24, ⟨Lc24, hQ24, l24, y24, z24, Rc24⟩, st24⟩ := X19.virtualBackS hx (y := mN24) (z := mN24) ho17 (mvT hZ17 (own_w hw 135 rfl)) (mvT hZ17 (own_w hw 136 rfl)) (notFace_of_selects (args := #[]) (mvT hZ17 (own_w hw 138 rfl))) (mvT hZ17 (own_w hw 138 rfl)) (mvT hZ17 (own_w hw 137 rfl)) (by decide) (backOfSH (W := 1) (rm_subs l Z a0 hw [] wG1 wG3 wG5 wK5 cx hEL T18.heap n0 Ol18 a1 ta ka na vsa cs1 (ja2 + 1) (ja3 - (ja2 + 1)) F18_106 F18_107 F18_108 F18_109 hos (by omega) (by omega) hc4) hZ17 (own_w hw 139 rfl) (own_w hw 11 rfl) (by decide) (by decide) hEL R18.1) q24a q24c (g := (mkF m 46 #[vR a1, vR b1, vI (Int32.ofNat ja2), vI (Int32.ofNat ((ja2 + 1) + (ja3 - (ja2 + 1))))] [(.int (Int32.ofNat ((ja2 + 1) + (ja3 - (ja2 + 1))))), (.int (Int32.ofNat (ja2 + 1))), (.ref a1), (.ref b1)])) rfl (by rw [hml]; rfl) (Steps.refl _) (argsL := [(.int (Int32.ofNat (ja2 + 1))), (.int (Int32.ofNat ((ja2 + 1) + (ja3 - (ja2 + 1)))))]) (rest := [(.ref b1)]) (lenOf pd_28541291 rfl) rfl (Nat.le_of_eq rfl) (hb hby d32_46) (fun _ _ => ⟨rfl, eq19, (by decide : 6 + 2 ≤ _), (by decide : 29 + 8 ≤ _)⟩)
  dsimp only [Pt.U, Pt.locs, Pt.cells, Pt.slots] at X24 l24 y24 z24 st24 hQ24 Si24 Gr24 Rc24
  subst l24 y24 z24
  obtain ⟨x_24, t_24, k_24, N_24, vs_24, rfl, Nq24, Kq24, fq24_0, fq24_1, fq24_2, fq24_3, pq24_0⟩ := hQ24
  refine OwnGoes.tr (T' := T24) (g' := (mkF m 49 #[vR a1, vR b1, vI (Int32.ofNat ja2), vI (Int32.ofNat ((ja2 + 1) + (ja3 - (ja2 + 1))))] [(.ref x_24), (.ref b1)])) st24 ?_
  have N24 := Fr.app N19 Nq24
  have gz24 : T18.heap.size ≤ T24.heap.size := Rc24.2.1
  obtain ⟨X24, hS24, hZ24, ho24⟩ := rebS hS17 hk18 X24 Si24 gz24 hZ17 ho17
  have F24_162 := F18_106.keep Kq24
  have F24_163 := F18_107.keep Kq24 nin0
  have F24_164 := F18_108.keep Kq24 nin0
  have F24_165 := F18_109.keep Kq24 nin0
  have F24_166 := F18_110.keep Kq24 nin0
  have F24_167 := Rc24.safe fq18_0.lt F18_111
  have F24_168 := fq18_0.keep Kq24
  have F24_169 := F18_113.keep Kq24
  have F24_170 := F18_114.keep Kq24 nin0
  have F24_171 := F18_115.keep Kq24 nin0
  have F24_172 := F18_116.keep Kq24 nin0
  have F24_173 := Rc24.safe fq18_4.lt F18_117
  have F24_174 := F18_118.keep Kq24
  have F24_175 := F18_119.keep Kq24 nin0
  have F24_176 := F18_120.keep Kq24 nin0
  have F24_177 := F18_121.keep Kq24 nin0
  have F24_178 := fq18_1.keep Kq24 nin0
  have F24_179 := fq18_2.keep Kq24 nin0
  have F24_180 := fq18_3.keep Kq24 nin0
  have F24_181 := fq18_4.keep Kq24 nin0
  have Ol24 := Ol18.keep Kq24 all0
  have K24 : Keep h0 T24.heap ([] : List Addr) := K18.trans Kq24 all0
  have R24 := R18.trans Rc24
  refine og T24 m 49 #[vR a1, vR b1, vI (Int32.ofNat ja2), vI (Int32.ofNat ja3)] [(.ref x_24), (.ref b1)] (fun tgt kgo => castTop (by rw [(congrArg Int32.ofNat (show (ja2 + 1) + (ja3 - (ja2 + 1)) = ja3 by omega))]) kgo) ?_
  obtain ⟨cq25, kq25, q25a, q25b, q25c⟩ := isOf (s := (s.setVm T24.vm)) hZ24 rfl F24_168
  obtain ⟨_, _, ⟨T25, L25, k25, n25⟩, -, X25, ⟨Lc25, hQ25, l25, y25, z25⟩, st25⟩ := X24.interfaceBack hx (xi := mN33) (y := mN31) ho24 (mvT hZ24 (own_w hw 170 rfl)) (mvT hZ24 (own_w hw 171 rfl)) (mvT hZ24 (own_w hw 172 rfl)) (mvT hZ24 (own_w hw 173 rfl)) (mvT hZ24 (own_w hw 174 rfl)) (mvT hZ24 (own_w hw 175 rfl)) (mvT hZ24 (own_w hw 176 rfl)) (mvT hZ24 (own_w hw 105 rfl)) (by decide) (backOf (W := 0) (rm_add1_2 l Z a0 hw [] wG1 wG3 wG5 wK5 cx hEL T24.heap n0 Ol24 b1 (((0 : Int32) + (1 : Int32)) + (1 : Int32)) x_24 b_11 kb_11 x_10 x_17 F24_168 F24_178 F24_179 F24_180 F24_181 g_b_11 g_b1 fq24_0 pq11_0) hZ24 (own_w hw 177 rfl) (own_w hw 36 rfl) (by decide) (by decide)) q25a q25b q25c (g := (mkF m 49 #[vR a1, vR b1, vI (Int32.ofNat ja2), vI (Int32.ofNat ja3)] [(.ref x_24), (.ref b1)])) rfl (by rw [hml]; rfl) (Steps.refl _) (argsL := [(.ref x_24)]) (rest := []) (lenOf pd_81697300 rfl) rfl (Nat.le_of_eq rfl) (hb hby d32_49) (fun _ _ => ⟨rfl, rfl, (by decide : 8 + 0 ≤ _), (by decide : 37 + 0 ≤ _)⟩)
  dsimp only [Pt.U, Pt.locs, Pt.cells, Pt.slots] at X25 l25 y25 z25 st25 hQ25
  subst l25 y25 z25
  obtain ⟨rfl, Nq25, Kq25, fq25_0, fq25_1, fq25_2, fq25_3, fq25_4⟩ := hQ25
  refine OwnGoes.tr (T' := T25) (g' := (mkF m 54 #[vR a1, vR b1, vI (Int32.ofNat ja2), vI (Int32.ofNat ja3)] [(.int 1)])) st25 ?_
  have N25 := Fr.app N24 Nq25
  have F25_182 := F24_162.keep Kq25
  have F25_183 := F24_163.keep Kq25 (ninS ne_a1_b1 (ninS ne_a1_b_11 nin0))
  have F25_184 := F24_164.keep Kq25 (ninS ne_a1_b1 (ninS ne_a1_b_11 nin0))
  have F25_185 := F24_165.keep Kq25 (ninS ne_ta_b1 (ninS ne_ta_b_11 nin0))
  have F25_186 := F24_166.keep Kq25 (ninS ne_wG5_b1 (ninS ne_wG5_b_11 nin0))
  have F25_187 := Safe.keep Kq25 (sfS F24_167 (sfS F24_173 sf0)) R24.1 F24_167
  have F25_188 := F24_168.keep Kq25
  have F25_189 := F24_169.keep Kq25
  have F25_190 := F24_170.keep Kq25 (ninS (Exa.ne F24_169 F24_168 (by decide)) (ninS ne_x_10_b_11 nin0))
  have F25_191 := F24_171.keep Kq25 (ninS (Exa.ne F24_169 F24_168 (by decide)) (ninS ne_x_10_b_11 nin0))
  have F25_192 := F24_172.keep Kq25 (ninS (Ne.symm (Exa.neArv F24_168 F24_172 (own_w hw 35 rfl))) (ninS ne_t_10_b_11 nin0))
  have F25_193 := Safe.keep Kq25 (sfS F24_167 (sfS F24_173 sf0)) R24.1 F24_173
  have F25_194 := F24_174.keep Kq25
  have F25_195 := F24_175.keep Kq25 (ninS (Exa.ne F24_174 F24_168 (by decide)) (ninS (Exa.neArv F24_174 F24_181 (own_w hw 10 rfl)) nin0))
  have F25_196 := F24_176.keep Kq25 (ninS (Exa.ne F24_174 F24_168 (by decide)) (ninS (Exa.neArv F24_174 F24_181 (own_w hw 10 rfl)) nin0))
  have F25_197 := F24_177.keep Kq25 (ninS (Ne.symm (Exa.neArv F24_168 F24_177 (own_w hw 35 rfl))) (ninS (own_arv_ty F24_177 F24_181 (by decide)) nin0))
  have F25_198 := fq24_0.keep Kq25
  have F25_199 := fq24_1.keep Kq25 (ninS (Exa.ne fq24_0 F24_168 (by decide)) (ninS (Exa.neArv fq24_0 F24_181 (own_w hw 10 rfl)) nin0))
  have F25_200 := fq24_2.keep Kq25 (ninS (Exa.ne fq24_0 F24_168 (by decide)) (ninS (Exa.neArv fq24_0 F24_181 (own_w hw 10 rfl)) nin0))
  have F25_201 := fq24_3.keep Kq25 (ninS (Ne.symm (Exa.neArv F24_168 fq24_3 (own_w hw 35 rfl))) (ninS (own_arv_ty fq24_3 F24_181 (by decide)) nin0))
  have Ol25 := Ol24.keep Kq25 (allS g_b1 (allS g_b_11 all0))
  have K25 : Keep h0 T25.heap ([] : List Addr) := K24.trans Kq25 (allS (Or.inr s_b1) (allS (Or.inr s_b_11) all0))
  have R25 := R24.trans (CHr.keep Kq25 (sfS F24_167 (sfS F24_173 sf0)) R24.1)
  have hk25 := Nat.le_trans (Nat.le_refl _) Kq25.1
  refine og T25 m 25 #[vR a1, vR b1, vI (Int32.ofNat ja3), vI (Int32.ofNat ja3)] [(.int ((Int32.ofNat ja3) + (1 : Int32))), (.int 47), (.ref a1)] (fun tgt kgo => ?_) ?_
  · refine XS.pop X25.here hx rfl (hb hby d32_54) rfl rfl ?_
    refine XS.iloadN X25.here hx rfl (hb hby d32_55) rfl ?_
    refine XS.istoreN X25.here hx rfl (hb hby d32_56) rfl (l' := #[vR a1, vR b1, vI (Int32.ofNat ja3), vI (Int32.ofNat ja3)]) rfl ?_
    show OwnG p e below T25 m 57 #[vR a1, vR b1, vI (Int32.ofNat ja3), vI (Int32.ofNat ja3)] [] tgt
    refine XS.goto X25.here hx rfl (pc0 := 57) (pc' := 15) rfl (hb hby d32_57) (by decide) (by decide) ?_
    refine XS.iloadN X25.here hx rfl (hb hby d32_15) rfl ?_
    refine XS.ifNo X25.here hx rfl (hb hby d32_16) rfl ((if0 _ _).trans (flt (own_nat (by omega)).2.1).1) ?_
    show OwnG p e below T25 m 19 #[vR a1, vR b1, vI (Int32.ofNat ja3), vI (Int32.ofNat ja3)] [] tgt
    refine XS.aloadN X25.here hx rfl (hb hby d32_19) rfl rfl ?_
    refine XS.bipush X25.here hx rfl (hb hby d32_20) ?_
    refine XS.iloadN X25.here hx rfl (hb hby d32_22) rfl ?_
    show OwnG p e below T25 m 23 #[vR a1, vR b1, vI (Int32.ofNat ja3), vI (Int32.ofNat ja3)] [(.int (Int32.ofNat ja3)), (.int 47), (.ref a1)] tgt
    refine XS.iconst X25.here hx rfl (hb hby d32_23) ?_
    refine XS.iadd X25.here hx rfl (hb hby d32_24) rfl ?_
    exact kgo
  refine og T25 m 25 #[vR a1, vR b1, vI (Int32.ofNat ja3), vI (Int32.ofNat ja3)] [(.int (Int32.ofNat (ja3 + 1))), (.int 47), (.ref a1)] (fun tgt kgo => castTop (by rw [(own_add1 ja3)]) kgo) ?_
  obtain ⟨cq26, kq26, q26a, q26b, q26c⟩ := isOf (s := (s.setVm T24.vm)) hZ24 rfl F25_182
  obtain ⟨_, _, ⟨T26, L26, k26, n26⟩, -, X26, ⟨Lc26, hQ26, l26, y26, z26⟩, st26⟩ := X25.virtualBack hx (y := mN15) (z := mN15) ho24 (mvT hZ24 (own_w hw 134 rfl)) (mvT hZ24 (own_w hw 64 rfl)) (notFace_of_selects (args := #[]) (mvT hZ24 (own_w hw 66 rfl))) (mvT hZ24 (own_w hw 66 rfl)) (mvT hZ24 (own_w hw 65 rfl)) (by decide) (backOf (W := 0) (rm_sio l Z a0 hw [] wG1 wG3 wG5 wK5 cx hEL T25.heap n0 Ol25 a1 ta ka na vsa cs1 (ja3 + 1) F25_182 F25_183 F25_184 F25_185 hos (by omega)) hZ24 (own_w hw 67 rfl) (own_w hw 11 rfl) (by decide) (by decide)) q26a q26c (g := (mkF m 25 #[vR a1, vR b1, vI (Int32.ofNat ja3), vI (Int32.ofNat ja3)] [(.int (Int32.ofNat (ja3 + 1))), (.int 47), (.ref a1)])) rfl (by rw [hml]; rfl) (Steps.refl _) (argsL := [(.int 47), (.int (Int32.ofNat (ja3 + 1)))]) (rest := []) (lenOf pd_50523903 rfl) rfl (Nat.le_of_eq rfl) (hb hby d32_25) (fun _ _ => ⟨rfl, rfl, (by decide : 8 + 0 ≤ _), (by decide : 37 + 0 ≤ _)⟩)
  dsimp only [Pt.U, Pt.locs, Pt.cells, Pt.slots] at X26 l26 y26 z26 st26 hQ26
  subst l26 y26 z26
  obtain ⟨r_26, rfl, Nq26, eq26, pq26_0⟩ := hQ26
  refine OwnGoes.tr (T' := T26) (g' := (mkF m 28 #[vR a1, vR b1, vI (Int32.ofNat ja3), vI (Int32.ofNat ja3)] [(.int r_26)])) st26 ?_
  have N26 := Fr.app N25 Nq26
  rcases pq26_0 with ⟨rfl, hA4⟩ | ⟨ja4, rfl, hsa4, hsb4, hsc4, hsd4⟩
  · skip
    refine og T26 m 34 #[vR a1, vR b1, vI (Int32.ofNat ja3), vI (-1)] [(.int ((Int32.ofNat ja3) + (1 : Int32))), (.ref a1), (.ref b1)] (fun tgt kgo => ?_) ?_
    · refine XS.istoreN X26.here hx rfl (hb hby d32_28) rfl (l' := #[vR a1, vR b1, vI (Int32.ofNat ja3), vI (-1)]) rfl ?_
      refine XS.aloadN X26.here hx rfl (hb hby d32_29) rfl rfl ?_
      refine XS.aloadN X26.here hx rfl (hb hby d32_30) rfl rfl ?_
      show OwnG p e below T26 m 31 #[vR a1, vR b1, vI (Int32.ofNat ja3), vI (-1)] [(.ref a1), (.ref b1)] tgt
      refine XS.iloadN X26.here hx rfl (hb hby d32_31) rfl ?_
      refine XS.iconst X26.here hx rfl (hb hby d32_32) ?_
      refine XS.iadd X26.here hx rfl (hb hby d32_33) rfl ?_
      exact kgo
    refine og T26 m 34 #[vR a1, vR b1, vI (Int32.ofNat ja3), vI (-1)] [(.int (Int32.ofNat (ja3 + 1))), (.ref a1), (.ref b1)] (fun tgt kgo => castTop (by rw [(own_add1 ja3)]) kgo) ?_
    refine og T26 m 39 #[vR a1, vR b1, vI (Int32.ofNat ja3), vI (-1)] [(.ref a1), (.int (Int32.ofNat (ja3 + 1))), (.ref a1), (.ref b1)] (fun tgt kgo => ?_) ?_
    · refine XS.iloadN X26.here hx rfl (hb hby d32_34) rfl ?_
      refine XS.ifNo X26.here hx rfl (hb hby d32_35) rfl ((if0 _ _).trans (tlt (by decide : (-1 : Int32) < (0 : Int32))).2.1) ?_
      refine XS.aloadN X26.here hx rfl (hb hby d32_38) rfl rfl ?_
      exact kgo
    obtain ⟨cq27, kq27, q27a, q27b, q27c⟩ := isOf (s := (s.setVm T24.vm)) hZ24 eq26 F25_182
    obtain ⟨_, _, ⟨T27, L27, k27, n27⟩, -, X27, ⟨Lc27, hQ27, l27, y27, z27⟩, st27⟩ := X26.virtualBack hx (y := mN3) (z := mN3) ho24 (mvT hZ24 (own_w hw 199 rfl)) (mvT hZ24 (own_w hw 75 rfl)) (notFace_of_selects (args := #[]) (mvT hZ24 (own_w hw 77 rfl))) (mvT hZ24 (own_w hw 77 rfl)) (mvT hZ24 (own_w hw 76 rfl)) (by decide) (backOf (W := 3) (rm_len l Z a0 hw [] wG1 wG3 wG5 wK5 cx hEL T25.heap n0 Ol25 a1 ta ka na vsa F25_182 F25_183 F25_184 F25_185) hZ24 (own_w hw 78 rfl) (own_w hw 11 rfl) (by decide) (by decide)) q27a q27c (g := (mkF m 39 #[vR a1, vR b1, vI (Int32.ofNat ja3), vI (-1)] [(.ref a1), (.int (Int32.ofNat (ja3 + 1))), (.ref a1), (.ref b1)])) rfl (by rw [hml]; rfl) (Steps.refl _) (argsL := []) (rest := [(.int (Int32.ofNat (ja3 + 1))), (.ref a1), (.ref b1)]) (lenOf pd_86913941 rfl) rfl (Nat.le_of_eq rfl) (hb hby d32_39) (fun _ _ => ⟨rfl, eq26, (by decide : 8 + 0 ≤ _), (by decide : 37 + 0 ≤ _)⟩)
    dsimp only [Pt.U, Pt.locs, Pt.cells, Pt.slots] at X27 l27 y27 z27 st27 hQ27
    subst l27 y27 z27
    obtain ⟨rfl, Nq27, eq27⟩ := hQ27
    refine OwnGoes.tr (T' := T27) (g' := (mkF m 42 #[vR a1, vR b1, vI (Int32.ofNat ja3), vI (-1)] [(.int na), (.int (Int32.ofNat (ja3 + 1))), (.ref a1), (.ref b1)])) st27 ?_
    have N27 := Fr.app N26 Nq27
    refine og T27 m 46 #[vR a1, vR b1, vI (Int32.ofNat ja3), vI (-1)] [(.int na), (.int (Int32.ofNat (ja3 + 1))), (.ref a1), (.ref b1)] (fun tgt kgo => ?_) ?_
    · refine XS.goto X27.here hx rfl (pc0 := 42) (pc' := 46) rfl (hb hby d32_42) (by decide) (by decide) ?_
      exact kgo
    refine og T27 m 46 #[vR a1, vR b1, vI (Int32.ofNat ja3), vI (-1)] [(.int (Int32.ofNat ((ja3 + 1) + (cs1.length - (ja3 + 1))))), (.int (Int32.ofNat (ja3 + 1))), (.ref a1), (.ref b1)] (fun tgt kgo => castTop (by rw [(show na = (Int32.ofNat ((ja3 + 1) + (cs1.length - (ja3 + 1)))) by rw [(own_l0 hos).1]; congr 1; omega)]) kgo) ?_
    obtain ⟨cq28, kq28, q28a, q28b, q28c⟩ := isOf (s := (s.setVm T24.vm)) hZ24 eq27 F25_182
    obtain ⟨_, _, ⟨T28, L28, k28, n28⟩, -, X28, Si28, Gr28, ⟨Lc28, hQ28, l28, y28, z28, Rc28⟩, st28⟩ := X27.virtualBackS hx (y := mN24) (z := mN24) ho24 (mvT hZ24 (own_w hw 135 rfl)) (mvT hZ24 (own_w hw 136 rfl)) (notFace_of_selects (args := #[]) (mvT hZ24 (own_w hw 138 rfl))) (mvT hZ24 (own_w hw 138 rfl)) (mvT hZ24 (own_w hw 137 rfl)) (by decide) (backOfSH (W := 1) (rm_subs l Z a0 hw [] wG1 wG3 wG5 wK5 cx hEL T25.heap n0 Ol25 a1 ta ka na vsa cs1 (ja3 + 1) (cs1.length - (ja3 + 1)) F25_182 F25_183 F25_184 F25_185 hos (by omega) (by omega) hc4) hZ24 (own_w hw 139 rfl) (own_w hw 11 rfl) (by decide) (by decide) hEL R25.1) q28a q28c (g := (mkF m 46 #[vR a1, vR b1, vI (Int32.ofNat ja3), vI (-1)] [(.int (Int32.ofNat ((ja3 + 1) + (cs1.length - (ja3 + 1))))), (.int (Int32.ofNat (ja3 + 1))), (.ref a1), (.ref b1)])) rfl (by rw [hml]; rfl) (Steps.refl _) (argsL := [(.int (Int32.ofNat (ja3 + 1))), (.int (Int32.ofNat ((ja3 + 1) + (cs1.length - (ja3 + 1)))))]) (rest := [(.ref b1)]) (lenOf pd_28541291 rfl) rfl (Nat.le_of_eq rfl) (hb hby d32_46) (fun _ _ => ⟨rfl, eq27, (by decide : 8 + 2 ≤ _), (by decide : 37 + 8 ≤ _)⟩)
    dsimp only [Pt.U, Pt.locs, Pt.cells, Pt.slots] at X28 l28 y28 z28 st28 hQ28 Si28 Gr28 Rc28
    subst l28 y28 z28
    obtain ⟨x_28, t_28, k_28, N_28, vs_28, rfl, Nq28, Kq28, fq28_0, fq28_1, fq28_2, fq28_3, pq28_0⟩ := hQ28
    refine OwnGoes.tr (T' := T28) (g' := (mkF m 49 #[vR a1, vR b1, vI (Int32.ofNat ja3), vI (-1)] [(.ref x_28), (.ref b1)])) st28 ?_
    have N28 := Fr.app N27 Nq28
    have gz28 : T25.heap.size ≤ T28.heap.size := Rc28.2.1
    obtain ⟨X28, hS28, hZ28, ho28⟩ := rebS hS24 hk25 X28 Si28 gz28 hZ24 ho24
    have F28_202 := F25_182.keep Kq28
    have F28_203 := F25_183.keep Kq28 nin0
    have F28_204 := F25_184.keep Kq28 nin0
    have F28_205 := F25_185.keep Kq28 nin0
    have F28_206 := F25_186.keep Kq28 nin0
    have F28_207 := Rc28.safe fq25_0.lt F25_187
    have F28_208 := fq25_0.keep Kq28
    have F28_209 := F25_189.keep Kq28
    have F28_210 := F25_190.keep Kq28 nin0
    have F28_211 := F25_191.keep Kq28 nin0
    have F28_212 := F25_192.keep Kq28 nin0
    have F28_213 := Rc28.safe fq25_4.lt F25_193
    have F28_214 := F25_194.keep Kq28
    have F28_215 := F25_195.keep Kq28 nin0
    have F28_216 := F25_196.keep Kq28 nin0
    have F28_217 := F25_197.keep Kq28 nin0
    have F28_218 := F25_198.keep Kq28
    have F28_219 := F25_199.keep Kq28 nin0
    have F28_220 := F25_200.keep Kq28 nin0
    have F28_221 := F25_201.keep Kq28 nin0
    have F28_222 := fq25_1.keep Kq28 nin0
    have F28_223 := fq25_2.keep Kq28 nin0
    have F28_224 := fq25_3.keep Kq28 nin0
    have F28_225 := fq25_4.keep Kq28 nin0
    have Ol28 := Ol25.keep Kq28 all0
    have K28 : Keep h0 T28.heap ([] : List Addr) := K25.trans Kq28 all0
    have R28 := R25.trans Rc28
    obtain ⟨cq29, kq29, q29a, q29b, q29c⟩ := isOf (s := (s.setVm T28.vm)) hZ28 rfl F28_208
    obtain ⟨_, _, ⟨T29, L29, k29, n29⟩, -, X29, ⟨Lc29, hQ29, l29, y29, z29⟩, st29⟩ := X28.interfaceBack hx (xi := mN33) (y := mN31) ho28 (mvT hZ28 (own_w hw 170 rfl)) (mvT hZ28 (own_w hw 171 rfl)) (mvT hZ28 (own_w hw 172 rfl)) (mvT hZ28 (own_w hw 173 rfl)) (mvT hZ28 (own_w hw 174 rfl)) (mvT hZ28 (own_w hw 175 rfl)) (mvT hZ28 (own_w hw 176 rfl)) (mvT hZ28 (own_w hw 105 rfl)) (by decide) (backOf (W := 0) (rm_add1_3 l Z a0 hw [] wG1 wG3 wG5 wK5 cx hEL T28.heap n0 Ol28 b1 ((((0 : Int32) + (1 : Int32)) + (1 : Int32)) + (1 : Int32)) x_28 b_11 kb_11 x_10 x_17 x_24 F28_208 F28_222 F28_223 F28_224 F28_225 g_b_11 g_b1 fq28_0 pq11_0) hZ28 (own_w hw 177 rfl) (own_w hw 36 rfl) (by decide) (by decide)) q29a q29b q29c (g := (mkF m 49 #[vR a1, vR b1, vI (Int32.ofNat ja3), vI (-1)] [(.ref x_28), (.ref b1)])) rfl (by rw [hml]; rfl) (Steps.refl _) (argsL := [(.ref x_28)]) (rest := []) (lenOf pd_81697300 rfl) rfl (Nat.le_of_eq rfl) (hb hby d32_49) (fun _ _ => ⟨rfl, rfl, (by decide : 10 + 0 ≤ _), (by decide : 45 + 0 ≤ _)⟩)
    dsimp only [Pt.U, Pt.locs, Pt.cells, Pt.slots] at X29 l29 y29 z29 st29 hQ29
    subst l29 y29 z29
    obtain ⟨rfl, Nq29, Kq29, fq29_0, fq29_1, fq29_2, fq29_3, fq29_4⟩ := hQ29
    refine OwnGoes.tr (T' := T29) (g' := (mkF m 54 #[vR a1, vR b1, vI (Int32.ofNat ja3), vI (-1)] [(.int 1)])) st29 ?_
    have N29 := Fr.app N28 Nq29
    have F29_226 := F28_202.keep Kq29
    have F29_227 := F28_203.keep Kq29 (ninS ne_a1_b1 (ninS ne_a1_b_11 nin0))
    have F29_228 := F28_204.keep Kq29 (ninS ne_a1_b1 (ninS ne_a1_b_11 nin0))
    have F29_229 := F28_205.keep Kq29 (ninS ne_ta_b1 (ninS ne_ta_b_11 nin0))
    have F29_230 := F28_206.keep Kq29 (ninS ne_wG5_b1 (ninS ne_wG5_b_11 nin0))
    have F29_231 := Safe.keep Kq29 (sfS F28_207 (sfS F28_213 sf0)) R28.1 F28_207
    have F29_232 := F28_208.keep Kq29
    have F29_233 := F28_209.keep Kq29
    have F29_234 := F28_210.keep Kq29 (ninS (Exa.ne F28_209 F28_208 (by decide)) (ninS ne_x_10_b_11 nin0))
    have F29_235 := F28_211.keep Kq29 (ninS (Exa.ne F28_209 F28_208 (by decide)) (ninS ne_x_10_b_11 nin0))
    have F29_236 := F28_212.keep Kq29 (ninS (Ne.symm (Exa.neArv F28_208 F28_212 (own_w hw 35 rfl))) (ninS ne_t_10_b_11 nin0))
    have F29_237 := Safe.keep Kq29 (sfS F28_207 (sfS F28_213 sf0)) R28.1 F28_213
    have F29_238 := F28_214.keep Kq29
    have F29_239 := F28_215.keep Kq29 (ninS (Exa.ne F28_214 F28_208 (by decide)) (ninS (Exa.neArv F28_214 F28_225 (own_w hw 10 rfl)) nin0))
    have F29_240 := F28_216.keep Kq29 (ninS (Exa.ne F28_214 F28_208 (by decide)) (ninS (Exa.neArv F28_214 F28_225 (own_w hw 10 rfl)) nin0))
    have F29_241 := F28_217.keep Kq29 (ninS (Ne.symm (Exa.neArv F28_208 F28_217 (own_w hw 35 rfl))) (ninS (own_arv_ty F28_217 F28_225 (by decide)) nin0))
    have F29_242 := F28_218.keep Kq29
    have F29_243 := F28_219.keep Kq29 (ninS (Exa.ne F28_218 F28_208 (by decide)) (ninS (Exa.neArv F28_218 F28_225 (own_w hw 10 rfl)) nin0))
    have F29_244 := F28_220.keep Kq29 (ninS (Exa.ne F28_218 F28_208 (by decide)) (ninS (Exa.neArv F28_218 F28_225 (own_w hw 10 rfl)) nin0))
    have F29_245 := F28_221.keep Kq29 (ninS (Ne.symm (Exa.neArv F28_208 F28_221 (own_w hw 35 rfl))) (ninS (own_arv_ty F28_221 F28_225 (by decide)) nin0))
    have F29_246 := fq28_0.keep Kq29
    have F29_247 := fq28_1.keep Kq29 (ninS (Exa.ne fq28_0 F28_208 (by decide)) (ninS (Exa.neArv fq28_0 F28_225 (own_w hw 10 rfl)) nin0))
    have F29_248 := fq28_2.keep Kq29 (ninS (Exa.ne fq28_0 F28_208 (by decide)) (ninS (Exa.neArv fq28_0 F28_225 (own_w hw 10 rfl)) nin0))
    have F29_249 := fq28_3.keep Kq29 (ninS (Ne.symm (Exa.neArv F28_208 fq28_3 (own_w hw 35 rfl))) (ninS (own_arv_ty fq28_3 F28_225 (by decide)) nin0))
    have Ol29 := Ol28.keep Kq29 (allS g_b1 (allS g_b_11 all0))
    have K29 : Keep h0 T29.heap ([] : List Addr) := K28.trans Kq29 (allS (Or.inr s_b1) (allS (Or.inr s_b_11) all0))
    have R29 := R28.trans (CHr.keep Kq29 (sfS F28_207 (sfS F28_213 sf0)) R28.1)
    have hk29 := Nat.le_trans (Nat.le_refl _) Kq29.1
    refine og T29 m 61 #[vR a1, vR b1, vI (-1), vI (-1)] [(.ref b1)] (fun tgt kgo => ?_) ?_
    · refine XS.pop X29.here hx rfl (hb hby d32_54) rfl rfl ?_
      refine XS.iloadN X29.here hx rfl (hb hby d32_55) rfl ?_
      refine XS.istoreN X29.here hx rfl (hb hby d32_56) rfl (l' := #[vR a1, vR b1, vI (-1), vI (-1)]) rfl ?_
      show OwnG p e below T29 m 57 #[vR a1, vR b1, vI (-1), vI (-1)] [] tgt
      refine XS.goto X29.here hx rfl (pc0 := 57) (pc' := 15) rfl (hb hby d32_57) (by decide) (by decide) ?_
      refine XS.iloadN X29.here hx rfl (hb hby d32_15) rfl ?_
      refine XS.ifYes X29.here hx rfl (pc0 := 16) (pc' := 60) rfl (hb hby d32_16) rfl ((if0 _ _).trans (tlt (by decide : (-1 : Int32) < (0 : Int32))).1) (by decide) (by decide) ?_
      show OwnG p e below T29 m 60 #[vR a1, vR b1, vI (-1), vI (-1)] [] tgt
      refine XS.aloadN X29.here hx rfl (hb hby d32_60) rfl rfl ?_
      exact kgo
    have hSeg : OwnSegs Z T29.heap b1 (own_segs cs1) := by
      rw [(own_i2 hsb0 hsc0 hsd0), (own_i4 hsa1 hsb1 hsc1 hsd1), (own_i4 hsa2 hsb2 hsc2 hsd2), (own_i4 hsa3 hsb3 hsc3 hsd3), (own_i3 hA4)]
      refine ⟨_, _, _, _, fq29_0, fq29_3, fq29_2, fq29_4, Nat.le_of_ble_eq_true rfl, ?_⟩
      intro k hk
      match k, hk with
      | 0, _ => exact ⟨⟨_, _, _, _, _, rfl, F29_233, F29_234, F29_235, F29_236, pq10_0⟩, by decide, by decide⟩
      | 1, _ => exact ⟨⟨_, _, _, _, _, rfl, F29_238, F29_239, F29_240, F29_241, pq17_0⟩, by decide, by decide⟩
      | 2, _ => exact ⟨⟨_, _, _, _, _, rfl, F29_242, F29_243, F29_244, F29_245, pq24_0⟩, by decide, by decide⟩
      | 3, _ => exact ⟨⟨_, _, _, _, _, rfl, F29_246, F29_247, F29_248, F29_249, pq28_0⟩, by decide, by decide⟩
      | (k + 4), hk => exact absurd hk (by simp only [List.length_cons, List.length_nil]; omega)
    have hret : ∀ fs, (∀ (f : JFrame) (acts : List Action), f.method = m → f.locked = none → f.entered = [] → (doReturn e (T29.setTop f) acts (some (.ref b1))).1 = T29.setFrames fs) → Steps p.tables e below (T29.setTop (mkF m 61 #[vR a1, vR b1, vI (-1), vI (-1)] [(.ref b1)])) (T29.setFrames fs) := by
      intro fs hr
      jvm_step X29.here [X29.here.top, hx, (hb hby d32_61), X29.method', Bd.returns, Value.isRef, FieldType.isReference]
      first | (intro acts; rw [hr _ acts rfl rfl rfl]) | rw [hr _ _ rfl rfl rfl]
      exact Steps.refl _
    refine own_leaveW (Z := Z) (EL := consts_1) X29 hS28 hk29 hlk (v := some (.ref b1)) (fun h => by rw [Bd.returns] at h; cases h) hret (by decide) (by decide) ?_ ?_
    · rw [hh]
      exact R29.trans (CHv.at X29 hZ28 hEL R29.1)
    show Q_segm Z a1 ta ka na vsa cs1 h0 n0 _ T29.heap _
    exact ⟨b1, rfl, N29, K29, hSeg⟩
  exfalso; omega
theorem ef_size (m : MethodId) (x0 : Addr) : entryFrame m #[(.ref x0)] 1 = mkF m 0 #[vR x0] [] := by
  first | (simp [entryFrame, mkF, argsToLocals, Value.category]; done) | rfl
def Q_size (Z : State) (a1 : Addr) (sz1 : Int32) (h0 : Heap) (n0 : Nat) (v : Option Value) (h : Heap) (L : List Loc) : Prop := v = some (.int sz1) ∧ Fr n0 L ∧ h = h0
theorem d33_0 : decode jdk_38_method_8_code 0 = .ok (.aload_n 0, 1) := by decide +kernel
theorem d33_1 : decode jdk_38_method_8_code 1 = .ok (.getfield 48, 3) := by decide +kernel
theorem d33_4 : decode jdk_38_method_8_code 4 = .ok (.ireturn, 1) := by decide +kernel
set_option maxRecDepth 65536 in
set_option maxHeartbeats 40000000 in
theorem rm_size (l : Launch) (Z : State) (a0 : Array Value) (hw : ∀ d ∈ tables_1, d.before a0 Z = true) (ws : List Jvm.Cond) (wG1 : Int32) (wG3 : Value) (wG5 : Addr) (wK5 : ClassId) (cx : OwnCx Z a0 wG1 wG3 wG5 wK5) (hEL : EW Z a0 consts_1) (h0 : Heap) (n0 : Nat) (X00 : Old Z n0 h0) (a1 : Addr) (sz1 : Int32) (f0 : Exa Z h0 a1 "java/util/ArrayList") (f1 : Fld Z h0 a1 "java/util/ArrayList" "size" "I" (.int sz1)) :
    MetFree l mN34 (head1 (Jvm.Cond.code mN34 jdk_38_method_8_code 1 (some .int) :: ws) (oR 0 0 0 0)) (fun a U => a = #[(.ref a1)] ∧ Z.Warmed39 U.vm ∧ U.heap = h0) (fun _ _ _ _ _ => True) (fun _ U o U' => ∃ v L, o = .returned v ∧ Q_size Z a1 sz1 h0 n0 v U'.heap L ∧ FrameEnd U o U' L (oR 0 0 0 0).cells (oR 0 0 0 0).slots) := by
  refine MetFree.of_bodySF (plainFor_of_name pn_13458729) hisR ?_
  intro p e s m args below meth c s₁ Bd hml0 hP hK
  obtain ⟨rfl, hZ, hh⟩ := hP
  obtain ⟨wO2, wP5, wO4, wrG3, hstr, wO5, wV5⟩ := id cx
  have hx := Bd.exec
  have hby := Bd.bytes
  have hlk := Bd.notSynchronized
  have hml : c.maxLocals = 1 := hml0
  have hown : s.vm.findClass "java/util/ArrayList" = some m.cls := findClass_of_methodNamed Bd.named
  have hnm := (name_of_methodNamed Bd.named Bd.method).1
  have X0 : Stand p l e (oR 0 0 0 0) s m #[(.ref a1)] below meth c s₁ [] 0 0 := Stand.of_body Bd
  have e0 : s₁.heap = h0 := by rw [← hh, Bd.state]; rfl
  have N0 := Fr.nil n0
  have Z0 : n0 ≤ h0.size := X00.1 ▸ X00.2.1
  have K0 : Keep h0 h0 ([] : List Addr) := Keep.refl _ _
  show OwnGoes p e below _ s₁ (entryFrame m _ _)
  refine og s₁ m 0 #[vR a1] [] (fun tgt kgo => castTop (ef_size m a1) kgo) ?_
  refine og s₁ m 1 #[vR a1] [(.ref a1)] (fun tgt kgo => ?_) ?_
  · refine XS.aloadN X0.here hx rfl (hb hby d33_0) rfl rfl ?_
    exact kgo
  obtain ⟨T1, X1, e1, st1⟩ := getF X0 hx hZ hown (host := "") (Or.inl (own_w hw 107 rfl)) Via.refl e0 f1 (g := (mkF m 1 #[vR a1] [(.ref a1)])) rfl rfl (hb hby d33_1)
  refine og T1 m 4 #[vR a1] [(.int sz1)] st1 ?_
  refine own_leave X1 hlk (v := some (.int sz1)) (fun h => by rw [Bd.returns] at h; cases h) (fun fs hr => retI X1 hx Bd.returns (hb hby d33_4) hr) (by decide) (by decide) ?_
  show Q_size Z a1 sz1 h0 n0 _ T1.heap _
  rw [e1]
  exact ⟨rfl, N0, rfl⟩
theorem ef_eld (m : MethodId) (x0 : Addr) (x1 : Int32) : entryFrame m #[(.ref x0), (.int x1)] 2 = mkF m 0 #[vR x0, vI x1] [] := by
  first | (simp [entryFrame, mkF, argsToLocals, Value.category]; done) | rfl
def Q_eld (Z : State) (a1 : Addr) (edx : Addr) (kex : ClassId) (nEx : Int32) (esx : List Value) (k1x : Nat) (x1 : Addr) (h0 : Heap) (n0 : Nat) (v : Option Value) (h : Heap) (L : List Loc) : Prop := v = some (.ref x1) ∧ Fr n0 L ∧ h = h0
theorem d34_0 : decode jdk_38_method_18_code 0 = .ok (.aload_n 0, 1) := by decide +kernel
theorem d34_1 : decode jdk_38_method_18_code 1 = .ok (.getfield 9, 3) := by decide +kernel
theorem d34_4 : decode jdk_38_method_18_code 4 = .ok (.iload_n 1, 1) := by decide +kernel
theorem d34_5 : decode jdk_38_method_18_code 5 = .ok (.aaload, 1) := by decide +kernel
theorem d34_6 : decode jdk_38_method_18_code 6 = .ok (.areturn, 1) := by decide +kernel
set_option maxRecDepth 65536 in
set_option maxHeartbeats 40000000 in
theorem rm_eld (l : Launch) (Z : State) (a0 : Array Value) (hw : ∀ d ∈ tables_1, d.before a0 Z = true) (ws : List Jvm.Cond) (wG1 : Int32) (wG3 : Value) (wG5 : Addr) (wK5 : ClassId) (cx : OwnCx Z a0 wG1 wG3 wG5 wK5) (hEL : EW Z a0 consts_1) (h0 : Heap) (n0 : Nat) (X00 : Old Z n0 h0) (a1 : Addr) (edx : Addr) (kex : ClassId) (nEx : Int32) (esx : List Value) (k1x : Nat) (x1 : Addr) (f0 : Exa Z h0 a1 "java/util/ArrayList") (f1 : Fld Z h0 a1 "java/util/ArrayList" "elementData" "[Ljava/lang/Object;" (.ref edx)) (f2 : Arv Z h0 edx kex (.object "java/lang/Object") nEx esx .null) (hk0 : ¬ ((Int32.ofNat k1x) < (0 : Int32))) (hkn : (Int32.ofNat k1x) < nEx) (hkx : esx.getD k1x .null = .ref x1) (hk4 : k1x ≤ 4000) :
    MetFree l mN35 (head1 (Jvm.Cond.code mN35 jdk_38_method_18_code 2 (some (.object "java/lang/Object")) :: ws) (oR 0 0 0 0)) (fun a U => a = #[(.ref a1), (.int (Int32.ofNat k1x))] ∧ Z.Warmed39 U.vm ∧ U.heap = h0) (fun _ _ _ _ _ => True) (fun _ U o U' => ∃ v L, o = .returned v ∧ Q_eld Z a1 edx kex nEx esx k1x x1 h0 n0 v U'.heap L ∧ FrameEnd U o U' L (oR 0 0 0 0).cells (oR 0 0 0 0).slots) := by
  refine MetFree.of_bodySF (plainFor_of_name pn_13458729) hisR ?_
  intro p e s m args below meth c s₁ Bd hml0 hP hK
  obtain ⟨rfl, hZ, hh⟩ := hP
  obtain ⟨wO2, wP5, wO4, wrG3, hstr, wO5, wV5⟩ := id cx
  have hx := Bd.exec
  have hby := Bd.bytes
  have hlk := Bd.notSynchronized
  have hml : c.maxLocals = 2 := hml0
  have hown : s.vm.findClass "java/util/ArrayList" = some m.cls := findClass_of_methodNamed Bd.named
  have hnm := (name_of_methodNamed Bd.named Bd.method).1
  have X0 : Stand p l e (oR 0 0 0 0) s m #[(.ref a1), (.int (Int32.ofNat k1x))] below meth c s₁ [] 0 0 := Stand.of_body Bd
  have e0 : s₁.heap = h0 := by rw [← hh, Bd.state]; rfl
  have N0 := Fr.nil n0
  have Z0 : n0 ≤ h0.size := X00.1 ▸ X00.2.1
  have K0 : Keep h0 h0 ([] : List Addr) := Keep.refl _ _
  show OwnGoes p e below _ s₁ (entryFrame m _ _)
  refine og s₁ m 0 #[vR a1, vI (Int32.ofNat k1x)] [] (fun tgt kgo => castTop (ef_eld m a1 (Int32.ofNat k1x)) kgo) ?_
  refine og s₁ m 1 #[vR a1, vI (Int32.ofNat k1x)] [(.ref a1)] (fun tgt kgo => ?_) ?_
  · refine XS.aloadN X0.here hx rfl (hb hby d34_0) rfl rfl ?_
    exact kgo
  obtain ⟨T1, X1, e1, st1⟩ := getF X0 hx hZ hown (host := "") (Or.inl (own_w hw 56 rfl)) Via.refl e0 f1 (g := (mkF m 1 #[vR a1, vI (Int32.ofNat k1x)] [(.ref a1)])) rfl rfl (hb hby d34_1)
  refine og T1 m 4 #[vR a1, vI (Int32.ofNat k1x)] [(.ref edx)] st1 ?_
  refine og T1 m 6 #[vR a1, vI (Int32.ofNat k1x)] [(.ref x1)] (fun tgt kgo => ?_) ?_
  · refine XS.iloadN X1.here hx rfl (hb hby d34_4) rfl ?_
    show OwnG p e below T1 m 5 #[vR a1, vI (Int32.ofNat k1x)] [(.int (Int32.ofNat k1x)), (.ref edx)] tgt
    obtain ⟨cl2, Ar2, q2, S2, M2, H2, G2⟩ := f2
    refine X1.aaload hx (j := (Int32.ofNat k1x)) (v := (.ref x1)) (by rw [e1]; exact Ar2.1) (State.isArrayOf_alike hZ.alike Ar2.2.1) rfl Ar2.2.2 (inb_of S2 ⟨hk0, hkn⟩) (Has.at H2 (inb_of S2 ⟨hk0, hkn⟩) (by rw [(own_nat hk4).2.2]; exact hkx)) (g := (mkF m 5 #[vR a1, vI (Int32.ofNat k1x)] [(.int (Int32.ofNat k1x)), (.ref edx)])) rfl rfl (hb hby d34_5) _ ?_
    exact kgo
  have hret : ∀ fs, (∀ (f : JFrame) (acts : List Action), f.method = m → f.locked = none → f.entered = [] → (doReturn e (T1.setTop f) acts (some (.ref x1))).1 = T1.setFrames fs) → Steps p.tables e below (T1.setTop (mkF m 6 #[vR a1, vI (Int32.ofNat k1x)] [(.ref x1)])) (T1.setFrames fs) := by
    intro fs hr
    jvm_step X1.here [X1.here.top, hx, (hb hby d34_6), X1.method', Bd.returns, Value.isRef, FieldType.isReference]
    first | (intro acts; rw [hr _ acts rfl rfl rfl]) | rw [hr _ _ rfl rfl rfl]
    exact Steps.refl _
  refine own_leave X1 hlk (v := some (.ref x1)) (fun h => by rw [Bd.returns] at h; cases h) hret (by decide) (by decide) ?_
  show Q_eld Z a1 edx kex nEx esx k1x x1 h0 n0 _ T1.heap _
  rw [e1]
  exact ⟨rfl, N0, rfl⟩
theorem ef_get (m : MethodId) (x0 : Addr) (x1 : Int32) : entryFrame m #[(.ref x0), (.int x1)] 2 = mkF m 0 #[vR x0, vI x1] [] := by
  first | (simp [entryFrame, mkF, argsToLocals, Value.category]; done) | rfl
def Q_get (Z : State) (a1 : Addr) (edx : Addr) (kex : ClassId) (nEx : Int32) (esx : List Value) (k1x : Nat) (x1 : Addr) (sz1 : Int32) (h0 : Heap) (n0 : Nat) (v : Option Value) (h : Heap) (L : List Loc) : Prop := v = some (.ref x1) ∧ Fr n0 L ∧ h = h0
theorem d35_0 : decode jdk_38_method_20_code 0 = .ok (.iload_n 1, 1) := by decide +kernel
theorem d35_1 : decode jdk_38_method_20_code 1 = .ok (.aload_n 0, 1) := by decide +kernel
theorem d35_2 : decode jdk_38_method_20_code 2 = .ok (.getfield 48, 3) := by decide +kernel
theorem d35_5 : decode jdk_38_method_20_code 5 = .ok (.invokestatic 118, 3) := by decide +kernel
theorem d35_8 : decode jdk_38_method_20_code 8 = .ok (.pop, 1) := by decide +kernel
theorem d35_9 : decode jdk_38_method_20_code 9 = .ok (.aload_n 0, 1) := by decide +kernel
theorem d35_10 : decode jdk_38_method_20_code 10 = .ok (.iload_n 1, 1) := by decide +kernel
theorem d35_11 : decode jdk_38_method_20_code 11 = .ok (.invokevirtual 123, 3) := by decide +kernel
theorem pd_40348018 : parseMethodDescriptor "(I)Ljava/lang/Object;" = some ⟨[.int], some (.object "java/lang/Object")⟩ := by decide +kernel
theorem d35_14 : decode jdk_38_method_20_code 14 = .ok (.areturn, 1) := by decide +kernel
set_option maxRecDepth 65536 in
set_option maxHeartbeats 40000000 in
theorem rm_get (l : Launch) (Z : State) (a0 : Array Value) (hw : ∀ d ∈ tables_1, d.before a0 Z = true) (ws : List Jvm.Cond) (wG1 : Int32) (wG3 : Value) (wG5 : Addr) (wK5 : ClassId) (cx : OwnCx Z a0 wG1 wG3 wG5 wK5) (hEL : EW Z a0 consts_1) (h0 : Heap) (n0 : Nat) (X00 : Old Z n0 h0) (a1 : Addr) (edx : Addr) (kex : ClassId) (nEx : Int32) (esx : List Value) (k1x : Nat) (x1 : Addr) (sz1 : Int32) (f0 : Exa Z h0 a1 "java/util/ArrayList") (f1 : Fld Z h0 a1 "java/util/ArrayList" "elementData" "[Ljava/lang/Object;" (.ref edx)) (f2 : Arv Z h0 edx kex (.object "java/lang/Object") nEx esx .null) (f3 : Fld Z h0 a1 "java/util/ArrayList" "size" "I" (.int sz1)) (hk0 : ¬ ((Int32.ofNat k1x) < (0 : Int32))) (hkn : (Int32.ofNat k1x) < nEx) (hkx : esx.getD k1x .null = .ref x1) (hk4 : k1x ≤ 4000) (hks : (Int32.ofNat k1x) < sz1) :
    MetFree l mN36 (head1 (Jvm.Cond.code mN36 jdk_38_method_20_code 2 (some (.object "java/lang/Object")) :: ws) (oR 2 0 0 27)) (fun a U => a = #[(.ref a1), (.int (Int32.ofNat k1x))] ∧ Z.Warmed39 U.vm ∧ U.heap = h0) (fun _ _ _ _ _ => True) (fun _ U o U' => ∃ v L, o = .returned v ∧ Q_get Z a1 edx kex nEx esx k1x x1 sz1 h0 n0 v U'.heap L ∧ FrameEnd U o U' L (oR 2 0 0 27).cells (oR 2 0 0 27).slots) := by
  refine MetFree.of_bodySF (plainFor_of_name pn_13458729) hisR ?_
  intro p e s m args below meth c s₁ Bd hml0 hP hK
  obtain ⟨rfl, hZ, hh⟩ := hP
  obtain ⟨wO2, wP5, wO4, wrG3, hstr, wO5, wV5⟩ := id cx
  have hx := Bd.exec
  have hby := Bd.bytes
  have hlk := Bd.notSynchronized
  have hml : c.maxLocals = 2 := hml0
  have hown : s.vm.findClass "java/util/ArrayList" = some m.cls := findClass_of_methodNamed Bd.named
  have hnm := (name_of_methodNamed Bd.named Bd.method).1
  have X0 : Stand p l e (oR 2 0 0 27) s m #[(.ref a1), (.int (Int32.ofNat k1x))] below meth c s₁ [] 0 0 := Stand.of_body Bd
  have e0 : s₁.heap = h0 := by rw [← hh, Bd.state]; rfl
  have N0 := Fr.nil n0
  have Z0 : n0 ≤ h0.size := X00.1 ▸ X00.2.1
  have K0 : Keep h0 h0 ([] : List Addr) := Keep.refl _ _
  show OwnGoes p e below _ s₁ (entryFrame m _ _)
  refine og s₁ m 0 #[vR a1, vI (Int32.ofNat k1x)] [] (fun tgt kgo => castTop (ef_get m a1 (Int32.ofNat k1x)) kgo) ?_
  refine og s₁ m 2 #[vR a1, vI (Int32.ofNat k1x)] [(.ref a1), (.int (Int32.ofNat k1x))] (fun tgt kgo => ?_) ?_
  · refine XS.iloadN X0.here hx rfl (hb hby d35_0) rfl ?_
    refine XS.aloadN X0.here hx rfl (hb hby d35_1) rfl rfl ?_
    exact kgo
  obtain ⟨T1, X1, e1, st1⟩ := getF X0 hx hZ hown (host := "") (Or.inl (own_w hw 107 rfl)) Via.refl e0 f3 (g := (mkF m 2 #[vR a1, vI (Int32.ofNat k1x)] [(.ref a1), (.int (Int32.ofNat k1x))])) rfl rfl (hb hby d35_2)
  refine og T1 m 5 #[vR a1, vI (Int32.ofNat k1x)] [(.int sz1), (.int (Int32.ofNat k1x))] st1 ?_
  obtain ⟨_, _, ⟨T2, L2, k2, n2⟩, -, X2, ⟨Lc2, hQ2, l2, y2, z2⟩, st2⟩ := Jvm.LawKit.callS X1 hx (y := mN7) hown (mvT hZ (own_w hw 211 rfl)) (mvT hZ (own_w hw 212 rfl)) (mvT hZ (own_w hw 213 rfl)) (mvT hZ (own_w hw 214 rfl)) (by decide) (backOf (W := 0) (rm_oci l Z a0 hw [] wG1 wG3 wG5 wK5 cx hEL h0 n0 X00 (Int32.ofNat k1x) sz1 hk0 hks) hZ (own_w hw 214 rfl) (own_w hw 213 rfl) (by decide) (by decide)) (g := (mkF m 5 #[vR a1, vI (Int32.ofNat k1x)] [(.int sz1), (.int (Int32.ofNat k1x))])) rfl (by rw [hml]; rfl) (argsL := [(.int (Int32.ofNat k1x)), (.int sz1)]) (rest := []) (lenOf pd_50523903 rfl) rfl (Nat.le_of_eq rfl) (hb hby d35_5) (fun _ _ => ⟨rfl, e1, (by decide : 0 + 0 ≤ _), (by decide : 0 + 0 ≤ _)⟩)
  dsimp only [Pt.U, Pt.locs, Pt.cells, Pt.slots] at X2 l2 y2 z2 st2 hQ2
  subst l2 y2 z2
  obtain ⟨rfl, Nq2, eq2⟩ := hQ2
  refine og T2 m 8 #[vR a1, vI (Int32.ofNat k1x)] [(.int (Int32.ofNat k1x))] st2 ?_
  have N2 := Fr.app N0 Nq2
  refine og T2 m 11 #[vR a1, vI (Int32.ofNat k1x)] [(.int (Int32.ofNat k1x)), (.ref a1)] (fun tgt kgo => ?_) ?_
  · refine XS.pop X2.here hx rfl (hb hby d35_8) rfl rfl ?_
    refine XS.aloadN X2.here hx rfl (hb hby d35_9) rfl rfl ?_
    refine XS.iloadN X2.here hx rfl (hb hby d35_10) rfl ?_
    exact kgo
  obtain ⟨cq3, kq3, q3a, q3b, q3c⟩ := isOf (s := s) hZ eq2 f0
  obtain ⟨_, _, ⟨T3, L3, k3, n3⟩, -, X3, ⟨Lc3, hQ3, l3, y3, z3⟩, st3⟩ := X2.virtualBack hx (y := mN35) (z := mN35) hown (mvT hZ (own_w hw 218 rfl)) (mvT hZ (own_w hw 219 rfl)) (notFace_of_selects (args := #[]) (mvT hZ (own_w hw 221 rfl))) (mvT hZ (own_w hw 221 rfl)) (mvT hZ (own_w hw 220 rfl)) (by decide) (backOf (W := 0) (rm_eld l Z a0 hw [] wG1 wG3 wG5 wK5 cx hEL h0 n0 X00 a1 edx kex nEx esx k1x x1 f0 f1 f2 hk0 hkn hkx hk4) hZ (own_w hw 222 rfl) (own_w hw 36 rfl) (by decide) (by decide)) q3a q3c (g := (mkF m 11 #[vR a1, vI (Int32.ofNat k1x)] [(.int (Int32.ofNat k1x)), (.ref a1)])) rfl (by rw [hml]; rfl) (Steps.refl _) (argsL := [(.int (Int32.ofNat k1x))]) (rest := []) (lenOf pd_40348018 rfl) rfl (Nat.le_of_eq rfl) (hb hby d35_11) (fun _ _ => ⟨rfl, eq2, (by decide : 0 + 0 ≤ _), (by decide : 0 + 0 ≤ _)⟩)
  dsimp only [Pt.U, Pt.locs, Pt.cells, Pt.slots] at X3 l3 y3 z3 st3 hQ3
  subst l3 y3 z3
  obtain ⟨rfl, Nq3, eq3⟩ := hQ3
  refine OwnGoes.tr (T' := T3) (g' := (mkF m 14 #[vR a1, vI (Int32.ofNat k1x)] [(.ref x1)])) st3 ?_
  have N3 := Fr.app N2 Nq3
  have hret : ∀ fs, (∀ (f : JFrame) (acts : List Action), f.method = m → f.locked = none → f.entered = [] → (doReturn e (T3.setTop f) acts (some (.ref x1))).1 = T3.setFrames fs) → Steps p.tables e below (T3.setTop (mkF m 14 #[vR a1, vI (Int32.ofNat k1x)] [(.ref x1)])) (T3.setFrames fs) := by
    intro fs hr
    jvm_step X3.here [X3.here.top, hx, (hb hby d35_14), X3.method', Bd.returns, Value.isRef, FieldType.isReference]
    first | (intro acts; rw [hr _ acts rfl rfl rfl]) | rw [hr _ _ rfl rfl rfl]
    exact Steps.refl _
  refine own_leave X3 hlk (v := some (.ref x1)) (fun h => by rw [Bd.returns] at h; cases h) hret (by decide) (by decide) ?_
  show Q_get Z a1 edx kex nEx esx k1x x1 sz1 h0 n0 _ T3.heap _
  rw [eq3]
  exact ⟨rfl, N3, rfl⟩
theorem ef_draw (m : MethodId) (x0 : Int32) : entryFrame m #[(.int x0)] 1 = mkF m 0 #[vI x0] [] := by
  first | (simp [entryFrame, mkF, argsToLocals, Value.category]; done) | rfl
def Q_draw (Z : State) (p1 : Int32) (h0 : Heap) (n0 : Nat) (v : Option Value) (h : Heap) (L : List Loc) : Prop := ∃ (c : Int32), v = some (.int c) ∧ Fr n0 L ∧ h = h0 ∧ (¬ c < 0 ∧ ¬ (255 : Int32) < c)
theorem pn_43637772 : plainName "com/example/kindling/kindling/web/PathTemplateSegmentsPinLaw" = true := by first | (simp [plainName, overriddenIn]; done) | decide +kernel
theorem d36_0 : decode method_2_code 0 = .ok (.iload_n 0, 1) := by decide +kernel
theorem d36_1 : decode method_2_code 1 = .ok (.bipush 8, 2) := by decide +kernel
theorem d36_3 : decode method_2_code 3 = .ok (.iushr, 1) := by decide +kernel
theorem d36_4 : decode method_2_code 4 = .ok (.iconst 1, 1) := by decide +kernel
theorem d36_5 : decode method_2_code 5 = .ok (.iand, 1) := by decide +kernel
theorem d36_6 : decode method_2_code 6 = .ok (.ifCond .eq 8, 3) := by decide +kernel
theorem d36_14 : decode method_2_code 14 = .ok (.iload_n 0, 1) := by decide +kernel
theorem d36_15 : decode method_2_code 15 = .ok (.sipush 255, 3) := by decide +kernel
theorem d36_18 : decode method_2_code 18 = .ok (.iand, 1) := by decide +kernel
theorem d36_19 : decode method_2_code 19 = .ok (.i2c, 1) := by decide +kernel
theorem d36_20 : decode method_2_code 20 = .ok (.ireturn, 1) := by decide +kernel
theorem d36_9 : decode method_2_code 9 = .ok (.bipush 47, 2) := by decide +kernel
theorem d36_11 : decode method_2_code 11 = .ok (.goto 9, 3) := by decide +kernel
set_option maxRecDepth 65536 in
set_option maxHeartbeats 40000000 in
theorem rm_draw (l : Launch) (Z : State) (a0 : Array Value) (hw : ∀ d ∈ tables_1, d.before a0 Z = true) (ws : List Jvm.Cond) (wG1 : Int32) (wG3 : Value) (wG5 : Addr) (wK5 : ClassId) (cx : OwnCx Z a0 wG1 wG3 wG5 wK5) (hEL : EW Z a0 consts_1) (h0 : Heap) (n0 : Nat) (X00 : Old Z n0 h0) (p1 : Int32) :
    MetFree l mN37 (head1 (Jvm.Cond.code mN37 method_2_code 1 (some .char) :: ws) (oR 0 0 0 0)) (fun a U => a = #[(.int p1)] ∧ Z.Warmed39 U.vm ∧ U.heap = h0) (fun _ _ _ _ _ => True) (fun _ U o U' => ∃ v L, o = .returned v ∧ Q_draw Z p1 h0 n0 v U'.heap L ∧ FrameEnd U o U' L (oR 0 0 0 0).cells (oR 0 0 0 0).slots) := by
  refine MetFree.of_bodySF (plainFor_of_name pn_43637772) hisR ?_
  intro p e s m args below meth c s₁ Bd hml0 hP hK
  obtain ⟨rfl, hZ, hh⟩ := hP
  obtain ⟨wO2, wP5, wO4, wrG3, hstr, wO5, wV5⟩ := id cx
  have hx := Bd.exec
  have hby := Bd.bytes
  have hlk := Bd.notSynchronized
  have hml : c.maxLocals = 1 := hml0
  have hown : s.vm.findClass "com/example/kindling/kindling/web/PathTemplateSegmentsPinLaw" = some m.cls := findClass_of_methodNamed Bd.named
  have hnm := (name_of_methodNamed Bd.named Bd.method).1
  have X0 : Stand p l e (oR 0 0 0 0) s m #[(.int p1)] below meth c s₁ [] 0 0 := Stand.of_body Bd
  have e0 : s₁.heap = h0 := by rw [← hh, Bd.state]; rfl
  have N0 := Fr.nil n0
  have Z0 : n0 ≤ h0.size := X00.1 ▸ X00.2.1
  have K0 : Keep h0 h0 ([] : List Addr) := Keep.refl _ _
  show OwnGoes p e below _ s₁ (entryFrame m _ _)
  refine og s₁ m 0 #[vI p1] [] (fun tgt kgo => castTop (ef_draw m p1) kgo) ?_
  refine og s₁ m 6 #[vI p1] [(.int (((p1.toUInt32 >>> ((8 : Int32) &&& 31).toUInt32).toInt32) &&& (1 : Int32)))] (fun tgt kgo => ?_) ?_
  · refine XS.iloadN X0.here hx rfl (hb hby d36_0) rfl ?_
    refine XS.bipush X0.here hx rfl (hb hby d36_1) ?_
    refine XS.iushr X0.here hx rfl (hb hby d36_3) rfl ?_
    show OwnG p e below s₁ m 4 #[vI p1] [(.int ((p1.toUInt32 >>> ((8 : Int32) &&& 31).toUInt32).toInt32))] tgt
    refine XS.iconst X0.here hx rfl (hb hby d36_4) ?_
    refine XS.iand X0.here hx rfl (hb hby d36_5) rfl ?_
    exact kgo
  by_cases cc1 : (((p1.toUInt32 >>> ((8 : Int32) &&& 31).toUInt32).toInt32) &&& (1 : Int32)) = (0 : Int32)
  · skip
    refine og s₁ m 20 #[vI p1] [(.int (nar .char (p1 &&& (255 : Int32))))] (fun tgt kgo => ?_) ?_
    · refine XS.ifYes X0.here hx rfl (pc0 := 6) (pc' := 14) rfl (hb hby d36_6) rfl ((if0 _ _).trans (teq cc1).1) (by decide) (by decide) ?_
      refine XS.iloadN X0.here hx rfl (hb hby d36_14) rfl ?_
      refine XS.sipush X0.here hx rfl (hb hby d36_15) ?_
      show OwnG p e below s₁ m 18 #[vI p1] [(.int 255), (.int p1)] tgt
      refine XS.iand X0.here hx rfl (hb hby d36_18) rfl ?_
      refine XS.i2c X0.here hx rfl (hb hby d36_19) rfl ?_
      exact kgo
    refine own_leave X0 hlk (v := some (.int (nar .char (p1 &&& (255 : Int32))))) (fun h => by rw [Bd.returns] at h; cases h) (fun fs hr => retN X0 hx (t := .char) Bd.returns (by simp) (hb hby d36_20) (by rw [own_nar2_char]; exact hr)) (by decide) (by decide) ?_
    show Q_draw Z p1 h0 n0 _ s₁.heap _
    rw [e0]
    exact ⟨(nar .char (p1 &&& (255 : Int32))), rfl, N0, rfl, (own_lat255 p1)⟩
  refine og s₁ m 20 #[vI p1] [(.int 47)] (fun tgt kgo => ?_) ?_
  · refine XS.ifNo X0.here hx rfl (hb hby d36_6) rfl ((if0 _ _).trans (feq cc1).1) ?_
    refine XS.bipush X0.here hx rfl (hb hby d36_9) ?_
    refine XS.goto X0.here hx rfl (pc0 := 11) (pc' := 20) rfl (hb hby d36_11) (by decide) (by decide) ?_
    exact kgo
  refine own_leave X0 hlk (v := some (.int 47)) (fun h => by rw [Bd.returns] at h; cases h) (fun fs hr => retN X0 hx (t := .char) Bd.returns (by simp) (hb hby d36_20) (by rw [(by decide : nar .char (47 : Int32) = (47 : Int32))]; exact hr)) (by decide) (by decide) ?_
  show Q_draw Z p1 h0 n0 _ s₁.heap _
  rw [e0]
  exact ⟨(47 : Int32), rfl, N0, rfl, (by decide)⟩
theorem ef_make (m : MethodId) (x0 : Addr) (x1 : Int32) : entryFrame m #[(.ref x0), (.int x1)] 2 = mkF m 0 #[vR x0, vI x1] [] := by
  first | (simp [entryFrame, mkF, argsToLocals, Value.category]; done) | rfl
def Q_make (Z : State) (ab1 : Addr) (kc : ClassId) (nw : Int32) (c1 : Int32) (c2 : Int32) (c3 : Int32) (c4 : Int32) (h0 : Heap) (n0 : Nat) (v : Option Value) (h : Heap) (L : List Loc) : Prop := ∃ (x : Addr), ∃ (t : Addr), ∃ (k : ClassId), ∃ (N : Int32), ∃ (vs : List Value), v = some (.ref x) ∧ Fr n0 L ∧ Keep h0 h ([] : List Addr) ∧ Exa Z h x "java/lang/String" ∧ Fld Z h x "java/lang/String" "value" "[B" (.ref t) ∧ Fld Z h x "java/lang/String" "coder" "B" (.int 0) ∧ Arv Z h t k .byte N vs (.int 0) ∧ (OwnStr (oT nw c1 c2 c3 c4) (0 : Int32) N vs)
theorem d37_0 : decode method_9_code 0 = .ok (.iload_n 1, 1) := by decide +kernel
theorem d37_1 : decode method_9_code 1 = .ok (.ifCond .ne 14, 3) := by decide +kernel
theorem d37_4 : decode method_9_code 4 = .ok (.new 30, 3) := by decide +kernel
theorem d37_7 : decode method_9_code 7 = .ok (.dup, 1) := by decide +kernel
theorem d37_8 : decode method_9_code 8 = .ok (.iconst 0, 1) := by decide +kernel
theorem d37_9 : decode method_9_code 9 = .ok (.newarray .char, 2) := by decide +kernel
theorem d37_11 : decode method_9_code 11 = .ok (.invokespecial 43, 3) := by decide +kernel
theorem pd_68446664 : parseMethodDescriptor "([C)V" = some ⟨[(.array .char)], none⟩ := by decide +kernel
theorem d37_14 : decode method_9_code 14 = .ok (.areturn, 1) := by decide +kernel
theorem d37_15 : decode method_9_code 15 = .ok (.iload_n 1, 1) := by decide +kernel
theorem d37_16 : decode method_9_code 16 = .ok (.iconst 1, 1) := by decide +kernel
theorem d37_17 : decode method_9_code 17 = .ok (.if_icmp .ne 20, 3) := by decide +kernel
theorem d37_20 : decode method_9_code 20 = .ok (.new 30, 3) := by decide +kernel
theorem d37_23 : decode method_9_code 23 = .ok (.dup, 1) := by decide +kernel
theorem d37_24 : decode method_9_code 24 = .ok (.iconst 1, 1) := by decide +kernel
theorem d37_25 : decode method_9_code 25 = .ok (.newarray .char, 2) := by decide +kernel
theorem d37_27 : decode method_9_code 27 = .ok (.dup, 1) := by decide +kernel
theorem d37_28 : decode method_9_code 28 = .ok (.iconst 0, 1) := by decide +kernel
theorem d37_29 : decode method_9_code 29 = .ok (.aload_n 0, 1) := by decide +kernel
theorem d37_30 : decode method_9_code 30 = .ok (.iconst 0, 1) := by decide +kernel
theorem d37_31 : decode method_9_code 31 = .ok (.caload, 1) := by decide +kernel
theorem d37_32 : decode method_9_code 32 = .ok (.castore, 1) := by decide +kernel
theorem d37_33 : decode method_9_code 33 = .ok (.invokespecial 43, 3) := by decide +kernel
theorem own_hws : ∀ d ∈ StrChars.Road.words, d ∈ tables_1 := by decide +kernel
theorem d37_36 : decode method_9_code 36 = .ok (.areturn, 1) := by decide +kernel
theorem d37_37 : decode method_9_code 37 = .ok (.iload_n 1, 1) := by decide +kernel
theorem d37_38 : decode method_9_code 38 = .ok (.iconst 2, 1) := by decide +kernel
theorem d37_39 : decode method_9_code 39 = .ok (.if_icmp .ne 26, 3) := by decide +kernel
theorem d37_42 : decode method_9_code 42 = .ok (.new 30, 3) := by decide +kernel
theorem d37_45 : decode method_9_code 45 = .ok (.dup, 1) := by decide +kernel
theorem d37_46 : decode method_9_code 46 = .ok (.iconst 2, 1) := by decide +kernel
theorem d37_47 : decode method_9_code 47 = .ok (.newarray .char, 2) := by decide +kernel
theorem d37_49 : decode method_9_code 49 = .ok (.dup, 1) := by decide +kernel
theorem d37_50 : decode method_9_code 50 = .ok (.iconst 0, 1) := by decide +kernel
theorem d37_51 : decode method_9_code 51 = .ok (.aload_n 0, 1) := by decide +kernel
theorem d37_52 : decode method_9_code 52 = .ok (.iconst 0, 1) := by decide +kernel
theorem d37_53 : decode method_9_code 53 = .ok (.caload, 1) := by decide +kernel
theorem d37_54 : decode method_9_code 54 = .ok (.castore, 1) := by decide +kernel
theorem d37_55 : decode method_9_code 55 = .ok (.dup, 1) := by decide +kernel
theorem d37_56 : decode method_9_code 56 = .ok (.iconst 1, 1) := by decide +kernel
theorem d37_57 : decode method_9_code 57 = .ok (.aload_n 0, 1) := by decide +kernel
theorem d37_58 : decode method_9_code 58 = .ok (.iconst 1, 1) := by decide +kernel
theorem d37_59 : decode method_9_code 59 = .ok (.caload, 1) := by decide +kernel
theorem d37_60 : decode method_9_code 60 = .ok (.castore, 1) := by decide +kernel
theorem d37_61 : decode method_9_code 61 = .ok (.invokespecial 43, 3) := by decide +kernel
theorem d37_64 : decode method_9_code 64 = .ok (.areturn, 1) := by decide +kernel
theorem d37_65 : decode method_9_code 65 = .ok (.iload_n 1, 1) := by decide +kernel
theorem d37_66 : decode method_9_code 66 = .ok (.iconst 3, 1) := by decide +kernel
theorem d37_67 : decode method_9_code 67 = .ok (.if_icmp .ne 32, 3) := by decide +kernel
theorem d37_70 : decode method_9_code 70 = .ok (.new 30, 3) := by decide +kernel
theorem d37_73 : decode method_9_code 73 = .ok (.dup, 1) := by decide +kernel
theorem d37_74 : decode method_9_code 74 = .ok (.iconst 3, 1) := by decide +kernel
theorem d37_75 : decode method_9_code 75 = .ok (.newarray .char, 2) := by decide +kernel
theorem d37_77 : decode method_9_code 77 = .ok (.dup, 1) := by decide +kernel
theorem d37_78 : decode method_9_code 78 = .ok (.iconst 0, 1) := by decide +kernel
theorem d37_79 : decode method_9_code 79 = .ok (.aload_n 0, 1) := by decide +kernel
theorem d37_80 : decode method_9_code 80 = .ok (.iconst 0, 1) := by decide +kernel
theorem d37_81 : decode method_9_code 81 = .ok (.caload, 1) := by decide +kernel
theorem d37_82 : decode method_9_code 82 = .ok (.castore, 1) := by decide +kernel
theorem d37_83 : decode method_9_code 83 = .ok (.dup, 1) := by decide +kernel
theorem d37_84 : decode method_9_code 84 = .ok (.iconst 1, 1) := by decide +kernel
theorem d37_85 : decode method_9_code 85 = .ok (.aload_n 0, 1) := by decide +kernel
theorem d37_86 : decode method_9_code 86 = .ok (.iconst 1, 1) := by decide +kernel
theorem d37_87 : decode method_9_code 87 = .ok (.caload, 1) := by decide +kernel
theorem d37_88 : decode method_9_code 88 = .ok (.castore, 1) := by decide +kernel
theorem d37_89 : decode method_9_code 89 = .ok (.dup, 1) := by decide +kernel
theorem d37_90 : decode method_9_code 90 = .ok (.iconst 2, 1) := by decide +kernel
theorem d37_91 : decode method_9_code 91 = .ok (.aload_n 0, 1) := by decide +kernel
theorem d37_92 : decode method_9_code 92 = .ok (.iconst 2, 1) := by decide +kernel
theorem d37_93 : decode method_9_code 93 = .ok (.caload, 1) := by decide +kernel
theorem d37_94 : decode method_9_code 94 = .ok (.castore, 1) := by decide +kernel
theorem d37_95 : decode method_9_code 95 = .ok (.invokespecial 43, 3) := by decide +kernel
theorem d37_98 : decode method_9_code 98 = .ok (.areturn, 1) := by decide +kernel
theorem d37_99 : decode method_9_code 99 = .ok (.new 30, 3) := by decide +kernel
theorem d37_102 : decode method_9_code 102 = .ok (.dup, 1) := by decide +kernel
theorem d37_103 : decode method_9_code 103 = .ok (.iconst 4, 1) := by decide +kernel
theorem d37_104 : decode method_9_code 104 = .ok (.newarray .char, 2) := by decide +kernel
theorem d37_106 : decode method_9_code 106 = .ok (.dup, 1) := by decide +kernel
theorem d37_107 : decode method_9_code 107 = .ok (.iconst 0, 1) := by decide +kernel
theorem d37_108 : decode method_9_code 108 = .ok (.aload_n 0, 1) := by decide +kernel
theorem d37_109 : decode method_9_code 109 = .ok (.iconst 0, 1) := by decide +kernel
theorem d37_110 : decode method_9_code 110 = .ok (.caload, 1) := by decide +kernel
theorem d37_111 : decode method_9_code 111 = .ok (.castore, 1) := by decide +kernel
theorem d37_112 : decode method_9_code 112 = .ok (.dup, 1) := by decide +kernel
theorem d37_113 : decode method_9_code 113 = .ok (.iconst 1, 1) := by decide +kernel
theorem d37_114 : decode method_9_code 114 = .ok (.aload_n 0, 1) := by decide +kernel
theorem d37_115 : decode method_9_code 115 = .ok (.iconst 1, 1) := by decide +kernel
theorem d37_116 : decode method_9_code 116 = .ok (.caload, 1) := by decide +kernel
theorem d37_117 : decode method_9_code 117 = .ok (.castore, 1) := by decide +kernel
theorem d37_118 : decode method_9_code 118 = .ok (.dup, 1) := by decide +kernel
theorem d37_119 : decode method_9_code 119 = .ok (.iconst 2, 1) := by decide +kernel
theorem d37_120 : decode method_9_code 120 = .ok (.aload_n 0, 1) := by decide +kernel
theorem d37_121 : decode method_9_code 121 = .ok (.iconst 2, 1) := by decide +kernel
theorem d37_122 : decode method_9_code 122 = .ok (.caload, 1) := by decide +kernel
theorem d37_123 : decode method_9_code 123 = .ok (.castore, 1) := by decide +kernel
theorem d37_124 : decode method_9_code 124 = .ok (.dup, 1) := by decide +kernel
theorem d37_125 : decode method_9_code 125 = .ok (.iconst 3, 1) := by decide +kernel
theorem d37_126 : decode method_9_code 126 = .ok (.aload_n 0, 1) := by decide +kernel
theorem d37_127 : decode method_9_code 127 = .ok (.iconst 3, 1) := by decide +kernel
theorem d37_128 : decode method_9_code 128 = .ok (.caload, 1) := by decide +kernel
theorem d37_129 : decode method_9_code 129 = .ok (.castore, 1) := by decide +kernel
theorem d37_130 : decode method_9_code 130 = .ok (.invokespecial 43, 3) := by decide +kernel
theorem d37_133 : decode method_9_code 133 = .ok (.areturn, 1) := by decide +kernel
set_option maxRecDepth 65536 in
set_option maxHeartbeats 40000000 in
theorem rm_make (l : Launch) (Z : State) (a0 : Array Value) (hw : ∀ d ∈ tables_1, d.before a0 Z = true) (ws : List Jvm.Cond) (wG1 : Int32) (wG3 : Value) (wG5 : Addr) (wK5 : ClassId) (cx : OwnCx Z a0 wG1 wG3 wG5 wK5) (hEL : EW Z a0 consts_1) (h0 : Heap) (n0 : Nat) (X00 : Old Z n0 h0) (ab1 : Addr) (kc : ClassId) (nw : Int32) (c1 : Int32) (c2 : Int32) (c3 : Int32) (c4 : Int32) (f0 : Arv Z h0 ab1 kc .char (4 : Int32) [(.int c1), (.int c2), (.int c3), (.int c4)] (.int 0)) (hN : OwnN nw) (hl0 : ¬ c1 < 0 ∧ ¬ (255 : Int32) < c1) (hl1 : ¬ c2 < 0 ∧ ¬ (255 : Int32) < c2) (hl2 : ¬ c3 < 0 ∧ ¬ (255 : Int32) < c3) (hl3 : ¬ c4 < 0 ∧ ¬ (255 : Int32) < c4) :
    MetFree l mN38 (head1 (Jvm.Cond.code mN38 method_9_code 2 (some (.object "java/lang/String")) :: ws) (oR 4 6 12 66)) (fun a U => a = #[(.ref ab1), (.int nw)] ∧ Z.Warmed39 U.vm ∧ U.heap = h0 ∧ CHv Z consts_1 U.vm h0) (fun _ _ _ _ _ => True) (fun _ U o U' => ∃ v L, o = .returned v ∧ Q_make Z ab1 kc nw c1 c2 c3 c4 h0 n0 v U'.heap L ∧ CHr Z consts_1 U.vm U.heap U'.vm U'.heap ∧ ReturnedEndW U o U' L (oR 4 6 12 66).cells (oR 4 6 12 66).slots) := by
  refine MetFree.of_bodySF (plainFor_of_name pn_43637772) hisR ?_
  intro p e s m args below meth c s₁ Bd hml0 hP hK
  obtain ⟨rfl, hZ, hh, hH⟩ := hP
  obtain ⟨wO2, wP5, wO4, wrG3, hstr, wO5, wV5⟩ := id cx
  have hx := Bd.exec
  have hby := Bd.bytes
  have hlk := Bd.notSynchronized
  have hml : c.maxLocals = 2 := hml0
  have hown : s.vm.findClass "com/example/kindling/kindling/web/PathTemplateSegmentsPinLaw" = some m.cls := findClass_of_methodNamed Bd.named
  have hnm := (name_of_methodNamed Bd.named Bd.method).1
  have X0 : Stand p l e (oR 4 6 12 66) (s.setVm s.vm) m #[(.ref ab1), (.int nw)] below meth c s₁ [] 0 0 := Stand.of_body Bd
  have e0 : s₁.heap = h0 := by rw [← hh, Bd.state]; rfl
  have N0 := Fr.nil n0
  have Z0 : n0 ≤ h0.size := X00.1 ▸ X00.2.1
  have K0 : Keep h0 h0 ([] : List Addr) := Keep.refl _ _
  have R0 : CHr Z consts_1 s.vm h0 s.vm h0 := CHr.refl hH
  have hS0 : s.Since s.vm h0.size := State.WarmedH.since (State.WarmedH.refl s) _
  have hk0 : h0.size ≤ h0.size := Nat.le_refl _
  show OwnGoes p e below _ s₁ (entryFrame m _ _)
  refine og s₁ m 0 #[vR ab1, vI nw] [] (fun tgt kgo => castTop (ef_make m ab1 nw) kgo) ?_
  refine og s₁ m 1 #[vR ab1, vI nw] [(.int nw)] (fun tgt kgo => ?_) ?_
  · refine XS.iloadN X0.here hx rfl (hb hby d37_0) rfl ?_
    exact kgo
  by_cases cc1 : nw = (0 : Int32)
  · skip
    refine og s₁ m 4 #[vR ab1, vI nw] [] (fun tgt kgo => ?_) ?_
    · refine XS.ifNo X0.here hx rfl (hb hby d37_1) rfl ((if0 _ _).trans (teq cc1).2) ?_
      exact kgo
    obtain ⟨T2, h2, X2, e2, E2, A2, D2, U2, st2⟩ := newO X0 hx hZ hown (own_w hw 9 rfl) (own_w hw 10 rfl) (own_w hw 11 rfl) e0 (g := (mkF m 4 #[vR ab1, vI nw] [])) rfl (hb hby d37_4) (by decide) (by decide)
    obtain ⟨b2, g2⟩ : ∃ z, z = h0.size := ⟨_, rfl⟩
    rw [← g2] at A2 D2 U2 st2
    refine og T2 m 7 #[vR ab1, vI nw] [(.ref b2)] st2 ?_
    have ne_ab1_b2 : ab1 ≠ b2 := Nat.ne_of_lt (Nat.lt_of_lt_of_le f0.lt (Nat.le_of_eq g2.symm))
    have g_b2 : n0 ≤ b2 := Nat.le_trans (Nat.le_trans Z0 K0.1) (Nat.le_of_eq g2.symm)
    have s_b2 : h0.size ≤ b2 := Nat.le_trans K0.1 (Nat.le_of_eq g2.symm)
    have Sf2 : Safe Z consts_1 s.vm h2 b2 := Safe.ext E2 R0.1 (Safe.new (Nat.le_of_eq g2.symm))
    have F2_1 := f0.ext E2
    have Ol2 := X00.ext E2
    have K2 : Keep h0 h2 ([] : List Addr) := K0.ext E2
    have R2 := R0.trans (CHr.ext E2 R0.1)
    have hk2 := Nat.le_trans hk0 E2.1
    have F2_2 : Fld Z h2 b2 "java/lang/String" "value" "[B" .null := D2 (Or.inr (own_w hw 24 rfl)) (ty := (.array .byte)) (by decide)
    have F2_3 : Fld Z h2 b2 "java/lang/String" "coder" "B" (.int 0) := D2 (Or.inr (own_w hw 25 rfl)) (ty := .byte) (by decide)
    refine og T2 m 9 #[vR ab1, vI nw] [(.int 0), (.ref b2), (.ref b2)] (fun tgt kgo => ?_) ?_
    · refine XS.dup X2.here hx rfl (hb hby d37_7) rfl rfl ?_
      refine XS.iconst X2.here hx rfl (hb hby d37_8) ?_
      exact kgo
    obtain ⟨T3, h3, k3, X3, e3, E3, A3, st3⟩ := newP X2 hx hZ (own_w hw 1 rfl) e2 (g := (mkF m 9 #[vR ab1, vI nw] [(.int 0), (.ref b2), (.ref b2)])) rfl (hb hby d37_9) rfl (by decide) (cap := 0) (by decide) (by decide) (by decide) (by decide)
    obtain ⟨b3, g3⟩ : ∃ z, z = h2.size := ⟨_, rfl⟩
    rw [← g3] at A3 st3
    refine og T3 m 11 #[vR ab1, vI nw] [(.ref b3), (.ref b2), (.ref b2)] st3 ?_
    have V3 : Arv Z h3 b3 k3 .char (0 : Int32) [] (.int 0) := (Arv.new A3 (by decide)).pad (pad_rep [] (.int 0) 0)
    have ne_ab1_b3 : ab1 ≠ b3 := Nat.ne_of_lt (Nat.lt_of_lt_of_le F2_1.lt (Nat.le_of_eq g3.symm))
    have ne_b2_b3 : b2 ≠ b3 := Nat.ne_of_lt (Nat.lt_of_lt_of_le A2.lt (Nat.le_of_eq g3.symm))
    have g_b3 : n0 ≤ b3 := Nat.le_trans (Nat.le_trans Z0 K2.1) (Nat.le_of_eq g3.symm)
    have s_b3 : h0.size ≤ b3 := Nat.le_trans K2.1 (Nat.le_of_eq g3.symm)
    have Sf3 : Safe Z consts_1 s.vm h3 b3 := Safe.ext E3 R2.1 (Safe.new (Nat.le_of_eq g3.symm))
    have F3_4 := F2_1.ext E3
    have F3_5 := Safe.ext E3 R2.1 Sf2
    have F3_6 := A2.ext E3
    have F3_7 := F2_2.ext E3
    have F3_8 := F2_3.ext E3
    have Ol3 := Ol2.ext E3
    have K3 : Keep h0 h3 ([] : List Addr) := K2.ext E3
    have R3 := R2.trans (CHr.ext E3 R2.1)
    have hk3 := Nat.le_trans hk2 E3.1
    obtain ⟨_, _, ⟨T4, L4, k4, n4⟩, -, X4, Si4, Gr4, ⟨Lc4, hQ4, l4, y4, z4, Rc4⟩, st4⟩ := X3.specialBackS hx (y := mN1) rfl hown (mvT hZ (own_w hw 12 rfl)) (mvT hZ (own_w hw 13 rfl)) (mvT hZ (own_w hw 14 rfl)) (by decide) (backOfSH (W := 1) (rm_si2e l Z a0 hw [] wG1 wG3 wG5 wK5 cx hEL h3 n0 Ol3 b2 b3 k3 F3_6 F3_7 F3_8 g_b2 V3) hZ (own_w hw 14 rfl) (own_w hw 11 rfl) (by decide) (by decide) hEL R3.1) (g := (mkF m 11 #[vR ab1, vI nw] [(.ref b3), (.ref b2), (.ref b2)])) rfl (by rw [hml]; rfl) (Steps.refl _) (a := b2) (argsL := [(.ref b3)]) (rest := [(.ref b2)]) (lenOf pd_68446664 rfl) rfl (Nat.le_of_eq rfl) (hb hby d37_11) (fun _ _ => ⟨rfl, e3, (by decide : 2 + 4 ≤ _), (by decide : 4 + 8 ≤ _)⟩)
    dsimp only [Pt.U, Pt.locs, Pt.cells, Pt.slots] at X4 l4 y4 z4 st4 hQ4 Si4 Gr4 Rc4
    subst l4 y4 z4
    obtain ⟨t_4, k_4, rfl, Nq4, Kq4, fq4_0, fq4_1, fq4_2, fq4_3⟩ := hQ4
    refine OwnGoes.tr (T' := T4) (g' := (mkF m 14 #[vR ab1, vI nw] [(.ref b2)])) st4 ?_
    have N4 := Fr.app N0 Nq4
    have gz4 : h3.size ≤ T4.heap.size := Rc4.2.1
    obtain ⟨X4, hS4, hZ4, ho4⟩ := rebS hS0 hk3 X4 Si4 gz4 hZ hown
    have F4_9 := F3_4.keep Kq4 (ninS ne_ab1_b2 nin0)
    have F4_10 := Rc4.safe F3_6.lt F3_5
    have F4_11 := F3_6.keep Kq4
    have F4_12 := Rc4.safe V3.lt Sf3
    have F4_13 := V3.keep Kq4 (ninS (Ne.symm ne_b2_b3) nin0)
    have Ol4 := Ol3.keep Kq4 (allS g_b2 all0)
    have K4 : Keep h0 T4.heap ([] : List Addr) := K3.trans Kq4 (allS (Or.inr s_b2) all0)
    have R4 := R3.trans Rc4
    have hob6 : OwnStr ([] : List Int32) (0 : Int32) (0 : Int32) [] := own_str_lat (n := 0) rfl (by decide) own_mem0
    have hret : ∀ fs, (∀ (f : JFrame) (acts : List Action), f.method = m → f.locked = none → f.entered = [] → (doReturn e (T4.setTop f) acts (some (.ref b2))).1 = T4.setFrames fs) → Steps p.tables e below (T4.setTop (mkF m 14 #[vR ab1, vI nw] [(.ref b2)])) (T4.setFrames fs) := by
      intro fs hr
      jvm_step X4.here [X4.here.top, hx, (hb hby d37_14), X4.method', Bd.returns, Value.isRef, FieldType.isReference]
      first | (intro acts; rw [hr _ acts rfl rfl rfl]) | rw [hr _ _ rfl rfl rfl]
      exact Steps.refl _
    refine own_leaveW (Z := Z) (EL := consts_1) X4 hS4 (Nat.le_refl _) hlk (v := some (.ref b2)) (fun h => by rw [Bd.returns] at h; cases h) hret (by decide) (by decide) ?_ ?_
    · rw [hh]
      exact R4.trans (CHv.at X4 hZ4 hEL R4.1)
    show Q_make Z ab1 kc nw c1 c2 c3 c4 h0 n0 _ T4.heap _
    exact ⟨b2, t_4, k_4, (0 : Int32), [], rfl, N4, K4, fq4_0, fq4_1, fq4_2, fq4_3, (by rw [cc1]; exact hob6)⟩
  refine og s₁ m 17 #[vR ab1, vI nw] [(.int 1), (.int nw)] (fun tgt kgo => ?_) ?_
  · refine XS.ifYes X0.here hx rfl (pc0 := 1) (pc' := 15) rfl (hb hby d37_1) rfl ((if0 _ _).trans (feq cc1).2) (by decide) (by decide) ?_
    refine XS.iloadN X0.here hx rfl (hb hby d37_15) rfl ?_
    refine XS.iconst X0.here hx rfl (hb hby d37_16) ?_
    exact kgo
  by_cases cc7 : nw = (1 : Int32)
  · skip
    refine og s₁ m 20 #[vR ab1, vI nw] [] (fun tgt kgo => ?_) ?_
    · refine XS.icmpNo X0.here hx rfl (hb hby d37_17) rfl (teq cc7).2 ?_
      exact kgo
    obtain ⟨T8, h8, X8, e8, E8, A8, D8, U8, st8⟩ := newO X0 hx hZ hown (own_w hw 9 rfl) (own_w hw 10 rfl) (own_w hw 11 rfl) e0 (g := (mkF m 20 #[vR ab1, vI nw] [])) rfl (hb hby d37_20) (by decide) (by decide)
    obtain ⟨b8, g8⟩ : ∃ z, z = h0.size := ⟨_, rfl⟩
    rw [← g8] at A8 D8 U8 st8
    refine og T8 m 23 #[vR ab1, vI nw] [(.ref b8)] st8 ?_
    have ne_ab1_b8 : ab1 ≠ b8 := Nat.ne_of_lt (Nat.lt_of_lt_of_le f0.lt (Nat.le_of_eq g8.symm))
    have g_b8 : n0 ≤ b8 := Nat.le_trans (Nat.le_trans Z0 K0.1) (Nat.le_of_eq g8.symm)
    have s_b8 : h0.size ≤ b8 := Nat.le_trans K0.1 (Nat.le_of_eq g8.symm)
    have Sf8 : Safe Z consts_1 s.vm h8 b8 := Safe.ext E8 R0.1 (Safe.new (Nat.le_of_eq g8.symm))
    have F8_14 := f0.ext E8
    have Ol8 := X00.ext E8
    have K8 : Keep h0 h8 ([] : List Addr) := K0.ext E8
    have R8 := R0.trans (CHr.ext E8 R0.1)
    have hk8 := Nat.le_trans hk0 E8.1
    have F8_15 : Fld Z h8 b8 "java/lang/String" "value" "[B" .null := D8 (Or.inr (own_w hw 24 rfl)) (ty := (.array .byte)) (by decide)
    have F8_16 : Fld Z h8 b8 "java/lang/String" "coder" "B" (.int 0) := D8 (Or.inr (own_w hw 25 rfl)) (ty := .byte) (by decide)
    refine og T8 m 25 #[vR ab1, vI nw] [(.int 1), (.ref b8), (.ref b8)] (fun tgt kgo => ?_) ?_
    · refine XS.dup X8.here hx rfl (hb hby d37_23) rfl rfl ?_
      refine XS.iconst X8.here hx rfl (hb hby d37_24) ?_
      exact kgo
    obtain ⟨T9, h9, k9, X9, e9, E9, A9, st9⟩ := newP X8 hx hZ (own_w hw 1 rfl) e8 (g := (mkF m 25 #[vR ab1, vI nw] [(.int 1), (.ref b8), (.ref b8)])) rfl (hb hby d37_25) rfl (by decide) (cap := 1) (by decide) (by decide) (by decide) (by decide)
    obtain ⟨b9, g9⟩ : ∃ z, z = h8.size := ⟨_, rfl⟩
    rw [← g9] at A9 st9
    refine og T9 m 27 #[vR ab1, vI nw] [(.ref b9), (.ref b8), (.ref b8)] st9 ?_
    have V9 : Arv Z h9 b9 k9 .char (1 : Int32) [(.int 0)] (.int 0) := (Arv.new A9 (by decide)).pad (pad_rep [] (.int 0) 1)
    have ne_ab1_b9 : ab1 ≠ b9 := Nat.ne_of_lt (Nat.lt_of_lt_of_le F8_14.lt (Nat.le_of_eq g9.symm))
    have ne_b8_b9 : b8 ≠ b9 := Nat.ne_of_lt (Nat.lt_of_lt_of_le A8.lt (Nat.le_of_eq g9.symm))
    have g_b9 : n0 ≤ b9 := Nat.le_trans (Nat.le_trans Z0 K8.1) (Nat.le_of_eq g9.symm)
    have s_b9 : h0.size ≤ b9 := Nat.le_trans K8.1 (Nat.le_of_eq g9.symm)
    have Sf9 : Safe Z consts_1 s.vm h9 b9 := Safe.ext E9 R8.1 (Safe.new (Nat.le_of_eq g9.symm))
    have F9_17 := F8_14.ext E9
    have F9_18 := Safe.ext E9 R8.1 Sf8
    have F9_19 := A8.ext E9
    have F9_20 := F8_15.ext E9
    have F9_21 := F8_16.ext E9
    have Ol9 := Ol8.ext E9
    have K9 : Keep h0 h9 ([] : List Addr) := K8.ext E9
    have R9 := R8.trans (CHr.ext E9 R8.1)
    have hk9 := Nat.le_trans hk8 E9.1
    refine og T9 m 32 #[vR ab1, vI nw] [(.int c1), (.int 0), (.ref b9), (.ref b9), (.ref b8), (.ref b8)] (fun tgt kgo => ?_) ?_
    · refine XS.dup X9.here hx rfl (hb hby d37_27) rfl rfl ?_
      refine XS.iconst X9.here hx rfl (hb hby d37_28) ?_
      refine XS.aloadN X9.here hx rfl (hb hby d37_29) rfl rfl ?_
      show OwnG p e below T9 m 30 #[vR ab1, vI nw] [(.ref ab1), (.int 0), (.ref b9), (.ref b9), (.ref b8), (.ref b8)] tgt
      refine XS.iconst X9.here hx rfl (hb hby d37_30) ?_
      show OwnG p e below T9 m 31 #[vR ab1, vI nw] [(.int 0), (.ref ab1), (.int 0), (.ref b9), (.ref b9), (.ref b8), (.ref b8)] tgt
      obtain ⟨cl10, Ar10, q10, S10, M10, H10, G10⟩ := F9_17
      refine X9.caload hx (j := (0 : Int32)) (v := (.int c1)) (by rw [e9]; exact Ar10.1) (State.isArrayOf_alike hZ.alike Ar10.2.1) Ar10.2.2 (inb_of S10 ⟨by decide, by decide⟩) (Has.at H10 (inb_of S10 ⟨by decide, by decide⟩) rfl) (g := (mkF m 31 #[vR ab1, vI nw] [(.int 0), (.ref ab1), (.int 0), (.ref b9), (.ref b9), (.ref b8), (.ref b8)])) rfl rfl (hb hby d37_31) _ ?_
      exact kgo
    obtain ⟨cl11, Ar11, q11, S11, M11, H11, G11⟩ := id V9
    obtain ⟨T11, h11, X11, e11, W11, st11⟩ := stC X9 hx hZ e9 Ar11 (j := (0 : Int32)) (inb_of S11 ⟨by decide, by decide⟩) (g := (mkF m 32 #[vR ab1, vI nw] [(.int c1), (.int 0), (.ref b9), (.ref b9), (.ref b8), (.ref b8)])) rfl rfl (hb hby d37_32)
    refine og T11 m 33 #[vR ab1, vI nw] [(.ref b9), (.ref b8), (.ref b8)] st11 ?_
    have V11 : Arv Z h11 b9 k9 .char (1 : Int32) [(.int (nar .char c1))] (.int 0) := Arv.set Ar11 q11 S11 M11 H11 G11 (fits_nar_char _) W11 0 rfl (Nat.le_of_ble_eq_true rfl)
    rw [(own_nar_lat hl0)] at V11
    have V11' : Arv Z h11 b9 k9 .char (1 : Int32) [(.int c1)] (.int 0) := V11
    have F11_22 := F9_17.other W11 ne_ab1_b9
    have F11_23 := Safe.wr W11 Sf9 R9.1 F9_18
    have F11_24 := F9_19.wr W11
    have F11_25 := F9_20.other W11 (Or.inl ne_b8_b9)
    have F11_26 := F9_21.other W11 (Or.inl ne_b8_b9)
    have F11_27 := Safe.wr W11 Sf9 R9.1 Sf9
    have Ol11 := Ol9.wr W11 g_b9
    have K11 : Keep h0 h11 ([] : List Addr) := K9.wr W11 (Or.inr s_b9)
    have R11 := R9.trans (CHr.wr W11 Sf9 R9.1)
    have hk11 := Nat.le_trans hk9 (Keep.of_wr W11).1
    have N11 := Fr.snoc X11 N0 g_b9
    have hp13 : ∀ c ∈ ([c1] : List Int32), ¬ c < 0 ∧ ¬ (255 : Int32) < c := (own_memS hl0 own_mem0)
    have V13c : Arv Z h11 b9 k9 .char (1 : Int32) (([c1] : List Int32).map Value.int) (.int 0) := V11'
    obtain ⟨_, _, ⟨T12, L12, k12, n12⟩, -, X12, ⟨Lc12, hQ12, l12, y12, z12⟩, st12⟩ := X11.specialBack hx (y := mN1) rfl hown (mvT hZ (own_w hw 12 rfl)) (mvT hZ (own_w hw 13 rfl)) (mvT hZ (own_w hw 14 rfl)) (by decide) (StrChars.Road.backV (W := 1) hZ (fun d hd => hw d (own_hws d hd)) (kI := 4) (own_w hw 10 rfl) (cs := ([c1] : List Int32)) (bs := ([c1] : List Int32).map (fun c => c.toInt8.toInt32)) (n := 1) g_b8 (Nat.le_trans Z0 K11.1) F11_24 F11_25 F11_26 V13c (wO2.ext Ol11.2) wP5 rfl rfl (by decide) (by decide) hp13 rfl (by decide) (by decide)) (g := (mkF m 33 #[vR ab1, vI nw] [(.ref b9), (.ref b8), (.ref b8)])) rfl (by rw [hml]; rfl) (Steps.refl _) (a := b8) (argsL := [(.ref b9)]) (rest := [(.ref b8)]) (lenOf pd_68446664 rfl) rfl (Nat.le_of_eq rfl) (hb hby d37_33) (fun _ _ => ⟨rfl, e11, (by decide : 2 + 1 ≤ _), (by decide : 5 + 1 ≤ _)⟩)
    dsimp only [Pt.U, Pt.locs, Pt.cells, Pt.slots] at X12 l12 y12 z12 st12 hQ12
    subst l12 y12 z12
    obtain ⟨rfl, Nq12, Kq12, fe12, fc12, t12, kb12, ut12, vt12, wt12, fv12, fa12⟩ := hQ12
    refine OwnGoes.tr (T' := T12) (g' := (mkF m 36 #[vR ab1, vI nw] [(.ref b8)])) st12 ?_
    have N12 := Fr.app N11 Nq12
    have ne_ab1_t12 : ab1 ≠ t12 := Nat.ne_of_lt (Nat.lt_of_lt_of_le F11_22.lt vt12)
    have ne_b8_t12 : b8 ≠ t12 := Nat.ne_of_lt (Nat.lt_of_lt_of_le F11_24.lt vt12)
    have ne_b9_t12 : b9 ≠ t12 := Nat.ne_of_lt (Nat.lt_of_lt_of_le V11'.lt vt12)
    have g_t12 : n0 ≤ t12 := Nat.le_trans (Nat.le_trans Z0 K11.1) vt12
    have s_t12 : h0.size ≤ t12 := Nat.le_trans K11.1 vt12
    have Sf12 : Safe Z consts_1 s.vm T12.heap t12 := Safe.keep Kq12 (sfS F11_23 sf0) R11.1 (Safe.new vt12)
    have F12_28 := F11_22.keep Kq12 (ninS ne_ab1_b8 nin0)
    have F12_29 := Safe.keep Kq12 (sfS F11_23 sf0) R11.1 F11_23
    have F12_30 := F11_24.keep Kq12
    have F12_31 := Safe.keep Kq12 (sfS F11_23 sf0) R11.1 F11_27
    have F12_32 := V11'.keep Kq12 (ninS (Ne.symm ne_b8_b9) nin0)
    have Ol12 := Ol11.keep Kq12 (allS g_b8 all0)
    have K12 : Keep h0 T12.heap ([] : List Addr) := K11.trans Kq12 (allS (Or.inr s_b8) all0)
    have R12 := R11.trans (CHr.keep Kq12 (sfS F11_23 sf0) R11.1)
    have hk12 := Nat.le_trans hk11 Kq12.1
    have hob15 : OwnStr ([c1] : List Int32) (0 : Int32) (1 : Int32) ((([c1] : List Int32).map (fun c => c.toInt8.toInt32)).map Value.int) := own_str_lat (n := 1) rfl (by decide) hp13
    have hret : ∀ fs, (∀ (f : JFrame) (acts : List Action), f.method = m → f.locked = none → f.entered = [] → (doReturn e (T12.setTop f) acts (some (.ref b8))).1 = T12.setFrames fs) → Steps p.tables e below (T12.setTop (mkF m 36 #[vR ab1, vI nw] [(.ref b8)])) (T12.setFrames fs) := by
      intro fs hr
      jvm_step X12.here [X12.here.top, hx, (hb hby d37_36), X12.method', Bd.returns, Value.isRef, FieldType.isReference]
      first | (intro acts; rw [hr _ acts rfl rfl rfl]) | rw [hr _ _ rfl rfl rfl]
      exact Steps.refl _
    refine own_leaveW (Z := Z) (EL := consts_1) X12 hS0 hk12 hlk (v := some (.ref b8)) (fun h => by rw [Bd.returns] at h; cases h) hret (by decide) (by decide) ?_ ?_
    · rw [hh]
      exact R12.trans (CHv.at X12 hZ hEL R12.1)
    show Q_make Z ab1 kc nw c1 c2 c3 c4 h0 n0 _ T12.heap _
    exact ⟨b8, t12, kb12, (1 : Int32), ((([c1] : List Int32).map (fun c => c.toInt8.toInt32)).map Value.int), rfl, N12, K12, fe12, fv12, fc12, fa12, (by rw [cc7]; exact hob15)⟩
  refine og s₁ m 39 #[vR ab1, vI nw] [(.int 2), (.int nw)] (fun tgt kgo => ?_) ?_
  · refine XS.icmpYes X0.here hx rfl (pc0 := 17) (pc' := 37) rfl (hb hby d37_17) rfl (feq cc7).2 (by decide) (by decide) ?_
    refine XS.iloadN X0.here hx rfl (hb hby d37_37) rfl ?_
    refine XS.iconst X0.here hx rfl (hb hby d37_38) ?_
    exact kgo
  by_cases cc16 : nw = (2 : Int32)
  · skip
    refine og s₁ m 42 #[vR ab1, vI nw] [] (fun tgt kgo => ?_) ?_
    · refine XS.icmpNo X0.here hx rfl (hb hby d37_39) rfl (teq cc16).2 ?_
      exact kgo
    obtain ⟨T17, h17, X17, e17, E17, A17, D17, U17, st17⟩ := newO X0 hx hZ hown (own_w hw 9 rfl) (own_w hw 10 rfl) (own_w hw 11 rfl) e0 (g := (mkF m 42 #[vR ab1, vI nw] [])) rfl (hb hby d37_42) (by decide) (by decide)
    obtain ⟨b17, g17⟩ : ∃ z, z = h0.size := ⟨_, rfl⟩
    rw [← g17] at A17 D17 U17 st17
    refine og T17 m 45 #[vR ab1, vI nw] [(.ref b17)] st17 ?_
    have ne_ab1_b17 : ab1 ≠ b17 := Nat.ne_of_lt (Nat.lt_of_lt_of_le f0.lt (Nat.le_of_eq g17.symm))
    have g_b17 : n0 ≤ b17 := Nat.le_trans (Nat.le_trans Z0 K0.1) (Nat.le_of_eq g17.symm)
    have s_b17 : h0.size ≤ b17 := Nat.le_trans K0.1 (Nat.le_of_eq g17.symm)
    have Sf17 : Safe Z consts_1 s.vm h17 b17 := Safe.ext E17 R0.1 (Safe.new (Nat.le_of_eq g17.symm))
    have F17_33 := f0.ext E17
    have Ol17 := X00.ext E17
    have K17 : Keep h0 h17 ([] : List Addr) := K0.ext E17
    have R17 := R0.trans (CHr.ext E17 R0.1)
    have hk17 := Nat.le_trans hk0 E17.1
    have F17_34 : Fld Z h17 b17 "java/lang/String" "value" "[B" .null := D17 (Or.inr (own_w hw 24 rfl)) (ty := (.array .byte)) (by decide)
    have F17_35 : Fld Z h17 b17 "java/lang/String" "coder" "B" (.int 0) := D17 (Or.inr (own_w hw 25 rfl)) (ty := .byte) (by decide)
    refine og T17 m 47 #[vR ab1, vI nw] [(.int 2), (.ref b17), (.ref b17)] (fun tgt kgo => ?_) ?_
    · refine XS.dup X17.here hx rfl (hb hby d37_45) rfl rfl ?_
      refine XS.iconst X17.here hx rfl (hb hby d37_46) ?_
      exact kgo
    obtain ⟨T18, h18, k18, X18, e18, E18, A18, st18⟩ := newP X17 hx hZ (own_w hw 1 rfl) e17 (g := (mkF m 47 #[vR ab1, vI nw] [(.int 2), (.ref b17), (.ref b17)])) rfl (hb hby d37_47) rfl (by decide) (cap := 2) (by decide) (by decide) (by decide) (by decide)
    obtain ⟨b18, g18⟩ : ∃ z, z = h17.size := ⟨_, rfl⟩
    rw [← g18] at A18 st18
    refine og T18 m 49 #[vR ab1, vI nw] [(.ref b18), (.ref b17), (.ref b17)] st18 ?_
    have V18 : Arv Z h18 b18 k18 .char (2 : Int32) [(.int 0), (.int 0)] (.int 0) := (Arv.new A18 (by decide)).pad (pad_rep [] (.int 0) 2)
    have ne_ab1_b18 : ab1 ≠ b18 := Nat.ne_of_lt (Nat.lt_of_lt_of_le F17_33.lt (Nat.le_of_eq g18.symm))
    have ne_b17_b18 : b17 ≠ b18 := Nat.ne_of_lt (Nat.lt_of_lt_of_le A17.lt (Nat.le_of_eq g18.symm))
    have g_b18 : n0 ≤ b18 := Nat.le_trans (Nat.le_trans Z0 K17.1) (Nat.le_of_eq g18.symm)
    have s_b18 : h0.size ≤ b18 := Nat.le_trans K17.1 (Nat.le_of_eq g18.symm)
    have Sf18 : Safe Z consts_1 s.vm h18 b18 := Safe.ext E18 R17.1 (Safe.new (Nat.le_of_eq g18.symm))
    have F18_36 := F17_33.ext E18
    have F18_37 := Safe.ext E18 R17.1 Sf17
    have F18_38 := A17.ext E18
    have F18_39 := F17_34.ext E18
    have F18_40 := F17_35.ext E18
    have Ol18 := Ol17.ext E18
    have K18 : Keep h0 h18 ([] : List Addr) := K17.ext E18
    have R18 := R17.trans (CHr.ext E18 R17.1)
    have hk18 := Nat.le_trans hk17 E18.1
    refine og T18 m 54 #[vR ab1, vI nw] [(.int c1), (.int 0), (.ref b18), (.ref b18), (.ref b17), (.ref b17)] (fun tgt kgo => ?_) ?_
    · refine XS.dup X18.here hx rfl (hb hby d37_49) rfl rfl ?_
      refine XS.iconst X18.here hx rfl (hb hby d37_50) ?_
      refine XS.aloadN X18.here hx rfl (hb hby d37_51) rfl rfl ?_
      show OwnG p e below T18 m 52 #[vR ab1, vI nw] [(.ref ab1), (.int 0), (.ref b18), (.ref b18), (.ref b17), (.ref b17)] tgt
      refine XS.iconst X18.here hx rfl (hb hby d37_52) ?_
      show OwnG p e below T18 m 53 #[vR ab1, vI nw] [(.int 0), (.ref ab1), (.int 0), (.ref b18), (.ref b18), (.ref b17), (.ref b17)] tgt
      obtain ⟨cl19, Ar19, q19, S19, M19, H19, G19⟩ := F18_36
      refine X18.caload hx (j := (0 : Int32)) (v := (.int c1)) (by rw [e18]; exact Ar19.1) (State.isArrayOf_alike hZ.alike Ar19.2.1) Ar19.2.2 (inb_of S19 ⟨by decide, by decide⟩) (Has.at H19 (inb_of S19 ⟨by decide, by decide⟩) rfl) (g := (mkF m 53 #[vR ab1, vI nw] [(.int 0), (.ref ab1), (.int 0), (.ref b18), (.ref b18), (.ref b17), (.ref b17)])) rfl rfl (hb hby d37_53) _ ?_
      exact kgo
    obtain ⟨cl20, Ar20, q20, S20, M20, H20, G20⟩ := id V18
    obtain ⟨T20, h20, X20, e20, W20, st20⟩ := stC X18 hx hZ e18 Ar20 (j := (0 : Int32)) (inb_of S20 ⟨by decide, by decide⟩) (g := (mkF m 54 #[vR ab1, vI nw] [(.int c1), (.int 0), (.ref b18), (.ref b18), (.ref b17), (.ref b17)])) rfl rfl (hb hby d37_54)
    refine og T20 m 55 #[vR ab1, vI nw] [(.ref b18), (.ref b17), (.ref b17)] st20 ?_
    have V20 : Arv Z h20 b18 k18 .char (2 : Int32) [(.int (nar .char c1)), (.int 0)] (.int 0) := Arv.set Ar20 q20 S20 M20 H20 G20 (fits_nar_char _) W20 0 rfl (Nat.le_of_ble_eq_true rfl)
    rw [(own_nar_lat hl0)] at V20
    have V20' : Arv Z h20 b18 k18 .char (2 : Int32) [(.int c1), (.int 0)] (.int 0) := V20
    have F20_41 := F18_36.other W20 ne_ab1_b18
    have F20_42 := Safe.wr W20 Sf18 R18.1 F18_37
    have F20_43 := F18_38.wr W20
    have F20_44 := F18_39.other W20 (Or.inl ne_b17_b18)
    have F20_45 := F18_40.other W20 (Or.inl ne_b17_b18)
    have F20_46 := Safe.wr W20 Sf18 R18.1 Sf18
    have Ol20 := Ol18.wr W20 g_b18
    have K20 : Keep h0 h20 ([] : List Addr) := K18.wr W20 (Or.inr s_b18)
    have R20 := R18.trans (CHr.wr W20 Sf18 R18.1)
    have hk20 := Nat.le_trans hk18 (Keep.of_wr W20).1
    have N20 := Fr.snoc X20 N0 g_b18
    refine og T20 m 60 #[vR ab1, vI nw] [(.int c2), (.int 1), (.ref b18), (.ref b18), (.ref b17), (.ref b17)] (fun tgt kgo => ?_) ?_
    · refine XS.dup X20.here hx rfl (hb hby d37_55) rfl rfl ?_
      refine XS.iconst X20.here hx rfl (hb hby d37_56) ?_
      refine XS.aloadN X20.here hx rfl (hb hby d37_57) rfl rfl ?_
      show OwnG p e below T20 m 58 #[vR ab1, vI nw] [(.ref ab1), (.int 1), (.ref b18), (.ref b18), (.ref b17), (.ref b17)] tgt
      refine XS.iconst X20.here hx rfl (hb hby d37_58) ?_
      show OwnG p e below T20 m 59 #[vR ab1, vI nw] [(.int 1), (.ref ab1), (.int 1), (.ref b18), (.ref b18), (.ref b17), (.ref b17)] tgt
      obtain ⟨cl21, Ar21, q21, S21, M21, H21, G21⟩ := F20_41
      refine X20.caload hx (j := (1 : Int32)) (v := (.int c2)) (by rw [e20]; exact Ar21.1) (State.isArrayOf_alike hZ.alike Ar21.2.1) Ar21.2.2 (inb_of S21 ⟨by decide, by decide⟩) (Has.at H21 (inb_of S21 ⟨by decide, by decide⟩) rfl) (g := (mkF m 59 #[vR ab1, vI nw] [(.int 1), (.ref ab1), (.int 1), (.ref b18), (.ref b18), (.ref b17), (.ref b17)])) rfl rfl (hb hby d37_59) _ ?_
      exact kgo
    obtain ⟨cl22, Ar22, q22, S22, M22, H22, G22⟩ := id V20'
    obtain ⟨T22, h22, X22, e22, W22, st22⟩ := stC X20 hx hZ e20 Ar22 (j := (1 : Int32)) (inb_of S22 ⟨by decide, by decide⟩) (g := (mkF m 60 #[vR ab1, vI nw] [(.int c2), (.int 1), (.ref b18), (.ref b18), (.ref b17), (.ref b17)])) rfl rfl (hb hby d37_60)
    refine og T22 m 61 #[vR ab1, vI nw] [(.ref b18), (.ref b17), (.ref b17)] st22 ?_
    have V22 : Arv Z h22 b18 k18 .char (2 : Int32) [(.int c1), (.int (nar .char c2))] (.int 0) := Arv.set Ar22 q22 S22 M22 H22 G22 (fits_nar_char _) W22 1 rfl (Nat.le_of_ble_eq_true rfl)
    rw [(own_nar_lat hl1)] at V22
    have V22' : Arv Z h22 b18 k18 .char (2 : Int32) [(.int c1), (.int c2)] (.int 0) := V22
    have F22_47 := F20_41.other W22 ne_ab1_b18
    have F22_48 := Safe.wr W22 F20_46 R20.1 F20_42
    have F22_49 := F20_43.wr W22
    have F22_50 := F20_44.other W22 (Or.inl ne_b17_b18)
    have F22_51 := F20_45.other W22 (Or.inl ne_b17_b18)
    have F22_52 := Safe.wr W22 F20_46 R20.1 F20_46
    have Ol22 := Ol20.wr W22 g_b18
    have K22 : Keep h0 h22 ([] : List Addr) := K20.wr W22 (Or.inr s_b18)
    have R22 := R20.trans (CHr.wr W22 F20_46 R20.1)
    have hk22 := Nat.le_trans hk20 (Keep.of_wr W22).1
    have N22 := Fr.snoc X22 N20 g_b18
    have hp24 : ∀ c ∈ ([c1, c2] : List Int32), ¬ c < 0 ∧ ¬ (255 : Int32) < c := (own_memS hl0 (own_memS hl1 own_mem0))
    have V24c : Arv Z h22 b18 k18 .char (2 : Int32) (([c1, c2] : List Int32).map Value.int) (.int 0) := V22'
    obtain ⟨_, _, ⟨T23, L23, k23, n23⟩, -, X23, ⟨Lc23, hQ23, l23, y23, z23⟩, st23⟩ := X22.specialBack hx (y := mN1) rfl hown (mvT hZ (own_w hw 12 rfl)) (mvT hZ (own_w hw 13 rfl)) (mvT hZ (own_w hw 14 rfl)) (by decide) (StrChars.Road.backV (W := 1) hZ (fun d hd => hw d (own_hws d hd)) (kI := 4) (own_w hw 10 rfl) (cs := ([c1, c2] : List Int32)) (bs := ([c1, c2] : List Int32).map (fun c => c.toInt8.toInt32)) (n := 2) g_b17 (Nat.le_trans Z0 K22.1) F22_49 F22_50 F22_51 V24c (wO2.ext Ol22.2) wP5 rfl rfl (by decide) (by decide) hp24 rfl (by decide) (by decide)) (g := (mkF m 61 #[vR ab1, vI nw] [(.ref b18), (.ref b17), (.ref b17)])) rfl (by rw [hml]; rfl) (Steps.refl _) (a := b17) (argsL := [(.ref b18)]) (rest := [(.ref b17)]) (lenOf pd_68446664 rfl) rfl (Nat.le_of_eq rfl) (hb hby d37_61) (fun _ _ => ⟨rfl, e22, (by decide : 2 + 1 ≤ _), (by decide : 6 + 2 ≤ _)⟩)
    dsimp only [Pt.U, Pt.locs, Pt.cells, Pt.slots] at X23 l23 y23 z23 st23 hQ23
    subst l23 y23 z23
    obtain ⟨rfl, Nq23, Kq23, fe23, fc23, t23, kb23, ut23, vt23, wt23, fv23, fa23⟩ := hQ23
    refine OwnGoes.tr (T' := T23) (g' := (mkF m 64 #[vR ab1, vI nw] [(.ref b17)])) st23 ?_
    have N23 := Fr.app N22 Nq23
    have ne_ab1_t23 : ab1 ≠ t23 := Nat.ne_of_lt (Nat.lt_of_lt_of_le F22_47.lt vt23)
    have ne_b17_t23 : b17 ≠ t23 := Nat.ne_of_lt (Nat.lt_of_lt_of_le F22_49.lt vt23)
    have ne_b18_t23 : b18 ≠ t23 := Nat.ne_of_lt (Nat.lt_of_lt_of_le V22'.lt vt23)
    have g_t23 : n0 ≤ t23 := Nat.le_trans (Nat.le_trans Z0 K22.1) vt23
    have s_t23 : h0.size ≤ t23 := Nat.le_trans K22.1 vt23
    have Sf23 : Safe Z consts_1 s.vm T23.heap t23 := Safe.keep Kq23 (sfS F22_48 sf0) R22.1 (Safe.new vt23)
    have F23_53 := F22_47.keep Kq23 (ninS ne_ab1_b17 nin0)
    have F23_54 := Safe.keep Kq23 (sfS F22_48 sf0) R22.1 F22_48
    have F23_55 := F22_49.keep Kq23
    have F23_56 := Safe.keep Kq23 (sfS F22_48 sf0) R22.1 F22_52
    have F23_57 := V22'.keep Kq23 (ninS (Ne.symm ne_b17_b18) nin0)
    have Ol23 := Ol22.keep Kq23 (allS g_b17 all0)
    have K23 : Keep h0 T23.heap ([] : List Addr) := K22.trans Kq23 (allS (Or.inr s_b17) all0)
    have R23 := R22.trans (CHr.keep Kq23 (sfS F22_48 sf0) R22.1)
    have hk23 := Nat.le_trans hk22 Kq23.1
    have hob26 : OwnStr ([c1, c2] : List Int32) (0 : Int32) (2 : Int32) ((([c1, c2] : List Int32).map (fun c => c.toInt8.toInt32)).map Value.int) := own_str_lat (n := 2) rfl (by decide) hp24
    have hret : ∀ fs, (∀ (f : JFrame) (acts : List Action), f.method = m → f.locked = none → f.entered = [] → (doReturn e (T23.setTop f) acts (some (.ref b17))).1 = T23.setFrames fs) → Steps p.tables e below (T23.setTop (mkF m 64 #[vR ab1, vI nw] [(.ref b17)])) (T23.setFrames fs) := by
      intro fs hr
      jvm_step X23.here [X23.here.top, hx, (hb hby d37_64), X23.method', Bd.returns, Value.isRef, FieldType.isReference]
      first | (intro acts; rw [hr _ acts rfl rfl rfl]) | rw [hr _ _ rfl rfl rfl]
      exact Steps.refl _
    refine own_leaveW (Z := Z) (EL := consts_1) X23 hS0 hk23 hlk (v := some (.ref b17)) (fun h => by rw [Bd.returns] at h; cases h) hret (by decide) (by decide) ?_ ?_
    · rw [hh]
      exact R23.trans (CHv.at X23 hZ hEL R23.1)
    show Q_make Z ab1 kc nw c1 c2 c3 c4 h0 n0 _ T23.heap _
    exact ⟨b17, t23, kb23, (2 : Int32), ((([c1, c2] : List Int32).map (fun c => c.toInt8.toInt32)).map Value.int), rfl, N23, K23, fe23, fv23, fc23, fa23, (by rw [cc16]; exact hob26)⟩
  refine og s₁ m 67 #[vR ab1, vI nw] [(.int 3), (.int nw)] (fun tgt kgo => ?_) ?_
  · refine XS.icmpYes X0.here hx rfl (pc0 := 39) (pc' := 65) rfl (hb hby d37_39) rfl (feq cc16).2 (by decide) (by decide) ?_
    refine XS.iloadN X0.here hx rfl (hb hby d37_65) rfl ?_
    refine XS.iconst X0.here hx rfl (hb hby d37_66) ?_
    exact kgo
  by_cases cc27 : nw = (3 : Int32)
  · skip
    refine og s₁ m 70 #[vR ab1, vI nw] [] (fun tgt kgo => ?_) ?_
    · refine XS.icmpNo X0.here hx rfl (hb hby d37_67) rfl (teq cc27).2 ?_
      exact kgo
    obtain ⟨T28, h28, X28, e28, E28, A28, D28, U28, st28⟩ := newO X0 hx hZ hown (own_w hw 9 rfl) (own_w hw 10 rfl) (own_w hw 11 rfl) e0 (g := (mkF m 70 #[vR ab1, vI nw] [])) rfl (hb hby d37_70) (by decide) (by decide)
    obtain ⟨b28, g28⟩ : ∃ z, z = h0.size := ⟨_, rfl⟩
    rw [← g28] at A28 D28 U28 st28
    refine og T28 m 73 #[vR ab1, vI nw] [(.ref b28)] st28 ?_
    have ne_ab1_b28 : ab1 ≠ b28 := Nat.ne_of_lt (Nat.lt_of_lt_of_le f0.lt (Nat.le_of_eq g28.symm))
    have g_b28 : n0 ≤ b28 := Nat.le_trans (Nat.le_trans Z0 K0.1) (Nat.le_of_eq g28.symm)
    have s_b28 : h0.size ≤ b28 := Nat.le_trans K0.1 (Nat.le_of_eq g28.symm)
    have Sf28 : Safe Z consts_1 s.vm h28 b28 := Safe.ext E28 R0.1 (Safe.new (Nat.le_of_eq g28.symm))
    have F28_58 := f0.ext E28
    have Ol28 := X00.ext E28
    have K28 : Keep h0 h28 ([] : List Addr) := K0.ext E28
    have R28 := R0.trans (CHr.ext E28 R0.1)
    have hk28 := Nat.le_trans hk0 E28.1
    have F28_59 : Fld Z h28 b28 "java/lang/String" "value" "[B" .null := D28 (Or.inr (own_w hw 24 rfl)) (ty := (.array .byte)) (by decide)
    have F28_60 : Fld Z h28 b28 "java/lang/String" "coder" "B" (.int 0) := D28 (Or.inr (own_w hw 25 rfl)) (ty := .byte) (by decide)
    refine og T28 m 75 #[vR ab1, vI nw] [(.int 3), (.ref b28), (.ref b28)] (fun tgt kgo => ?_) ?_
    · refine XS.dup X28.here hx rfl (hb hby d37_73) rfl rfl ?_
      refine XS.iconst X28.here hx rfl (hb hby d37_74) ?_
      exact kgo
    obtain ⟨T29, h29, k29, X29, e29, E29, A29, st29⟩ := newP X28 hx hZ (own_w hw 1 rfl) e28 (g := (mkF m 75 #[vR ab1, vI nw] [(.int 3), (.ref b28), (.ref b28)])) rfl (hb hby d37_75) rfl (by decide) (cap := 3) (by decide) (by decide) (by decide) (by decide)
    obtain ⟨b29, g29⟩ : ∃ z, z = h28.size := ⟨_, rfl⟩
    rw [← g29] at A29 st29
    refine og T29 m 77 #[vR ab1, vI nw] [(.ref b29), (.ref b28), (.ref b28)] st29 ?_
    have V29 : Arv Z h29 b29 k29 .char (3 : Int32) [(.int 0), (.int 0), (.int 0)] (.int 0) := (Arv.new A29 (by decide)).pad (pad_rep [] (.int 0) 3)
    have ne_ab1_b29 : ab1 ≠ b29 := Nat.ne_of_lt (Nat.lt_of_lt_of_le F28_58.lt (Nat.le_of_eq g29.symm))
    have ne_b28_b29 : b28 ≠ b29 := Nat.ne_of_lt (Nat.lt_of_lt_of_le A28.lt (Nat.le_of_eq g29.symm))
    have g_b29 : n0 ≤ b29 := Nat.le_trans (Nat.le_trans Z0 K28.1) (Nat.le_of_eq g29.symm)
    have s_b29 : h0.size ≤ b29 := Nat.le_trans K28.1 (Nat.le_of_eq g29.symm)
    have Sf29 : Safe Z consts_1 s.vm h29 b29 := Safe.ext E29 R28.1 (Safe.new (Nat.le_of_eq g29.symm))
    have F29_61 := F28_58.ext E29
    have F29_62 := Safe.ext E29 R28.1 Sf28
    have F29_63 := A28.ext E29
    have F29_64 := F28_59.ext E29
    have F29_65 := F28_60.ext E29
    have Ol29 := Ol28.ext E29
    have K29 : Keep h0 h29 ([] : List Addr) := K28.ext E29
    have R29 := R28.trans (CHr.ext E29 R28.1)
    have hk29 := Nat.le_trans hk28 E29.1
    refine og T29 m 82 #[vR ab1, vI nw] [(.int c1), (.int 0), (.ref b29), (.ref b29), (.ref b28), (.ref b28)] (fun tgt kgo => ?_) ?_
    · refine XS.dup X29.here hx rfl (hb hby d37_77) rfl rfl ?_
      refine XS.iconst X29.here hx rfl (hb hby d37_78) ?_
      refine XS.aloadN X29.here hx rfl (hb hby d37_79) rfl rfl ?_
      show OwnG p e below T29 m 80 #[vR ab1, vI nw] [(.ref ab1), (.int 0), (.ref b29), (.ref b29), (.ref b28), (.ref b28)] tgt
      refine XS.iconst X29.here hx rfl (hb hby d37_80) ?_
      show OwnG p e below T29 m 81 #[vR ab1, vI nw] [(.int 0), (.ref ab1), (.int 0), (.ref b29), (.ref b29), (.ref b28), (.ref b28)] tgt
      obtain ⟨cl30, Ar30, q30, S30, M30, H30, G30⟩ := F29_61
      refine X29.caload hx (j := (0 : Int32)) (v := (.int c1)) (by rw [e29]; exact Ar30.1) (State.isArrayOf_alike hZ.alike Ar30.2.1) Ar30.2.2 (inb_of S30 ⟨by decide, by decide⟩) (Has.at H30 (inb_of S30 ⟨by decide, by decide⟩) rfl) (g := (mkF m 81 #[vR ab1, vI nw] [(.int 0), (.ref ab1), (.int 0), (.ref b29), (.ref b29), (.ref b28), (.ref b28)])) rfl rfl (hb hby d37_81) _ ?_
      exact kgo
    obtain ⟨cl31, Ar31, q31, S31, M31, H31, G31⟩ := id V29
    obtain ⟨T31, h31, X31, e31, W31, st31⟩ := stC X29 hx hZ e29 Ar31 (j := (0 : Int32)) (inb_of S31 ⟨by decide, by decide⟩) (g := (mkF m 82 #[vR ab1, vI nw] [(.int c1), (.int 0), (.ref b29), (.ref b29), (.ref b28), (.ref b28)])) rfl rfl (hb hby d37_82)
    refine og T31 m 83 #[vR ab1, vI nw] [(.ref b29), (.ref b28), (.ref b28)] st31 ?_
    have V31 : Arv Z h31 b29 k29 .char (3 : Int32) [(.int (nar .char c1)), (.int 0), (.int 0)] (.int 0) := Arv.set Ar31 q31 S31 M31 H31 G31 (fits_nar_char _) W31 0 rfl (Nat.le_of_ble_eq_true rfl)
    rw [(own_nar_lat hl0)] at V31
    have V31' : Arv Z h31 b29 k29 .char (3 : Int32) [(.int c1), (.int 0), (.int 0)] (.int 0) := V31
    have F31_66 := F29_61.other W31 ne_ab1_b29
    have F31_67 := Safe.wr W31 Sf29 R29.1 F29_62
    have F31_68 := F29_63.wr W31
    have F31_69 := F29_64.other W31 (Or.inl ne_b28_b29)
    have F31_70 := F29_65.other W31 (Or.inl ne_b28_b29)
    have F31_71 := Safe.wr W31 Sf29 R29.1 Sf29
    have Ol31 := Ol29.wr W31 g_b29
    have K31 : Keep h0 h31 ([] : List Addr) := K29.wr W31 (Or.inr s_b29)
    have R31 := R29.trans (CHr.wr W31 Sf29 R29.1)
    have hk31 := Nat.le_trans hk29 (Keep.of_wr W31).1
    have N31 := Fr.snoc X31 N0 g_b29
    refine og T31 m 88 #[vR ab1, vI nw] [(.int c2), (.int 1), (.ref b29), (.ref b29), (.ref b28), (.ref b28)] (fun tgt kgo => ?_) ?_
    · refine XS.dup X31.here hx rfl (hb hby d37_83) rfl rfl ?_
      refine XS.iconst X31.here hx rfl (hb hby d37_84) ?_
      refine XS.aloadN X31.here hx rfl (hb hby d37_85) rfl rfl ?_
      show OwnG p e below T31 m 86 #[vR ab1, vI nw] [(.ref ab1), (.int 1), (.ref b29), (.ref b29), (.ref b28), (.ref b28)] tgt
      refine XS.iconst X31.here hx rfl (hb hby d37_86) ?_
      show OwnG p e below T31 m 87 #[vR ab1, vI nw] [(.int 1), (.ref ab1), (.int 1), (.ref b29), (.ref b29), (.ref b28), (.ref b28)] tgt
      obtain ⟨cl32, Ar32, q32, S32, M32, H32, G32⟩ := F31_66
      refine X31.caload hx (j := (1 : Int32)) (v := (.int c2)) (by rw [e31]; exact Ar32.1) (State.isArrayOf_alike hZ.alike Ar32.2.1) Ar32.2.2 (inb_of S32 ⟨by decide, by decide⟩) (Has.at H32 (inb_of S32 ⟨by decide, by decide⟩) rfl) (g := (mkF m 87 #[vR ab1, vI nw] [(.int 1), (.ref ab1), (.int 1), (.ref b29), (.ref b29), (.ref b28), (.ref b28)])) rfl rfl (hb hby d37_87) _ ?_
      exact kgo
    obtain ⟨cl33, Ar33, q33, S33, M33, H33, G33⟩ := id V31'
    obtain ⟨T33, h33, X33, e33, W33, st33⟩ := stC X31 hx hZ e31 Ar33 (j := (1 : Int32)) (inb_of S33 ⟨by decide, by decide⟩) (g := (mkF m 88 #[vR ab1, vI nw] [(.int c2), (.int 1), (.ref b29), (.ref b29), (.ref b28), (.ref b28)])) rfl rfl (hb hby d37_88)
    refine og T33 m 89 #[vR ab1, vI nw] [(.ref b29), (.ref b28), (.ref b28)] st33 ?_
    have V33 : Arv Z h33 b29 k29 .char (3 : Int32) [(.int c1), (.int (nar .char c2)), (.int 0)] (.int 0) := Arv.set Ar33 q33 S33 M33 H33 G33 (fits_nar_char _) W33 1 rfl (Nat.le_of_ble_eq_true rfl)
    rw [(own_nar_lat hl1)] at V33
    have V33' : Arv Z h33 b29 k29 .char (3 : Int32) [(.int c1), (.int c2), (.int 0)] (.int 0) := V33
    have F33_72 := F31_66.other W33 ne_ab1_b29
    have F33_73 := Safe.wr W33 F31_71 R31.1 F31_67
    have F33_74 := F31_68.wr W33
    have F33_75 := F31_69.other W33 (Or.inl ne_b28_b29)
    have F33_76 := F31_70.other W33 (Or.inl ne_b28_b29)
    have F33_77 := Safe.wr W33 F31_71 R31.1 F31_71
    have Ol33 := Ol31.wr W33 g_b29
    have K33 : Keep h0 h33 ([] : List Addr) := K31.wr W33 (Or.inr s_b29)
    have R33 := R31.trans (CHr.wr W33 F31_71 R31.1)
    have hk33 := Nat.le_trans hk31 (Keep.of_wr W33).1
    have N33 := Fr.snoc X33 N31 g_b29
    refine og T33 m 94 #[vR ab1, vI nw] [(.int c3), (.int 2), (.ref b29), (.ref b29), (.ref b28), (.ref b28)] (fun tgt kgo => ?_) ?_
    · refine XS.dup X33.here hx rfl (hb hby d37_89) rfl rfl ?_
      refine XS.iconst X33.here hx rfl (hb hby d37_90) ?_
      refine XS.aloadN X33.here hx rfl (hb hby d37_91) rfl rfl ?_
      show OwnG p e below T33 m 92 #[vR ab1, vI nw] [(.ref ab1), (.int 2), (.ref b29), (.ref b29), (.ref b28), (.ref b28)] tgt
      refine XS.iconst X33.here hx rfl (hb hby d37_92) ?_
      show OwnG p e below T33 m 93 #[vR ab1, vI nw] [(.int 2), (.ref ab1), (.int 2), (.ref b29), (.ref b29), (.ref b28), (.ref b28)] tgt
      obtain ⟨cl34, Ar34, q34, S34, M34, H34, G34⟩ := F33_72
      refine X33.caload hx (j := (2 : Int32)) (v := (.int c3)) (by rw [e33]; exact Ar34.1) (State.isArrayOf_alike hZ.alike Ar34.2.1) Ar34.2.2 (inb_of S34 ⟨by decide, by decide⟩) (Has.at H34 (inb_of S34 ⟨by decide, by decide⟩) rfl) (g := (mkF m 93 #[vR ab1, vI nw] [(.int 2), (.ref ab1), (.int 2), (.ref b29), (.ref b29), (.ref b28), (.ref b28)])) rfl rfl (hb hby d37_93) _ ?_
      exact kgo
    obtain ⟨cl35, Ar35, q35, S35, M35, H35, G35⟩ := id V33'
    obtain ⟨T35, h35, X35, e35, W35, st35⟩ := stC X33 hx hZ e33 Ar35 (j := (2 : Int32)) (inb_of S35 ⟨by decide, by decide⟩) (g := (mkF m 94 #[vR ab1, vI nw] [(.int c3), (.int 2), (.ref b29), (.ref b29), (.ref b28), (.ref b28)])) rfl rfl (hb hby d37_94)
    refine og T35 m 95 #[vR ab1, vI nw] [(.ref b29), (.ref b28), (.ref b28)] st35 ?_
    have V35 : Arv Z h35 b29 k29 .char (3 : Int32) [(.int c1), (.int c2), (.int (nar .char c3))] (.int 0) := Arv.set Ar35 q35 S35 M35 H35 G35 (fits_nar_char _) W35 2 rfl (Nat.le_of_ble_eq_true rfl)
    rw [(own_nar_lat hl2)] at V35
    have V35' : Arv Z h35 b29 k29 .char (3 : Int32) [(.int c1), (.int c2), (.int c3)] (.int 0) := V35
    have F35_78 := F33_72.other W35 ne_ab1_b29
    have F35_79 := Safe.wr W35 F33_77 R33.1 F33_73
    have F35_80 := F33_74.wr W35
    have F35_81 := F33_75.other W35 (Or.inl ne_b28_b29)
    have F35_82 := F33_76.other W35 (Or.inl ne_b28_b29)
    have F35_83 := Safe.wr W35 F33_77 R33.1 F33_77
    have Ol35 := Ol33.wr W35 g_b29
    have K35 : Keep h0 h35 ([] : List Addr) := K33.wr W35 (Or.inr s_b29)
    have R35 := R33.trans (CHr.wr W35 F33_77 R33.1)
    have hk35 := Nat.le_trans hk33 (Keep.of_wr W35).1
    have N35 := Fr.snoc X35 N33 g_b29
    have hp37 : ∀ c ∈ ([c1, c2, c3] : List Int32), ¬ c < 0 ∧ ¬ (255 : Int32) < c := (own_memS hl0 (own_memS hl1 (own_memS hl2 own_mem0)))
    have V37c : Arv Z h35 b29 k29 .char (3 : Int32) (([c1, c2, c3] : List Int32).map Value.int) (.int 0) := V35'
    obtain ⟨_, _, ⟨T36, L36, k36, n36⟩, -, X36, ⟨Lc36, hQ36, l36, y36, z36⟩, st36⟩ := X35.specialBack hx (y := mN1) rfl hown (mvT hZ (own_w hw 12 rfl)) (mvT hZ (own_w hw 13 rfl)) (mvT hZ (own_w hw 14 rfl)) (by decide) (StrChars.Road.backV (W := 1) hZ (fun d hd => hw d (own_hws d hd)) (kI := 4) (own_w hw 10 rfl) (cs := ([c1, c2, c3] : List Int32)) (bs := ([c1, c2, c3] : List Int32).map (fun c => c.toInt8.toInt32)) (n := 3) g_b28 (Nat.le_trans Z0 K35.1) F35_80 F35_81 F35_82 V37c (wO2.ext Ol35.2) wP5 rfl rfl (by decide) (by decide) hp37 rfl (by decide) (by decide)) (g := (mkF m 95 #[vR ab1, vI nw] [(.ref b29), (.ref b28), (.ref b28)])) rfl (by rw [hml]; rfl) (Steps.refl _) (a := b28) (argsL := [(.ref b29)]) (rest := [(.ref b28)]) (lenOf pd_68446664 rfl) rfl (Nat.le_of_eq rfl) (hb hby d37_95) (fun _ _ => ⟨rfl, e35, (by decide : 2 + 1 ≤ _), (by decide : 7 + 3 ≤ _)⟩)
    dsimp only [Pt.U, Pt.locs, Pt.cells, Pt.slots] at X36 l36 y36 z36 st36 hQ36
    subst l36 y36 z36
    obtain ⟨rfl, Nq36, Kq36, fe36, fc36, t36, kb36, ut36, vt36, wt36, fv36, fa36⟩ := hQ36
    refine OwnGoes.tr (T' := T36) (g' := (mkF m 98 #[vR ab1, vI nw] [(.ref b28)])) st36 ?_
    have N36 := Fr.app N35 Nq36
    have ne_ab1_t36 : ab1 ≠ t36 := Nat.ne_of_lt (Nat.lt_of_lt_of_le F35_78.lt vt36)
    have ne_b28_t36 : b28 ≠ t36 := Nat.ne_of_lt (Nat.lt_of_lt_of_le F35_80.lt vt36)
    have ne_b29_t36 : b29 ≠ t36 := Nat.ne_of_lt (Nat.lt_of_lt_of_le V35'.lt vt36)
    have g_t36 : n0 ≤ t36 := Nat.le_trans (Nat.le_trans Z0 K35.1) vt36
    have s_t36 : h0.size ≤ t36 := Nat.le_trans K35.1 vt36
    have Sf36 : Safe Z consts_1 s.vm T36.heap t36 := Safe.keep Kq36 (sfS F35_79 sf0) R35.1 (Safe.new vt36)
    have F36_84 := F35_78.keep Kq36 (ninS ne_ab1_b28 nin0)
    have F36_85 := Safe.keep Kq36 (sfS F35_79 sf0) R35.1 F35_79
    have F36_86 := F35_80.keep Kq36
    have F36_87 := Safe.keep Kq36 (sfS F35_79 sf0) R35.1 F35_83
    have F36_88 := V35'.keep Kq36 (ninS (Ne.symm ne_b28_b29) nin0)
    have Ol36 := Ol35.keep Kq36 (allS g_b28 all0)
    have K36 : Keep h0 T36.heap ([] : List Addr) := K35.trans Kq36 (allS (Or.inr s_b28) all0)
    have R36 := R35.trans (CHr.keep Kq36 (sfS F35_79 sf0) R35.1)
    have hk36 := Nat.le_trans hk35 Kq36.1
    have hob39 : OwnStr ([c1, c2, c3] : List Int32) (0 : Int32) (3 : Int32) ((([c1, c2, c3] : List Int32).map (fun c => c.toInt8.toInt32)).map Value.int) := own_str_lat (n := 3) rfl (by decide) hp37
    have hret : ∀ fs, (∀ (f : JFrame) (acts : List Action), f.method = m → f.locked = none → f.entered = [] → (doReturn e (T36.setTop f) acts (some (.ref b28))).1 = T36.setFrames fs) → Steps p.tables e below (T36.setTop (mkF m 98 #[vR ab1, vI nw] [(.ref b28)])) (T36.setFrames fs) := by
      intro fs hr
      jvm_step X36.here [X36.here.top, hx, (hb hby d37_98), X36.method', Bd.returns, Value.isRef, FieldType.isReference]
      first | (intro acts; rw [hr _ acts rfl rfl rfl]) | rw [hr _ _ rfl rfl rfl]
      exact Steps.refl _
    refine own_leaveW (Z := Z) (EL := consts_1) X36 hS0 hk36 hlk (v := some (.ref b28)) (fun h => by rw [Bd.returns] at h; cases h) hret (by decide) (by decide) ?_ ?_
    · rw [hh]
      exact R36.trans (CHv.at X36 hZ hEL R36.1)
    show Q_make Z ab1 kc nw c1 c2 c3 c4 h0 n0 _ T36.heap _
    exact ⟨b28, t36, kb36, (3 : Int32), ((([c1, c2, c3] : List Int32).map (fun c => c.toInt8.toInt32)).map Value.int), rfl, N36, K36, fe36, fv36, fc36, fa36, (by rw [cc27]; exact hob39)⟩
  refine og s₁ m 99 #[vR ab1, vI nw] [] (fun tgt kgo => ?_) ?_
  · refine XS.icmpYes X0.here hx rfl (pc0 := 67) (pc' := 99) rfl (hb hby d37_67) rfl (feq cc27).2 (by decide) (by decide) ?_
    exact kgo
  obtain ⟨T40, h40, X40, e40, E40, A40, D40, U40, st40⟩ := newO X0 hx hZ hown (own_w hw 9 rfl) (own_w hw 10 rfl) (own_w hw 11 rfl) e0 (g := (mkF m 99 #[vR ab1, vI nw] [])) rfl (hb hby d37_99) (by decide) (by decide)
  obtain ⟨b40, g40⟩ : ∃ z, z = h0.size := ⟨_, rfl⟩
  rw [← g40] at A40 D40 U40 st40
  refine og T40 m 102 #[vR ab1, vI nw] [(.ref b40)] st40 ?_
  have ne_ab1_b40 : ab1 ≠ b40 := Nat.ne_of_lt (Nat.lt_of_lt_of_le f0.lt (Nat.le_of_eq g40.symm))
  have g_b40 : n0 ≤ b40 := Nat.le_trans (Nat.le_trans Z0 K0.1) (Nat.le_of_eq g40.symm)
  have s_b40 : h0.size ≤ b40 := Nat.le_trans K0.1 (Nat.le_of_eq g40.symm)
  have Sf40 : Safe Z consts_1 s.vm h40 b40 := Safe.ext E40 R0.1 (Safe.new (Nat.le_of_eq g40.symm))
  have F40_89 := f0.ext E40
  have Ol40 := X00.ext E40
  have K40 : Keep h0 h40 ([] : List Addr) := K0.ext E40
  have R40 := R0.trans (CHr.ext E40 R0.1)
  have hk40 := Nat.le_trans hk0 E40.1
  have F40_90 : Fld Z h40 b40 "java/lang/String" "value" "[B" .null := D40 (Or.inr (own_w hw 24 rfl)) (ty := (.array .byte)) (by decide)
  have F40_91 : Fld Z h40 b40 "java/lang/String" "coder" "B" (.int 0) := D40 (Or.inr (own_w hw 25 rfl)) (ty := .byte) (by decide)
  refine og T40 m 104 #[vR ab1, vI nw] [(.int 4), (.ref b40), (.ref b40)] (fun tgt kgo => ?_) ?_
  · refine XS.dup X40.here hx rfl (hb hby d37_102) rfl rfl ?_
    refine XS.iconst X40.here hx rfl (hb hby d37_103) ?_
    exact kgo
  obtain ⟨T41, h41, k41, X41, e41, E41, A41, st41⟩ := newP X40 hx hZ (own_w hw 1 rfl) e40 (g := (mkF m 104 #[vR ab1, vI nw] [(.int 4), (.ref b40), (.ref b40)])) rfl (hb hby d37_104) rfl (by decide) (cap := 4) (by decide) (by decide) (by decide) (by decide)
  obtain ⟨b41, g41⟩ : ∃ z, z = h40.size := ⟨_, rfl⟩
  rw [← g41] at A41 st41
  refine og T41 m 106 #[vR ab1, vI nw] [(.ref b41), (.ref b40), (.ref b40)] st41 ?_
  have V41 : Arv Z h41 b41 k41 .char (4 : Int32) [(.int 0), (.int 0), (.int 0), (.int 0)] (.int 0) := (Arv.new A41 (by decide)).pad (pad_rep [] (.int 0) 4)
  have ne_ab1_b41 : ab1 ≠ b41 := Nat.ne_of_lt (Nat.lt_of_lt_of_le F40_89.lt (Nat.le_of_eq g41.symm))
  have ne_b40_b41 : b40 ≠ b41 := Nat.ne_of_lt (Nat.lt_of_lt_of_le A40.lt (Nat.le_of_eq g41.symm))
  have g_b41 : n0 ≤ b41 := Nat.le_trans (Nat.le_trans Z0 K40.1) (Nat.le_of_eq g41.symm)
  have s_b41 : h0.size ≤ b41 := Nat.le_trans K40.1 (Nat.le_of_eq g41.symm)
  have Sf41 : Safe Z consts_1 s.vm h41 b41 := Safe.ext E41 R40.1 (Safe.new (Nat.le_of_eq g41.symm))
  have F41_92 := F40_89.ext E41
  have F41_93 := Safe.ext E41 R40.1 Sf40
  have F41_94 := A40.ext E41
  have F41_95 := F40_90.ext E41
  have F41_96 := F40_91.ext E41
  have Ol41 := Ol40.ext E41
  have K41 : Keep h0 h41 ([] : List Addr) := K40.ext E41
  have R41 := R40.trans (CHr.ext E41 R40.1)
  have hk41 := Nat.le_trans hk40 E41.1
  refine og T41 m 111 #[vR ab1, vI nw] [(.int c1), (.int 0), (.ref b41), (.ref b41), (.ref b40), (.ref b40)] (fun tgt kgo => ?_) ?_
  · refine XS.dup X41.here hx rfl (hb hby d37_106) rfl rfl ?_
    refine XS.iconst X41.here hx rfl (hb hby d37_107) ?_
    refine XS.aloadN X41.here hx rfl (hb hby d37_108) rfl rfl ?_
    show OwnG p e below T41 m 109 #[vR ab1, vI nw] [(.ref ab1), (.int 0), (.ref b41), (.ref b41), (.ref b40), (.ref b40)] tgt
    refine XS.iconst X41.here hx rfl (hb hby d37_109) ?_
    show OwnG p e below T41 m 110 #[vR ab1, vI nw] [(.int 0), (.ref ab1), (.int 0), (.ref b41), (.ref b41), (.ref b40), (.ref b40)] tgt
    obtain ⟨cl42, Ar42, q42, S42, M42, H42, G42⟩ := F41_92
    refine X41.caload hx (j := (0 : Int32)) (v := (.int c1)) (by rw [e41]; exact Ar42.1) (State.isArrayOf_alike hZ.alike Ar42.2.1) Ar42.2.2 (inb_of S42 ⟨by decide, by decide⟩) (Has.at H42 (inb_of S42 ⟨by decide, by decide⟩) rfl) (g := (mkF m 110 #[vR ab1, vI nw] [(.int 0), (.ref ab1), (.int 0), (.ref b41), (.ref b41), (.ref b40), (.ref b40)])) rfl rfl (hb hby d37_110) _ ?_
    exact kgo
  obtain ⟨cl43, Ar43, q43, S43, M43, H43, G43⟩ := id V41
  obtain ⟨T43, h43, X43, e43, W43, st43⟩ := stC X41 hx hZ e41 Ar43 (j := (0 : Int32)) (inb_of S43 ⟨by decide, by decide⟩) (g := (mkF m 111 #[vR ab1, vI nw] [(.int c1), (.int 0), (.ref b41), (.ref b41), (.ref b40), (.ref b40)])) rfl rfl (hb hby d37_111)
  refine og T43 m 112 #[vR ab1, vI nw] [(.ref b41), (.ref b40), (.ref b40)] st43 ?_
  have V43 : Arv Z h43 b41 k41 .char (4 : Int32) [(.int (nar .char c1)), (.int 0), (.int 0), (.int 0)] (.int 0) := Arv.set Ar43 q43 S43 M43 H43 G43 (fits_nar_char _) W43 0 rfl (Nat.le_of_ble_eq_true rfl)
  rw [(own_nar_lat hl0)] at V43
  have V43' : Arv Z h43 b41 k41 .char (4 : Int32) [(.int c1), (.int 0), (.int 0), (.int 0)] (.int 0) := V43
  have F43_97 := F41_92.other W43 ne_ab1_b41
  have F43_98 := Safe.wr W43 Sf41 R41.1 F41_93
  have F43_99 := F41_94.wr W43
  have F43_100 := F41_95.other W43 (Or.inl ne_b40_b41)
  have F43_101 := F41_96.other W43 (Or.inl ne_b40_b41)
  have F43_102 := Safe.wr W43 Sf41 R41.1 Sf41
  have Ol43 := Ol41.wr W43 g_b41
  have K43 : Keep h0 h43 ([] : List Addr) := K41.wr W43 (Or.inr s_b41)
  have R43 := R41.trans (CHr.wr W43 Sf41 R41.1)
  have hk43 := Nat.le_trans hk41 (Keep.of_wr W43).1
  have N43 := Fr.snoc X43 N0 g_b41
  refine og T43 m 117 #[vR ab1, vI nw] [(.int c2), (.int 1), (.ref b41), (.ref b41), (.ref b40), (.ref b40)] (fun tgt kgo => ?_) ?_
  · refine XS.dup X43.here hx rfl (hb hby d37_112) rfl rfl ?_
    refine XS.iconst X43.here hx rfl (hb hby d37_113) ?_
    refine XS.aloadN X43.here hx rfl (hb hby d37_114) rfl rfl ?_
    show OwnG p e below T43 m 115 #[vR ab1, vI nw] [(.ref ab1), (.int 1), (.ref b41), (.ref b41), (.ref b40), (.ref b40)] tgt
    refine XS.iconst X43.here hx rfl (hb hby d37_115) ?_
    show OwnG p e below T43 m 116 #[vR ab1, vI nw] [(.int 1), (.ref ab1), (.int 1), (.ref b41), (.ref b41), (.ref b40), (.ref b40)] tgt
    obtain ⟨cl44, Ar44, q44, S44, M44, H44, G44⟩ := F43_97
    refine X43.caload hx (j := (1 : Int32)) (v := (.int c2)) (by rw [e43]; exact Ar44.1) (State.isArrayOf_alike hZ.alike Ar44.2.1) Ar44.2.2 (inb_of S44 ⟨by decide, by decide⟩) (Has.at H44 (inb_of S44 ⟨by decide, by decide⟩) rfl) (g := (mkF m 116 #[vR ab1, vI nw] [(.int 1), (.ref ab1), (.int 1), (.ref b41), (.ref b41), (.ref b40), (.ref b40)])) rfl rfl (hb hby d37_116) _ ?_
    exact kgo
  obtain ⟨cl45, Ar45, q45, S45, M45, H45, G45⟩ := id V43'
  obtain ⟨T45, h45, X45, e45, W45, st45⟩ := stC X43 hx hZ e43 Ar45 (j := (1 : Int32)) (inb_of S45 ⟨by decide, by decide⟩) (g := (mkF m 117 #[vR ab1, vI nw] [(.int c2), (.int 1), (.ref b41), (.ref b41), (.ref b40), (.ref b40)])) rfl rfl (hb hby d37_117)
  refine og T45 m 118 #[vR ab1, vI nw] [(.ref b41), (.ref b40), (.ref b40)] st45 ?_
  have V45 : Arv Z h45 b41 k41 .char (4 : Int32) [(.int c1), (.int (nar .char c2)), (.int 0), (.int 0)] (.int 0) := Arv.set Ar45 q45 S45 M45 H45 G45 (fits_nar_char _) W45 1 rfl (Nat.le_of_ble_eq_true rfl)
  rw [(own_nar_lat hl1)] at V45
  have V45' : Arv Z h45 b41 k41 .char (4 : Int32) [(.int c1), (.int c2), (.int 0), (.int 0)] (.int 0) := V45
  have F45_103 := F43_97.other W45 ne_ab1_b41
  have F45_104 := Safe.wr W45 F43_102 R43.1 F43_98
  have F45_105 := F43_99.wr W45
  have F45_106 := F43_100.other W45 (Or.inl ne_b40_b41)
  have F45_107 := F43_101.other W45 (Or.inl ne_b40_b41)
  have F45_108 := Safe.wr W45 F43_102 R43.1 F43_102
  have Ol45 := Ol43.wr W45 g_b41
  have K45 : Keep h0 h45 ([] : List Addr) := K43.wr W45 (Or.inr s_b41)
  have R45 := R43.trans (CHr.wr W45 F43_102 R43.1)
  have hk45 := Nat.le_trans hk43 (Keep.of_wr W45).1
  have N45 := Fr.snoc X45 N43 g_b41
  refine og T45 m 123 #[vR ab1, vI nw] [(.int c3), (.int 2), (.ref b41), (.ref b41), (.ref b40), (.ref b40)] (fun tgt kgo => ?_) ?_
  · refine XS.dup X45.here hx rfl (hb hby d37_118) rfl rfl ?_
    refine XS.iconst X45.here hx rfl (hb hby d37_119) ?_
    refine XS.aloadN X45.here hx rfl (hb hby d37_120) rfl rfl ?_
    show OwnG p e below T45 m 121 #[vR ab1, vI nw] [(.ref ab1), (.int 2), (.ref b41), (.ref b41), (.ref b40), (.ref b40)] tgt
    refine XS.iconst X45.here hx rfl (hb hby d37_121) ?_
    show OwnG p e below T45 m 122 #[vR ab1, vI nw] [(.int 2), (.ref ab1), (.int 2), (.ref b41), (.ref b41), (.ref b40), (.ref b40)] tgt
    obtain ⟨cl46, Ar46, q46, S46, M46, H46, G46⟩ := F45_103
    refine X45.caload hx (j := (2 : Int32)) (v := (.int c3)) (by rw [e45]; exact Ar46.1) (State.isArrayOf_alike hZ.alike Ar46.2.1) Ar46.2.2 (inb_of S46 ⟨by decide, by decide⟩) (Has.at H46 (inb_of S46 ⟨by decide, by decide⟩) rfl) (g := (mkF m 122 #[vR ab1, vI nw] [(.int 2), (.ref ab1), (.int 2), (.ref b41), (.ref b41), (.ref b40), (.ref b40)])) rfl rfl (hb hby d37_122) _ ?_
    exact kgo
  obtain ⟨cl47, Ar47, q47, S47, M47, H47, G47⟩ := id V45'
  obtain ⟨T47, h47, X47, e47, W47, st47⟩ := stC X45 hx hZ e45 Ar47 (j := (2 : Int32)) (inb_of S47 ⟨by decide, by decide⟩) (g := (mkF m 123 #[vR ab1, vI nw] [(.int c3), (.int 2), (.ref b41), (.ref b41), (.ref b40), (.ref b40)])) rfl rfl (hb hby d37_123)
  refine og T47 m 124 #[vR ab1, vI nw] [(.ref b41), (.ref b40), (.ref b40)] st47 ?_
  have V47 : Arv Z h47 b41 k41 .char (4 : Int32) [(.int c1), (.int c2), (.int (nar .char c3)), (.int 0)] (.int 0) := Arv.set Ar47 q47 S47 M47 H47 G47 (fits_nar_char _) W47 2 rfl (Nat.le_of_ble_eq_true rfl)
  rw [(own_nar_lat hl2)] at V47
  have V47' : Arv Z h47 b41 k41 .char (4 : Int32) [(.int c1), (.int c2), (.int c3), (.int 0)] (.int 0) := V47
  have F47_109 := F45_103.other W47 ne_ab1_b41
  have F47_110 := Safe.wr W47 F45_108 R45.1 F45_104
  have F47_111 := F45_105.wr W47
  have F47_112 := F45_106.other W47 (Or.inl ne_b40_b41)
  have F47_113 := F45_107.other W47 (Or.inl ne_b40_b41)
  have F47_114 := Safe.wr W47 F45_108 R45.1 F45_108
  have Ol47 := Ol45.wr W47 g_b41
  have K47 : Keep h0 h47 ([] : List Addr) := K45.wr W47 (Or.inr s_b41)
  have R47 := R45.trans (CHr.wr W47 F45_108 R45.1)
  have hk47 := Nat.le_trans hk45 (Keep.of_wr W47).1
  have N47 := Fr.snoc X47 N45 g_b41
  refine og T47 m 129 #[vR ab1, vI nw] [(.int c4), (.int 3), (.ref b41), (.ref b41), (.ref b40), (.ref b40)] (fun tgt kgo => ?_) ?_
  · refine XS.dup X47.here hx rfl (hb hby d37_124) rfl rfl ?_
    refine XS.iconst X47.here hx rfl (hb hby d37_125) ?_
    refine XS.aloadN X47.here hx rfl (hb hby d37_126) rfl rfl ?_
    show OwnG p e below T47 m 127 #[vR ab1, vI nw] [(.ref ab1), (.int 3), (.ref b41), (.ref b41), (.ref b40), (.ref b40)] tgt
    refine XS.iconst X47.here hx rfl (hb hby d37_127) ?_
    show OwnG p e below T47 m 128 #[vR ab1, vI nw] [(.int 3), (.ref ab1), (.int 3), (.ref b41), (.ref b41), (.ref b40), (.ref b40)] tgt
    obtain ⟨cl48, Ar48, q48, S48, M48, H48, G48⟩ := F47_109
    refine X47.caload hx (j := (3 : Int32)) (v := (.int c4)) (by rw [e47]; exact Ar48.1) (State.isArrayOf_alike hZ.alike Ar48.2.1) Ar48.2.2 (inb_of S48 ⟨by decide, by decide⟩) (Has.at H48 (inb_of S48 ⟨by decide, by decide⟩) rfl) (g := (mkF m 128 #[vR ab1, vI nw] [(.int 3), (.ref ab1), (.int 3), (.ref b41), (.ref b41), (.ref b40), (.ref b40)])) rfl rfl (hb hby d37_128) _ ?_
    exact kgo
  obtain ⟨cl49, Ar49, q49, S49, M49, H49, G49⟩ := id V47'
  obtain ⟨T49, h49, X49, e49, W49, st49⟩ := stC X47 hx hZ e47 Ar49 (j := (3 : Int32)) (inb_of S49 ⟨by decide, by decide⟩) (g := (mkF m 129 #[vR ab1, vI nw] [(.int c4), (.int 3), (.ref b41), (.ref b41), (.ref b40), (.ref b40)])) rfl rfl (hb hby d37_129)
  refine og T49 m 130 #[vR ab1, vI nw] [(.ref b41), (.ref b40), (.ref b40)] st49 ?_
  have V49 : Arv Z h49 b41 k41 .char (4 : Int32) [(.int c1), (.int c2), (.int c3), (.int (nar .char c4))] (.int 0) := Arv.set Ar49 q49 S49 M49 H49 G49 (fits_nar_char _) W49 3 rfl (Nat.le_of_ble_eq_true rfl)
  rw [(own_nar_lat hl3)] at V49
  have V49' : Arv Z h49 b41 k41 .char (4 : Int32) [(.int c1), (.int c2), (.int c3), (.int c4)] (.int 0) := V49
  have F49_115 := F47_109.other W49 ne_ab1_b41
  have F49_116 := Safe.wr W49 F47_114 R47.1 F47_110
  have F49_117 := F47_111.wr W49
  have F49_118 := F47_112.other W49 (Or.inl ne_b40_b41)
  have F49_119 := F47_113.other W49 (Or.inl ne_b40_b41)
  have F49_120 := Safe.wr W49 F47_114 R47.1 F47_114
  have Ol49 := Ol47.wr W49 g_b41
  have K49 : Keep h0 h49 ([] : List Addr) := K47.wr W49 (Or.inr s_b41)
  have R49 := R47.trans (CHr.wr W49 F47_114 R47.1)
  have hk49 := Nat.le_trans hk47 (Keep.of_wr W49).1
  have N49 := Fr.snoc X49 N47 g_b41
  have hp51 : ∀ c ∈ ([c1, c2, c3, c4] : List Int32), ¬ c < 0 ∧ ¬ (255 : Int32) < c := (own_memS hl0 (own_memS hl1 (own_memS hl2 (own_memS hl3 own_mem0))))
  have V51c : Arv Z h49 b41 k41 .char (4 : Int32) (([c1, c2, c3, c4] : List Int32).map Value.int) (.int 0) := V49'
  obtain ⟨_, _, ⟨T50, L50, k50, n50⟩, -, X50, ⟨Lc50, hQ50, l50, y50, z50⟩, st50⟩ := X49.specialBack hx (y := mN1) rfl hown (mvT hZ (own_w hw 12 rfl)) (mvT hZ (own_w hw 13 rfl)) (mvT hZ (own_w hw 14 rfl)) (by decide) (StrChars.Road.backV (W := 1) hZ (fun d hd => hw d (own_hws d hd)) (kI := 4) (own_w hw 10 rfl) (cs := ([c1, c2, c3, c4] : List Int32)) (bs := ([c1, c2, c3, c4] : List Int32).map (fun c => c.toInt8.toInt32)) (n := 4) g_b40 (Nat.le_trans Z0 K49.1) F49_117 F49_118 F49_119 V51c (wO2.ext Ol49.2) wP5 rfl rfl (by decide) (by decide) hp51 rfl (by decide) (by decide)) (g := (mkF m 130 #[vR ab1, vI nw] [(.ref b41), (.ref b40), (.ref b40)])) rfl (by rw [hml]; rfl) (Steps.refl _) (a := b40) (argsL := [(.ref b41)]) (rest := [(.ref b40)]) (lenOf pd_68446664 rfl) rfl (Nat.le_of_eq rfl) (hb hby d37_130) (fun _ _ => ⟨rfl, e49, (by decide : 2 + 1 ≤ _), (by decide : 8 + 4 ≤ _)⟩)
  dsimp only [Pt.U, Pt.locs, Pt.cells, Pt.slots] at X50 l50 y50 z50 st50 hQ50
  subst l50 y50 z50
  obtain ⟨rfl, Nq50, Kq50, fe50, fc50, t50, kb50, ut50, vt50, wt50, fv50, fa50⟩ := hQ50
  refine OwnGoes.tr (T' := T50) (g' := (mkF m 133 #[vR ab1, vI nw] [(.ref b40)])) st50 ?_
  have N50 := Fr.app N49 Nq50
  have ne_ab1_t50 : ab1 ≠ t50 := Nat.ne_of_lt (Nat.lt_of_lt_of_le F49_115.lt vt50)
  have ne_b40_t50 : b40 ≠ t50 := Nat.ne_of_lt (Nat.lt_of_lt_of_le F49_117.lt vt50)
  have ne_b41_t50 : b41 ≠ t50 := Nat.ne_of_lt (Nat.lt_of_lt_of_le V49'.lt vt50)
  have g_t50 : n0 ≤ t50 := Nat.le_trans (Nat.le_trans Z0 K49.1) vt50
  have s_t50 : h0.size ≤ t50 := Nat.le_trans K49.1 vt50
  have Sf50 : Safe Z consts_1 s.vm T50.heap t50 := Safe.keep Kq50 (sfS F49_116 sf0) R49.1 (Safe.new vt50)
  have F50_121 := F49_115.keep Kq50 (ninS ne_ab1_b40 nin0)
  have F50_122 := Safe.keep Kq50 (sfS F49_116 sf0) R49.1 F49_116
  have F50_123 := F49_117.keep Kq50
  have F50_124 := Safe.keep Kq50 (sfS F49_116 sf0) R49.1 F49_120
  have F50_125 := V49'.keep Kq50 (ninS (Ne.symm ne_b40_b41) nin0)
  have Ol50 := Ol49.keep Kq50 (allS g_b40 all0)
  have K50 : Keep h0 T50.heap ([] : List Addr) := K49.trans Kq50 (allS (Or.inr s_b40) all0)
  have R50 := R49.trans (CHr.keep Kq50 (sfS F49_116 sf0) R49.1)
  have hk50 := Nat.le_trans hk49 Kq50.1
  have hob53 : OwnStr ([c1, c2, c3, c4] : List Int32) (0 : Int32) (4 : Int32) ((([c1, c2, c3, c4] : List Int32).map (fun c => c.toInt8.toInt32)).map Value.int) := own_str_lat (n := 4) rfl (by decide) hp51
  have hret : ∀ fs, (∀ (f : JFrame) (acts : List Action), f.method = m → f.locked = none → f.entered = [] → (doReturn e (T50.setTop f) acts (some (.ref b40))).1 = T50.setFrames fs) → Steps p.tables e below (T50.setTop (mkF m 133 #[vR ab1, vI nw] [(.ref b40)])) (T50.setFrames fs) := by
    intro fs hr
    jvm_step X50.here [X50.here.top, hx, (hb hby d37_133), X50.method', Bd.returns, Value.isRef, FieldType.isReference]
    first | (intro acts; rw [hr _ acts rfl rfl rfl]) | rw [hr _ _ rfl rfl rfl]
    exact Steps.refl _
  refine own_leaveW (Z := Z) (EL := consts_1) X50 hS0 hk50 hlk (v := some (.ref b40)) (fun h => by rw [Bd.returns] at h; cases h) hret (by decide) (by decide) ?_ ?_
  · rw [hh]
    exact R50.trans (CHv.at X50 hZ hEL R50.1)
  show Q_make Z ab1 kc nw c1 c2 c3 c4 h0 n0 _ T50.heap _
  exact ⟨b40, t50, kb50, (4 : Int32), ((([c1, c2, c3, c4] : List Int32).map (fun c => c.toInt8.toInt32)).map Value.int), rfl, N50, K50, fe50, fv50, fc50, fa50, (by rw [((((hN.resolve_left cc1).resolve_left cc7).resolve_left cc16).resolve_left cc27)]; exact hob53)⟩
theorem ef_slash_0 (m : MethodId) (x0 : Addr) (x1 : Int32) : entryFrame m #[(.ref x0), (.int x1), (.int 0)] 3 = mkF m 0 #[vR x0, vI x1, vI 0] [] := by
  first | (simp [entryFrame, mkF, argsToLocals, Value.category]; done) | rfl
def Q_slash_0 (Z : State) (ab1 : Addr) (kc : ClassId) (nw : Int32) (c1 : Int32) (c2 : Int32) (c3 : Int32) (c4 : Int32) (h0 : Heap) (n0 : Nat) (v : Option Value) (h : Heap) (L : List Loc) : Prop := ∃ (r : Int32), v = some (.int r) ∧ Fr n0 L ∧ h = h0 ∧ ((r = (1 : Int32) ∧ ((0 : Int32) < nw ∧ c1 = 47)) ∨ (r = (0 : Int32) ∧ ¬ ((0 : Int32) < nw ∧ c1 = 47)))
theorem d38_0 : decode method_3_code 0 = .ok (.iload_n 2, 1) := by decide +kernel
theorem d38_1 : decode method_3_code 1 = .ok (.iload_n 1, 1) := by decide +kernel
theorem d38_2 : decode method_3_code 2 = .ok (.if_icmp .ge 15, 3) := by decide +kernel
theorem d38_5 : decode method_3_code 5 = .ok (.aload_n 0, 1) := by decide +kernel
theorem d38_6 : decode method_3_code 6 = .ok (.iload_n 2, 1) := by decide +kernel
theorem d38_7 : decode method_3_code 7 = .ok (.caload, 1) := by decide +kernel
theorem d38_8 : decode method_3_code 8 = .ok (.bipush 47, 2) := by decide +kernel
theorem d38_10 : decode method_3_code 10 = .ok (.if_icmp .ne 7, 3) := by decide +kernel
theorem d38_13 : decode method_3_code 13 = .ok (.iconst 1, 1) := by decide +kernel
theorem d38_14 : decode method_3_code 14 = .ok (.goto 4, 3) := by decide +kernel
theorem d38_18 : decode method_3_code 18 = .ok (.ireturn, 1) := by decide +kernel
theorem d38_17 : decode method_3_code 17 = .ok (.iconst 0, 1) := by decide +kernel
set_option maxRecDepth 65536 in
set_option maxHeartbeats 40000000 in
theorem rm_slash_0 (l : Launch) (Z : State) (a0 : Array Value) (hw : ∀ d ∈ tables_1, d.before a0 Z = true) (ws : List Jvm.Cond) (wG1 : Int32) (wG3 : Value) (wG5 : Addr) (wK5 : ClassId) (cx : OwnCx Z a0 wG1 wG3 wG5 wK5) (hEL : EW Z a0 consts_1) (h0 : Heap) (n0 : Nat) (X00 : Old Z n0 h0) (ab1 : Addr) (kc : ClassId) (nw : Int32) (c1 : Int32) (c2 : Int32) (c3 : Int32) (c4 : Int32) (f0 : Arv Z h0 ab1 kc .char (4 : Int32) [(.int c1), (.int c2), (.int c3), (.int c4)] (.int 0)) :
    MetFree l mN39 (head1 (Jvm.Cond.code mN39 method_3_code 3 (some .boolean) :: ws) (oR 0 0 0 0)) (fun a U => a = #[(.ref ab1), (.int nw), (.int 0)] ∧ Z.Warmed39 U.vm ∧ U.heap = h0) (fun _ _ _ _ _ => True) (fun _ U o U' => ∃ v L, o = .returned v ∧ Q_slash_0 Z ab1 kc nw c1 c2 c3 c4 h0 n0 v U'.heap L ∧ FrameEnd U o U' L (oR 0 0 0 0).cells (oR 0 0 0 0).slots) := by
  refine MetFree.of_bodySF (plainFor_of_name pn_43637772) hisR ?_
  intro p e s m args below meth c s₁ Bd hml0 hP hK
  obtain ⟨rfl, hZ, hh⟩ := hP
  obtain ⟨wO2, wP5, wO4, wrG3, hstr, wO5, wV5⟩ := id cx
  have hx := Bd.exec
  have hby := Bd.bytes
  have hlk := Bd.notSynchronized
  have hml : c.maxLocals = 3 := hml0
  have hown : s.vm.findClass "com/example/kindling/kindling/web/PathTemplateSegmentsPinLaw" = some m.cls := findClass_of_methodNamed Bd.named
  have hnm := (name_of_methodNamed Bd.named Bd.method).1
  have X0 : Stand p l e (oR 0 0 0 0) s m #[(.ref ab1), (.int nw), (.int 0)] below meth c s₁ [] 0 0 := Stand.of_body Bd
  have e0 : s₁.heap = h0 := by rw [← hh, Bd.state]; rfl
  have N0 := Fr.nil n0
  have Z0 : n0 ≤ h0.size := X00.1 ▸ X00.2.1
  have K0 : Keep h0 h0 ([] : List Addr) := Keep.refl _ _
  show OwnGoes p e below _ s₁ (entryFrame m _ _)
  refine og s₁ m 0 #[vR ab1, vI nw, vI 0] [] (fun tgt kgo => castTop (ef_slash_0 m ab1 nw) kgo) ?_
  refine og s₁ m 2 #[vR ab1, vI nw, vI 0] [(.int nw), (.int 0)] (fun tgt kgo => ?_) ?_
  · refine XS.iloadN X0.here hx rfl (hb hby d38_0) rfl ?_
    refine XS.iloadN X0.here hx rfl (hb hby d38_1) rfl ?_
    exact kgo
  by_cases cc1 : (0 : Int32) < nw
  · skip
    refine og s₁ m 10 #[vR ab1, vI nw, vI 0] [(.int 47), (.int c1)] (fun tgt kgo => ?_) ?_
    · refine XS.icmpNo X0.here hx rfl (hb hby d38_2) rfl (tlt cc1).2.1 ?_
      refine XS.aloadN X0.here hx rfl (hb hby d38_5) rfl rfl ?_
      refine XS.iloadN X0.here hx rfl (hb hby d38_6) rfl ?_
      show OwnG p e below s₁ m 7 #[vR ab1, vI nw, vI 0] [(.int 0), (.ref ab1)] tgt
      obtain ⟨cl2, Ar2, q2, S2, M2, H2, G2⟩ := f0
      refine X0.caload hx (j := (0 : Int32)) (v := (.int c1)) (by rw [e0]; exact Ar2.1) (State.isArrayOf_alike hZ.alike Ar2.2.1) Ar2.2.2 (inb_of S2 ⟨by decide, by decide⟩) (Has.at H2 (inb_of S2 ⟨by decide, by decide⟩) rfl) (g := (mkF m 7 #[vR ab1, vI nw, vI 0] [(.int 0), (.ref ab1)])) rfl rfl (hb hby d38_7) _ ?_
      refine XS.bipush X0.here hx rfl (hb hby d38_8) ?_
      exact kgo
    by_cases cc3 : c1 = (47 : Int32)
    · skip
      refine og s₁ m 18 #[vR ab1, vI nw, vI 0] [(.int 1)] (fun tgt kgo => ?_) ?_
      · refine XS.icmpNo X0.here hx rfl (hb hby d38_10) rfl (teq cc3).2 ?_
        refine XS.iconst X0.here hx rfl (hb hby d38_13) ?_
        refine XS.goto X0.here hx rfl (pc0 := 14) (pc' := 18) rfl (hb hby d38_14) (by decide) (by decide) ?_
        exact kgo
      refine own_leave X0 hlk (v := some (.int 1)) (fun h => by rw [Bd.returns] at h; cases h) (fun fs hr => retN X0 hx (t := .boolean) Bd.returns (by simp) (hb hby d38_18) (by rw [(by decide : nar .boolean (1 : Int32) = (1 : Int32))]; exact hr)) (by decide) (by decide) ?_
      show Q_slash_0 Z ab1 kc nw c1 c2 c3 c4 h0 n0 _ s₁.heap _
      rw [e0]
      exact ⟨(1 : Int32), rfl, N0, rfl, (Or.inl ⟨rfl, cc1, cc3⟩)⟩
    refine og s₁ m 18 #[vR ab1, vI nw, vI 0] [(.int 0)] (fun tgt kgo => ?_) ?_
    · refine XS.icmpYes X0.here hx rfl (pc0 := 10) (pc' := 17) rfl (hb hby d38_10) rfl (feq cc3).2 (by decide) (by decide) ?_
      refine XS.iconst X0.here hx rfl (hb hby d38_17) ?_
      exact kgo
    refine own_leave X0 hlk (v := some (.int 0)) (fun h => by rw [Bd.returns] at h; cases h) (fun fs hr => retN X0 hx (t := .boolean) Bd.returns (by simp) (hb hby d38_18) (by rw [(by decide : nar .boolean (0 : Int32) = (0 : Int32))]; exact hr)) (by decide) (by decide) ?_
    show Q_slash_0 Z ab1 kc nw c1 c2 c3 c4 h0 n0 _ s₁.heap _
    rw [e0]
    exact ⟨(0 : Int32), rfl, N0, rfl, (Or.inr ⟨rfl, fun z => cc3 z.2⟩)⟩
  refine og s₁ m 18 #[vR ab1, vI nw, vI 0] [(.int 0)] (fun tgt kgo => ?_) ?_
  · refine XS.icmpYes X0.here hx rfl (pc0 := 2) (pc' := 17) rfl (hb hby d38_2) rfl (flt cc1).2.1 (by decide) (by decide) ?_
    refine XS.iconst X0.here hx rfl (hb hby d38_17) ?_
    exact kgo
  refine own_leave X0 hlk (v := some (.int 0)) (fun h => by rw [Bd.returns] at h; cases h) (fun fs hr => retN X0 hx (t := .boolean) Bd.returns (by simp) (hb hby d38_18) (by rw [(by decide : nar .boolean (0 : Int32) = (0 : Int32))]; exact hr)) (by decide) (by decide) ?_
  show Q_slash_0 Z ab1 kc nw c1 c2 c3 c4 h0 n0 _ s₁.heap _
  rw [e0]
  exact ⟨(0 : Int32), rfl, N0, rfl, (Or.inr ⟨rfl, fun z => cc1 z.1⟩)⟩
theorem ef_slash_1 (m : MethodId) (x0 : Addr) (x1 : Int32) : entryFrame m #[(.ref x0), (.int x1), (.int 1)] 3 = mkF m 0 #[vR x0, vI x1, vI 1] [] := by
  first | (simp [entryFrame, mkF, argsToLocals, Value.category]; done) | rfl
def Q_slash_1 (Z : State) (ab1 : Addr) (kc : ClassId) (nw : Int32) (c1 : Int32) (c2 : Int32) (c3 : Int32) (c4 : Int32) (h0 : Heap) (n0 : Nat) (v : Option Value) (h : Heap) (L : List Loc) : Prop := ∃ (r : Int32), v = some (.int r) ∧ Fr n0 L ∧ h = h0 ∧ ((r = (1 : Int32) ∧ ((1 : Int32) < nw ∧ c2 = 47)) ∨ (r = (0 : Int32) ∧ ¬ ((1 : Int32) < nw ∧ c2 = 47)))
set_option maxRecDepth 65536 in
set_option maxHeartbeats 40000000 in
theorem rm_slash_1 (l : Launch) (Z : State) (a0 : Array Value) (hw : ∀ d ∈ tables_1, d.before a0 Z = true) (ws : List Jvm.Cond) (wG1 : Int32) (wG3 : Value) (wG5 : Addr) (wK5 : ClassId) (cx : OwnCx Z a0 wG1 wG3 wG5 wK5) (hEL : EW Z a0 consts_1) (h0 : Heap) (n0 : Nat) (X00 : Old Z n0 h0) (ab1 : Addr) (kc : ClassId) (nw : Int32) (c1 : Int32) (c2 : Int32) (c3 : Int32) (c4 : Int32) (f0 : Arv Z h0 ab1 kc .char (4 : Int32) [(.int c1), (.int c2), (.int c3), (.int c4)] (.int 0)) :
    MetFree l mN39 (head1 (Jvm.Cond.code mN39 method_3_code 3 (some .boolean) :: ws) (oR 0 0 0 0)) (fun a U => a = #[(.ref ab1), (.int nw), (.int 1)] ∧ Z.Warmed39 U.vm ∧ U.heap = h0) (fun _ _ _ _ _ => True) (fun _ U o U' => ∃ v L, o = .returned v ∧ Q_slash_1 Z ab1 kc nw c1 c2 c3 c4 h0 n0 v U'.heap L ∧ FrameEnd U o U' L (oR 0 0 0 0).cells (oR 0 0 0 0).slots) := by
  refine MetFree.of_bodySF (plainFor_of_name pn_43637772) hisR ?_
  intro p e s m args below meth c s₁ Bd hml0 hP hK
  obtain ⟨rfl, hZ, hh⟩ := hP
  obtain ⟨wO2, wP5, wO4, wrG3, hstr, wO5, wV5⟩ := id cx
  have hx := Bd.exec
  have hby := Bd.bytes
  have hlk := Bd.notSynchronized
  have hml : c.maxLocals = 3 := hml0
  have hown : s.vm.findClass "com/example/kindling/kindling/web/PathTemplateSegmentsPinLaw" = some m.cls := findClass_of_methodNamed Bd.named
  have hnm := (name_of_methodNamed Bd.named Bd.method).1
  have X0 : Stand p l e (oR 0 0 0 0) s m #[(.ref ab1), (.int nw), (.int 1)] below meth c s₁ [] 0 0 := Stand.of_body Bd
  have e0 : s₁.heap = h0 := by rw [← hh, Bd.state]; rfl
  have N0 := Fr.nil n0
  have Z0 : n0 ≤ h0.size := X00.1 ▸ X00.2.1
  have K0 : Keep h0 h0 ([] : List Addr) := Keep.refl _ _
  show OwnGoes p e below _ s₁ (entryFrame m _ _)
  refine og s₁ m 0 #[vR ab1, vI nw, vI 1] [] (fun tgt kgo => castTop (ef_slash_1 m ab1 nw) kgo) ?_
  refine og s₁ m 2 #[vR ab1, vI nw, vI 1] [(.int nw), (.int 1)] (fun tgt kgo => ?_) ?_
  · refine XS.iloadN X0.here hx rfl (hb hby d38_0) rfl ?_
    refine XS.iloadN X0.here hx rfl (hb hby d38_1) rfl ?_
    exact kgo
  by_cases cc1 : (1 : Int32) < nw
  · skip
    refine og s₁ m 10 #[vR ab1, vI nw, vI 1] [(.int 47), (.int c2)] (fun tgt kgo => ?_) ?_
    · refine XS.icmpNo X0.here hx rfl (hb hby d38_2) rfl (tlt cc1).2.1 ?_
      refine XS.aloadN X0.here hx rfl (hb hby d38_5) rfl rfl ?_
      refine XS.iloadN X0.here hx rfl (hb hby d38_6) rfl ?_
      show OwnG p e below s₁ m 7 #[vR ab1, vI nw, vI 1] [(.int 1), (.ref ab1)] tgt
      obtain ⟨cl2, Ar2, q2, S2, M2, H2, G2⟩ := f0
      refine X0.caload hx (j := (1 : Int32)) (v := (.int c2)) (by rw [e0]; exact Ar2.1) (State.isArrayOf_alike hZ.alike Ar2.2.1) Ar2.2.2 (inb_of S2 ⟨by decide, by decide⟩) (Has.at H2 (inb_of S2 ⟨by decide, by decide⟩) rfl) (g := (mkF m 7 #[vR ab1, vI nw, vI 1] [(.int 1), (.ref ab1)])) rfl rfl (hb hby d38_7) _ ?_
      refine XS.bipush X0.here hx rfl (hb hby d38_8) ?_
      exact kgo
    by_cases cc3 : c2 = (47 : Int32)
    · skip
      refine og s₁ m 18 #[vR ab1, vI nw, vI 1] [(.int 1)] (fun tgt kgo => ?_) ?_
      · refine XS.icmpNo X0.here hx rfl (hb hby d38_10) rfl (teq cc3).2 ?_
        refine XS.iconst X0.here hx rfl (hb hby d38_13) ?_
        refine XS.goto X0.here hx rfl (pc0 := 14) (pc' := 18) rfl (hb hby d38_14) (by decide) (by decide) ?_
        exact kgo
      refine own_leave X0 hlk (v := some (.int 1)) (fun h => by rw [Bd.returns] at h; cases h) (fun fs hr => retN X0 hx (t := .boolean) Bd.returns (by simp) (hb hby d38_18) (by rw [(by decide : nar .boolean (1 : Int32) = (1 : Int32))]; exact hr)) (by decide) (by decide) ?_
      show Q_slash_1 Z ab1 kc nw c1 c2 c3 c4 h0 n0 _ s₁.heap _
      rw [e0]
      exact ⟨(1 : Int32), rfl, N0, rfl, (Or.inl ⟨rfl, cc1, cc3⟩)⟩
    refine og s₁ m 18 #[vR ab1, vI nw, vI 1] [(.int 0)] (fun tgt kgo => ?_) ?_
    · refine XS.icmpYes X0.here hx rfl (pc0 := 10) (pc' := 17) rfl (hb hby d38_10) rfl (feq cc3).2 (by decide) (by decide) ?_
      refine XS.iconst X0.here hx rfl (hb hby d38_17) ?_
      exact kgo
    refine own_leave X0 hlk (v := some (.int 0)) (fun h => by rw [Bd.returns] at h; cases h) (fun fs hr => retN X0 hx (t := .boolean) Bd.returns (by simp) (hb hby d38_18) (by rw [(by decide : nar .boolean (0 : Int32) = (0 : Int32))]; exact hr)) (by decide) (by decide) ?_
    show Q_slash_1 Z ab1 kc nw c1 c2 c3 c4 h0 n0 _ s₁.heap _
    rw [e0]
    exact ⟨(0 : Int32), rfl, N0, rfl, (Or.inr ⟨rfl, fun z => cc3 z.2⟩)⟩
  refine og s₁ m 18 #[vR ab1, vI nw, vI 1] [(.int 0)] (fun tgt kgo => ?_) ?_
  · refine XS.icmpYes X0.here hx rfl (pc0 := 2) (pc' := 17) rfl (hb hby d38_2) rfl (flt cc1).2.1 (by decide) (by decide) ?_
    refine XS.iconst X0.here hx rfl (hb hby d38_17) ?_
    exact kgo
  refine own_leave X0 hlk (v := some (.int 0)) (fun h => by rw [Bd.returns] at h; cases h) (fun fs hr => retN X0 hx (t := .boolean) Bd.returns (by simp) (hb hby d38_18) (by rw [(by decide : nar .boolean (0 : Int32) = (0 : Int32))]; exact hr)) (by decide) (by decide) ?_
  show Q_slash_1 Z ab1 kc nw c1 c2 c3 c4 h0 n0 _ s₁.heap _
  rw [e0]
  exact ⟨(0 : Int32), rfl, N0, rfl, (Or.inr ⟨rfl, fun z => cc1 z.1⟩)⟩
theorem ef_slash_2 (m : MethodId) (x0 : Addr) (x1 : Int32) : entryFrame m #[(.ref x0), (.int x1), (.int 2)] 3 = mkF m 0 #[vR x0, vI x1, vI 2] [] := by
  first | (simp [entryFrame, mkF, argsToLocals, Value.category]; done) | rfl
def Q_slash_2 (Z : State) (ab1 : Addr) (kc : ClassId) (nw : Int32) (c1 : Int32) (c2 : Int32) (c3 : Int32) (c4 : Int32) (h0 : Heap) (n0 : Nat) (v : Option Value) (h : Heap) (L : List Loc) : Prop := ∃ (r : Int32), v = some (.int r) ∧ Fr n0 L ∧ h = h0 ∧ ((r = (1 : Int32) ∧ ((2 : Int32) < nw ∧ c3 = 47)) ∨ (r = (0 : Int32) ∧ ¬ ((2 : Int32) < nw ∧ c3 = 47)))
set_option maxRecDepth 65536 in
set_option maxHeartbeats 40000000 in
theorem rm_slash_2 (l : Launch) (Z : State) (a0 : Array Value) (hw : ∀ d ∈ tables_1, d.before a0 Z = true) (ws : List Jvm.Cond) (wG1 : Int32) (wG3 : Value) (wG5 : Addr) (wK5 : ClassId) (cx : OwnCx Z a0 wG1 wG3 wG5 wK5) (hEL : EW Z a0 consts_1) (h0 : Heap) (n0 : Nat) (X00 : Old Z n0 h0) (ab1 : Addr) (kc : ClassId) (nw : Int32) (c1 : Int32) (c2 : Int32) (c3 : Int32) (c4 : Int32) (f0 : Arv Z h0 ab1 kc .char (4 : Int32) [(.int c1), (.int c2), (.int c3), (.int c4)] (.int 0)) :
    MetFree l mN39 (head1 (Jvm.Cond.code mN39 method_3_code 3 (some .boolean) :: ws) (oR 0 0 0 0)) (fun a U => a = #[(.ref ab1), (.int nw), (.int 2)] ∧ Z.Warmed39 U.vm ∧ U.heap = h0) (fun _ _ _ _ _ => True) (fun _ U o U' => ∃ v L, o = .returned v ∧ Q_slash_2 Z ab1 kc nw c1 c2 c3 c4 h0 n0 v U'.heap L ∧ FrameEnd U o U' L (oR 0 0 0 0).cells (oR 0 0 0 0).slots) := by
  refine MetFree.of_bodySF (plainFor_of_name pn_43637772) hisR ?_
  intro p e s m args below meth c s₁ Bd hml0 hP hK
  obtain ⟨rfl, hZ, hh⟩ := hP
  obtain ⟨wO2, wP5, wO4, wrG3, hstr, wO5, wV5⟩ := id cx
  have hx := Bd.exec
  have hby := Bd.bytes
  have hlk := Bd.notSynchronized
  have hml : c.maxLocals = 3 := hml0
  have hown : s.vm.findClass "com/example/kindling/kindling/web/PathTemplateSegmentsPinLaw" = some m.cls := findClass_of_methodNamed Bd.named
  have hnm := (name_of_methodNamed Bd.named Bd.method).1
  have X0 : Stand p l e (oR 0 0 0 0) s m #[(.ref ab1), (.int nw), (.int 2)] below meth c s₁ [] 0 0 := Stand.of_body Bd
  have e0 : s₁.heap = h0 := by rw [← hh, Bd.state]; rfl
  have N0 := Fr.nil n0
  have Z0 : n0 ≤ h0.size := X00.1 ▸ X00.2.1
  have K0 : Keep h0 h0 ([] : List Addr) := Keep.refl _ _
  show OwnGoes p e below _ s₁ (entryFrame m _ _)
  refine og s₁ m 0 #[vR ab1, vI nw, vI 2] [] (fun tgt kgo => castTop (ef_slash_2 m ab1 nw) kgo) ?_
  refine og s₁ m 2 #[vR ab1, vI nw, vI 2] [(.int nw), (.int 2)] (fun tgt kgo => ?_) ?_
  · refine XS.iloadN X0.here hx rfl (hb hby d38_0) rfl ?_
    refine XS.iloadN X0.here hx rfl (hb hby d38_1) rfl ?_
    exact kgo
  by_cases cc1 : (2 : Int32) < nw
  · skip
    refine og s₁ m 10 #[vR ab1, vI nw, vI 2] [(.int 47), (.int c3)] (fun tgt kgo => ?_) ?_
    · refine XS.icmpNo X0.here hx rfl (hb hby d38_2) rfl (tlt cc1).2.1 ?_
      refine XS.aloadN X0.here hx rfl (hb hby d38_5) rfl rfl ?_
      refine XS.iloadN X0.here hx rfl (hb hby d38_6) rfl ?_
      show OwnG p e below s₁ m 7 #[vR ab1, vI nw, vI 2] [(.int 2), (.ref ab1)] tgt
      obtain ⟨cl2, Ar2, q2, S2, M2, H2, G2⟩ := f0
      refine X0.caload hx (j := (2 : Int32)) (v := (.int c3)) (by rw [e0]; exact Ar2.1) (State.isArrayOf_alike hZ.alike Ar2.2.1) Ar2.2.2 (inb_of S2 ⟨by decide, by decide⟩) (Has.at H2 (inb_of S2 ⟨by decide, by decide⟩) rfl) (g := (mkF m 7 #[vR ab1, vI nw, vI 2] [(.int 2), (.ref ab1)])) rfl rfl (hb hby d38_7) _ ?_
      refine XS.bipush X0.here hx rfl (hb hby d38_8) ?_
      exact kgo
    by_cases cc3 : c3 = (47 : Int32)
    · skip
      refine og s₁ m 18 #[vR ab1, vI nw, vI 2] [(.int 1)] (fun tgt kgo => ?_) ?_
      · refine XS.icmpNo X0.here hx rfl (hb hby d38_10) rfl (teq cc3).2 ?_
        refine XS.iconst X0.here hx rfl (hb hby d38_13) ?_
        refine XS.goto X0.here hx rfl (pc0 := 14) (pc' := 18) rfl (hb hby d38_14) (by decide) (by decide) ?_
        exact kgo
      refine own_leave X0 hlk (v := some (.int 1)) (fun h => by rw [Bd.returns] at h; cases h) (fun fs hr => retN X0 hx (t := .boolean) Bd.returns (by simp) (hb hby d38_18) (by rw [(by decide : nar .boolean (1 : Int32) = (1 : Int32))]; exact hr)) (by decide) (by decide) ?_
      show Q_slash_2 Z ab1 kc nw c1 c2 c3 c4 h0 n0 _ s₁.heap _
      rw [e0]
      exact ⟨(1 : Int32), rfl, N0, rfl, (Or.inl ⟨rfl, cc1, cc3⟩)⟩
    refine og s₁ m 18 #[vR ab1, vI nw, vI 2] [(.int 0)] (fun tgt kgo => ?_) ?_
    · refine XS.icmpYes X0.here hx rfl (pc0 := 10) (pc' := 17) rfl (hb hby d38_10) rfl (feq cc3).2 (by decide) (by decide) ?_
      refine XS.iconst X0.here hx rfl (hb hby d38_17) ?_
      exact kgo
    refine own_leave X0 hlk (v := some (.int 0)) (fun h => by rw [Bd.returns] at h; cases h) (fun fs hr => retN X0 hx (t := .boolean) Bd.returns (by simp) (hb hby d38_18) (by rw [(by decide : nar .boolean (0 : Int32) = (0 : Int32))]; exact hr)) (by decide) (by decide) ?_
    show Q_slash_2 Z ab1 kc nw c1 c2 c3 c4 h0 n0 _ s₁.heap _
    rw [e0]
    exact ⟨(0 : Int32), rfl, N0, rfl, (Or.inr ⟨rfl, fun z => cc3 z.2⟩)⟩
  refine og s₁ m 18 #[vR ab1, vI nw, vI 2] [(.int 0)] (fun tgt kgo => ?_) ?_
  · refine XS.icmpYes X0.here hx rfl (pc0 := 2) (pc' := 17) rfl (hb hby d38_2) rfl (flt cc1).2.1 (by decide) (by decide) ?_
    refine XS.iconst X0.here hx rfl (hb hby d38_17) ?_
    exact kgo
  refine own_leave X0 hlk (v := some (.int 0)) (fun h => by rw [Bd.returns] at h; cases h) (fun fs hr => retN X0 hx (t := .boolean) Bd.returns (by simp) (hb hby d38_18) (by rw [(by decide : nar .boolean (0 : Int32) = (0 : Int32))]; exact hr)) (by decide) (by decide) ?_
  show Q_slash_2 Z ab1 kc nw c1 c2 c3 c4 h0 n0 _ s₁.heap _
  rw [e0]
  exact ⟨(0 : Int32), rfl, N0, rfl, (Or.inr ⟨rfl, fun z => cc1 z.1⟩)⟩
theorem ef_slash_3 (m : MethodId) (x0 : Addr) (x1 : Int32) : entryFrame m #[(.ref x0), (.int x1), (.int 3)] 3 = mkF m 0 #[vR x0, vI x1, vI 3] [] := by
  first | (simp [entryFrame, mkF, argsToLocals, Value.category]; done) | rfl
def Q_slash_3 (Z : State) (ab1 : Addr) (kc : ClassId) (nw : Int32) (c1 : Int32) (c2 : Int32) (c3 : Int32) (c4 : Int32) (h0 : Heap) (n0 : Nat) (v : Option Value) (h : Heap) (L : List Loc) : Prop := ∃ (r : Int32), v = some (.int r) ∧ Fr n0 L ∧ h = h0 ∧ ((r = (1 : Int32) ∧ ((3 : Int32) < nw ∧ c4 = 47)) ∨ (r = (0 : Int32) ∧ ¬ ((3 : Int32) < nw ∧ c4 = 47)))
set_option maxRecDepth 65536 in
set_option maxHeartbeats 40000000 in
theorem rm_slash_3 (l : Launch) (Z : State) (a0 : Array Value) (hw : ∀ d ∈ tables_1, d.before a0 Z = true) (ws : List Jvm.Cond) (wG1 : Int32) (wG3 : Value) (wG5 : Addr) (wK5 : ClassId) (cx : OwnCx Z a0 wG1 wG3 wG5 wK5) (hEL : EW Z a0 consts_1) (h0 : Heap) (n0 : Nat) (X00 : Old Z n0 h0) (ab1 : Addr) (kc : ClassId) (nw : Int32) (c1 : Int32) (c2 : Int32) (c3 : Int32) (c4 : Int32) (f0 : Arv Z h0 ab1 kc .char (4 : Int32) [(.int c1), (.int c2), (.int c3), (.int c4)] (.int 0)) :
    MetFree l mN39 (head1 (Jvm.Cond.code mN39 method_3_code 3 (some .boolean) :: ws) (oR 0 0 0 0)) (fun a U => a = #[(.ref ab1), (.int nw), (.int 3)] ∧ Z.Warmed39 U.vm ∧ U.heap = h0) (fun _ _ _ _ _ => True) (fun _ U o U' => ∃ v L, o = .returned v ∧ Q_slash_3 Z ab1 kc nw c1 c2 c3 c4 h0 n0 v U'.heap L ∧ FrameEnd U o U' L (oR 0 0 0 0).cells (oR 0 0 0 0).slots) := by
  refine MetFree.of_bodySF (plainFor_of_name pn_43637772) hisR ?_
  intro p e s m args below meth c s₁ Bd hml0 hP hK
  obtain ⟨rfl, hZ, hh⟩ := hP
  obtain ⟨wO2, wP5, wO4, wrG3, hstr, wO5, wV5⟩ := id cx
  have hx := Bd.exec
  have hby := Bd.bytes
  have hlk := Bd.notSynchronized
  have hml : c.maxLocals = 3 := hml0
  have hown : s.vm.findClass "com/example/kindling/kindling/web/PathTemplateSegmentsPinLaw" = some m.cls := findClass_of_methodNamed Bd.named
  have hnm := (name_of_methodNamed Bd.named Bd.method).1
  have X0 : Stand p l e (oR 0 0 0 0) s m #[(.ref ab1), (.int nw), (.int 3)] below meth c s₁ [] 0 0 := Stand.of_body Bd
  have e0 : s₁.heap = h0 := by rw [← hh, Bd.state]; rfl
  have N0 := Fr.nil n0
  have Z0 : n0 ≤ h0.size := X00.1 ▸ X00.2.1
  have K0 : Keep h0 h0 ([] : List Addr) := Keep.refl _ _
  show OwnGoes p e below _ s₁ (entryFrame m _ _)
  refine og s₁ m 0 #[vR ab1, vI nw, vI 3] [] (fun tgt kgo => castTop (ef_slash_3 m ab1 nw) kgo) ?_
  refine og s₁ m 2 #[vR ab1, vI nw, vI 3] [(.int nw), (.int 3)] (fun tgt kgo => ?_) ?_
  · refine XS.iloadN X0.here hx rfl (hb hby d38_0) rfl ?_
    refine XS.iloadN X0.here hx rfl (hb hby d38_1) rfl ?_
    exact kgo
  by_cases cc1 : (3 : Int32) < nw
  · skip
    refine og s₁ m 10 #[vR ab1, vI nw, vI 3] [(.int 47), (.int c4)] (fun tgt kgo => ?_) ?_
    · refine XS.icmpNo X0.here hx rfl (hb hby d38_2) rfl (tlt cc1).2.1 ?_
      refine XS.aloadN X0.here hx rfl (hb hby d38_5) rfl rfl ?_
      refine XS.iloadN X0.here hx rfl (hb hby d38_6) rfl ?_
      show OwnG p e below s₁ m 7 #[vR ab1, vI nw, vI 3] [(.int 3), (.ref ab1)] tgt
      obtain ⟨cl2, Ar2, q2, S2, M2, H2, G2⟩ := f0
      refine X0.caload hx (j := (3 : Int32)) (v := (.int c4)) (by rw [e0]; exact Ar2.1) (State.isArrayOf_alike hZ.alike Ar2.2.1) Ar2.2.2 (inb_of S2 ⟨by decide, by decide⟩) (Has.at H2 (inb_of S2 ⟨by decide, by decide⟩) rfl) (g := (mkF m 7 #[vR ab1, vI nw, vI 3] [(.int 3), (.ref ab1)])) rfl rfl (hb hby d38_7) _ ?_
      refine XS.bipush X0.here hx rfl (hb hby d38_8) ?_
      exact kgo
    by_cases cc3 : c4 = (47 : Int32)
    · skip
      refine og s₁ m 18 #[vR ab1, vI nw, vI 3] [(.int 1)] (fun tgt kgo => ?_) ?_
      · refine XS.icmpNo X0.here hx rfl (hb hby d38_10) rfl (teq cc3).2 ?_
        refine XS.iconst X0.here hx rfl (hb hby d38_13) ?_
        refine XS.goto X0.here hx rfl (pc0 := 14) (pc' := 18) rfl (hb hby d38_14) (by decide) (by decide) ?_
        exact kgo
      refine own_leave X0 hlk (v := some (.int 1)) (fun h => by rw [Bd.returns] at h; cases h) (fun fs hr => retN X0 hx (t := .boolean) Bd.returns (by simp) (hb hby d38_18) (by rw [(by decide : nar .boolean (1 : Int32) = (1 : Int32))]; exact hr)) (by decide) (by decide) ?_
      show Q_slash_3 Z ab1 kc nw c1 c2 c3 c4 h0 n0 _ s₁.heap _
      rw [e0]
      exact ⟨(1 : Int32), rfl, N0, rfl, (Or.inl ⟨rfl, cc1, cc3⟩)⟩
    refine og s₁ m 18 #[vR ab1, vI nw, vI 3] [(.int 0)] (fun tgt kgo => ?_) ?_
    · refine XS.icmpYes X0.here hx rfl (pc0 := 10) (pc' := 17) rfl (hb hby d38_10) rfl (feq cc3).2 (by decide) (by decide) ?_
      refine XS.iconst X0.here hx rfl (hb hby d38_17) ?_
      exact kgo
    refine own_leave X0 hlk (v := some (.int 0)) (fun h => by rw [Bd.returns] at h; cases h) (fun fs hr => retN X0 hx (t := .boolean) Bd.returns (by simp) (hb hby d38_18) (by rw [(by decide : nar .boolean (0 : Int32) = (0 : Int32))]; exact hr)) (by decide) (by decide) ?_
    show Q_slash_3 Z ab1 kc nw c1 c2 c3 c4 h0 n0 _ s₁.heap _
    rw [e0]
    exact ⟨(0 : Int32), rfl, N0, rfl, (Or.inr ⟨rfl, fun z => cc3 z.2⟩)⟩
  refine og s₁ m 18 #[vR ab1, vI nw, vI 3] [(.int 0)] (fun tgt kgo => ?_) ?_
  · refine XS.icmpYes X0.here hx rfl (pc0 := 2) (pc' := 17) rfl (hb hby d38_2) rfl (flt cc1).2.1 (by decide) (by decide) ?_
    refine XS.iconst X0.here hx rfl (hb hby d38_17) ?_
    exact kgo
  refine own_leave X0 hlk (v := some (.int 0)) (fun h => by rw [Bd.returns] at h; cases h) (fun fs hr => retN X0 hx (t := .boolean) Bd.returns (by simp) (hb hby d38_18) (by rw [(by decide : nar .boolean (0 : Int32) = (0 : Int32))]; exact hr)) (by decide) (by decide) ?_
  show Q_slash_3 Z ab1 kc nw c1 c2 c3 c4 h0 n0 _ s₁.heap _
  rw [e0]
  exact ⟨(0 : Int32), rfl, N0, rfl, (Or.inr ⟨rfl, fun z => cc1 z.1⟩)⟩
theorem ef_cnt_0 (m : MethodId) (x0 : Addr) (x1 : Int32) : entryFrame m #[(.ref x0), (.int x1), (.int 0)] 4 = mkF m 0 #[vR x0, vI x1, vI 0, vU] [] := by
  first | (simp [entryFrame, mkF, argsToLocals, Value.category]; done) | rfl
def Q_cnt_0 (Z : State) (ab1 : Addr) (kc : ClassId) (nw : Int32) (c1 : Int32) (c2 : Int32) (c3 : Int32) (c4 : Int32) (h0 : Heap) (n0 : Nat) (v : Option Value) (h : Heap) (L : List Loc) : Prop := v = some (.int 0) ∧ Fr n0 L ∧ h = h0
theorem d39_0 : decode method_4_code 0 = .ok (.iconst 0, 1) := by decide +kernel
theorem d39_1 : decode method_4_code 1 = .ok (.istore_n 3, 1) := by decide +kernel
theorem d39_2 : decode method_4_code 2 = .ok (.iload_n 2, 1) := by decide +kernel
theorem d39_3 : decode method_4_code 3 = .ok (.ifCond .le 15, 3) := by decide +kernel
theorem d39_18 : decode method_4_code 18 = .ok (.iload_n 2, 1) := by decide +kernel
theorem d39_19 : decode method_4_code 19 = .ok (.iconst 1, 1) := by decide +kernel
theorem d39_20 : decode method_4_code 20 = .ok (.if_icmp .le 15, 3) := by decide +kernel
theorem d39_35 : decode method_4_code 35 = .ok (.iload_n 2, 1) := by decide +kernel
theorem d39_36 : decode method_4_code 36 = .ok (.iconst 2, 1) := by decide +kernel
theorem d39_37 : decode method_4_code 37 = .ok (.if_icmp .le 15, 3) := by decide +kernel
theorem d39_52 : decode method_4_code 52 = .ok (.iload_n 2, 1) := by decide +kernel
theorem d39_53 : decode method_4_code 53 = .ok (.iconst 3, 1) := by decide +kernel
theorem d39_54 : decode method_4_code 54 = .ok (.if_icmp .le 15, 3) := by decide +kernel
theorem d39_69 : decode method_4_code 69 = .ok (.iload_n 3, 1) := by decide +kernel
theorem d39_70 : decode method_4_code 70 = .ok (.ireturn, 1) := by decide +kernel
set_option maxRecDepth 65536 in
set_option maxHeartbeats 40000000 in
theorem rm_cnt_0 (l : Launch) (Z : State) (a0 : Array Value) (hw : ∀ d ∈ tables_1, d.before a0 Z = true) (ws : List Jvm.Cond) (wG1 : Int32) (wG3 : Value) (wG5 : Addr) (wK5 : ClassId) (cx : OwnCx Z a0 wG1 wG3 wG5 wK5) (hEL : EW Z a0 consts_1) (h0 : Heap) (n0 : Nat) (X00 : Old Z n0 h0) (ab1 : Addr) (kc : ClassId) (nw : Int32) (c1 : Int32) (c2 : Int32) (c3 : Int32) (c4 : Int32) (f0 : Arv Z h0 ab1 kc .char (4 : Int32) [(.int c1), (.int c2), (.int c3), (.int c4)] (.int 0)) :
    MetFree l mN40 (head1 (Jvm.Cond.code mN40 method_4_code 4 (some .int) :: ws) (oR 0 0 0 0)) (fun a U => a = #[(.ref ab1), (.int nw), (.int 0)] ∧ Z.Warmed39 U.vm ∧ U.heap = h0) (fun _ _ _ _ _ => True) (fun _ U o U' => ∃ v L, o = .returned v ∧ Q_cnt_0 Z ab1 kc nw c1 c2 c3 c4 h0 n0 v U'.heap L ∧ FrameEnd U o U' L (oR 0 0 0 0).cells (oR 0 0 0 0).slots) := by
  refine MetFree.of_bodySF (plainFor_of_name pn_43637772) hisR ?_
  intro p e s m args below meth c s₁ Bd hml0 hP hK
  obtain ⟨rfl, hZ, hh⟩ := hP
  obtain ⟨wO2, wP5, wO4, wrG3, hstr, wO5, wV5⟩ := id cx
  have hx := Bd.exec
  have hby := Bd.bytes
  have hlk := Bd.notSynchronized
  have hml : c.maxLocals = 4 := hml0
  have hown : s.vm.findClass "com/example/kindling/kindling/web/PathTemplateSegmentsPinLaw" = some m.cls := findClass_of_methodNamed Bd.named
  have hnm := (name_of_methodNamed Bd.named Bd.method).1
  have X0 : Stand p l e (oR 0 0 0 0) s m #[(.ref ab1), (.int nw), (.int 0)] below meth c s₁ [] 0 0 := Stand.of_body Bd
  have e0 : s₁.heap = h0 := by rw [← hh, Bd.state]; rfl
  have N0 := Fr.nil n0
  have Z0 : n0 ≤ h0.size := X00.1 ▸ X00.2.1
  have K0 : Keep h0 h0 ([] : List Addr) := Keep.refl _ _
  show OwnGoes p e below _ s₁ (entryFrame m _ _)
  refine og s₁ m 0 #[vR ab1, vI nw, vI 0, vU] [] (fun tgt kgo => castTop (ef_cnt_0 m ab1 nw) kgo) ?_
  refine og s₁ m 70 #[vR ab1, vI nw, vI 0, vI 0] [(.int 0)] (fun tgt kgo => ?_) ?_
  · refine XS.iconst X0.here hx rfl (hb hby d39_0) ?_
    refine XS.istoreN X0.here hx rfl (hb hby d39_1) rfl (l' := #[vR ab1, vI nw, vI 0, vI 0]) rfl ?_
    refine XS.iloadN X0.here hx rfl (hb hby d39_2) rfl ?_
    show OwnG p e below s₁ m 3 #[vR ab1, vI nw, vI 0, vI 0] [(.int 0)] tgt
    refine XS.ifYes X0.here hx rfl (pc0 := 3) (pc' := 18) rfl (hb hby d39_3) rfl ((if0 _ _).trans (flt (by decide : ¬ ((0 : Int32) < (0 : Int32)))).2.2.2) (by decide) (by decide) ?_
    refine XS.iloadN X0.here hx rfl (hb hby d39_18) rfl ?_
    refine XS.iconst X0.here hx rfl (hb hby d39_19) ?_
    show OwnG p e below s₁ m 20 #[vR ab1, vI nw, vI 0, vI 0] [(.int 1), (.int 0)] tgt
    refine XS.icmpYes X0.here hx rfl (pc0 := 20) (pc' := 35) rfl (hb hby d39_20) rfl (flt (by decide : ¬ ((1 : Int32) < (0 : Int32)))).2.2.2 (by decide) (by decide) ?_
    refine XS.iloadN X0.here hx rfl (hb hby d39_35) rfl ?_
    refine XS.iconst X0.here hx rfl (hb hby d39_36) ?_
    show OwnG p e below s₁ m 37 #[vR ab1, vI nw, vI 0, vI 0] [(.int 2), (.int 0)] tgt
    refine XS.icmpYes X0.here hx rfl (pc0 := 37) (pc' := 52) rfl (hb hby d39_37) rfl (flt (by decide : ¬ ((2 : Int32) < (0 : Int32)))).2.2.2 (by decide) (by decide) ?_
    refine XS.iloadN X0.here hx rfl (hb hby d39_52) rfl ?_
    refine XS.iconst X0.here hx rfl (hb hby d39_53) ?_
    show OwnG p e below s₁ m 54 #[vR ab1, vI nw, vI 0, vI 0] [(.int 3), (.int 0)] tgt
    refine XS.icmpYes X0.here hx rfl (pc0 := 54) (pc' := 69) rfl (hb hby d39_54) rfl (flt (by decide : ¬ ((3 : Int32) < (0 : Int32)))).2.2.2 (by decide) (by decide) ?_
    refine XS.iloadN X0.here hx rfl (hb hby d39_69) rfl ?_
    exact kgo
  refine own_leave X0 hlk (v := some (.int 0)) (fun h => by rw [Bd.returns] at h; cases h) (fun fs hr => retI X0 hx Bd.returns (hb hby d39_70) hr) (by decide) (by decide) ?_
  show Q_cnt_0 Z ab1 kc nw c1 c2 c3 c4 h0 n0 _ s₁.heap _
  rw [e0]
  exact ⟨rfl, N0, rfl⟩
theorem ef_cnt_1 (m : MethodId) (x0 : Addr) (x1 : Int32) : entryFrame m #[(.ref x0), (.int x1), (.int 1)] 4 = mkF m 0 #[vR x0, vI x1, vI 1, vU] [] := by
  first | (simp [entryFrame, mkF, argsToLocals, Value.category]; done) | rfl
def Q_cnt_1 (Z : State) (ab1 : Addr) (kc : ClassId) (nw : Int32) (c1 : Int32) (c2 : Int32) (c3 : Int32) (c4 : Int32) (h0 : Heap) (n0 : Nat) (v : Option Value) (h : Heap) (L : List Loc) : Prop := v = some (.int (oc nw (0 : Int32) c1 (0 : Int32))) ∧ Fr n0 L ∧ h = h0
theorem d39_6 : decode method_4_code 6 = .ok (.aload_n 0, 1) := by decide +kernel
theorem d39_7 : decode method_4_code 7 = .ok (.iload_n 1, 1) := by decide +kernel
theorem d39_8 : decode method_4_code 8 = .ok (.iconst 0, 1) := by decide +kernel
theorem d39_9 : decode method_4_code 9 = .ok (.invokestatic 7, 3) := by decide +kernel
theorem pd_17795025 : parseMethodDescriptor "([CII)Z" = some ⟨[(.array .char), .int, .int], some .boolean⟩ := by decide +kernel
theorem d39_12 : decode method_4_code 12 = .ok (.ifCond .eq 6, 3) := by decide +kernel
theorem d39_15 : decode method_4_code 15 = .ok (.iinc 3 1, 3) := by decide +kernel
set_option maxRecDepth 65536 in
set_option maxHeartbeats 40000000 in
theorem rm_cnt_1 (l : Launch) (Z : State) (a0 : Array Value) (hw : ∀ d ∈ tables_1, d.before a0 Z = true) (ws : List Jvm.Cond) (wG1 : Int32) (wG3 : Value) (wG5 : Addr) (wK5 : ClassId) (cx : OwnCx Z a0 wG1 wG3 wG5 wK5) (hEL : EW Z a0 consts_1) (h0 : Heap) (n0 : Nat) (X00 : Old Z n0 h0) (ab1 : Addr) (kc : ClassId) (nw : Int32) (c1 : Int32) (c2 : Int32) (c3 : Int32) (c4 : Int32) (f0 : Arv Z h0 ab1 kc .char (4 : Int32) [(.int c1), (.int c2), (.int c3), (.int c4)] (.int 0)) :
    MetFree l mN40 (head1 (Jvm.Cond.code mN40 method_4_code 4 (some .int) :: ws) (oR 1 0 0 14)) (fun a U => a = #[(.ref ab1), (.int nw), (.int 1)] ∧ Z.Warmed39 U.vm ∧ U.heap = h0) (fun _ _ _ _ _ => True) (fun _ U o U' => ∃ v L, o = .returned v ∧ Q_cnt_1 Z ab1 kc nw c1 c2 c3 c4 h0 n0 v U'.heap L ∧ FrameEnd U o U' L (oR 1 0 0 14).cells (oR 1 0 0 14).slots) := by
  refine MetFree.of_bodySF (plainFor_of_name pn_43637772) hisR ?_
  intro p e s m args below meth c s₁ Bd hml0 hP hK
  obtain ⟨rfl, hZ, hh⟩ := hP
  obtain ⟨wO2, wP5, wO4, wrG3, hstr, wO5, wV5⟩ := id cx
  have hx := Bd.exec
  have hby := Bd.bytes
  have hlk := Bd.notSynchronized
  have hml : c.maxLocals = 4 := hml0
  have hown : s.vm.findClass "com/example/kindling/kindling/web/PathTemplateSegmentsPinLaw" = some m.cls := findClass_of_methodNamed Bd.named
  have hnm := (name_of_methodNamed Bd.named Bd.method).1
  have X0 : Stand p l e (oR 1 0 0 14) s m #[(.ref ab1), (.int nw), (.int 1)] below meth c s₁ [] 0 0 := Stand.of_body Bd
  have e0 : s₁.heap = h0 := by rw [← hh, Bd.state]; rfl
  have N0 := Fr.nil n0
  have Z0 : n0 ≤ h0.size := X00.1 ▸ X00.2.1
  have K0 : Keep h0 h0 ([] : List Addr) := Keep.refl _ _
  show OwnGoes p e below _ s₁ (entryFrame m _ _)
  refine og s₁ m 0 #[vR ab1, vI nw, vI 1, vU] [] (fun tgt kgo => castTop (ef_cnt_1 m ab1 nw) kgo) ?_
  refine og s₁ m 9 #[vR ab1, vI nw, vI 1, vI 0] [(.int 0), (.int nw), (.ref ab1)] (fun tgt kgo => ?_) ?_
  · refine XS.iconst X0.here hx rfl (hb hby d39_0) ?_
    refine XS.istoreN X0.here hx rfl (hb hby d39_1) rfl (l' := #[vR ab1, vI nw, vI 1, vI 0]) rfl ?_
    refine XS.iloadN X0.here hx rfl (hb hby d39_2) rfl ?_
    show OwnG p e below s₁ m 3 #[vR ab1, vI nw, vI 1, vI 0] [(.int 1)] tgt
    refine XS.ifNo X0.here hx rfl (hb hby d39_3) rfl ((if0 _ _).trans (tlt (by decide : (0 : Int32) < (1 : Int32))).2.2.2) ?_
    refine XS.aloadN X0.here hx rfl (hb hby d39_6) rfl rfl ?_
    refine XS.iloadN X0.here hx rfl (hb hby d39_7) rfl ?_
    show OwnG p e below s₁ m 8 #[vR ab1, vI nw, vI 1, vI 0] [(.int nw), (.ref ab1)] tgt
    refine XS.iconst X0.here hx rfl (hb hby d39_8) ?_
    exact kgo
  obtain ⟨_, _, ⟨T1, L1, k1, n1⟩, -, X1, ⟨Lc1, hQ1, l1, y1, z1⟩, st1⟩ := Jvm.LawKit.callS X0 hx (y := mN39) hown (mvT hZ (own_w hw 112 rfl)) (mvT hZ (own_w hw 113 rfl)) (mvT hZ (own_w hw 4 rfl)) (mvT hZ (own_w hw 114 rfl)) (by decide) (backOf (W := 0) (rm_slash_0 l Z a0 hw [] wG1 wG3 wG5 wK5 cx hEL h0 n0 X00 ab1 kc nw c1 c2 c3 c4 f0) hZ (own_w hw 114 rfl) (own_w hw 4 rfl) (by decide) (by decide)) (g := (mkF m 9 #[vR ab1, vI nw, vI 1, vI 0] [(.int 0), (.int nw), (.ref ab1)])) rfl (by rw [hml]; rfl) (argsL := [(.ref ab1), (.int nw), (.int 0)]) (rest := []) (lenOf pd_17795025 rfl) rfl (Nat.le_of_eq rfl) (hb hby d39_9) (fun _ _ => ⟨rfl, e0, (by decide : 0 + 0 ≤ _), (by decide : 0 + 0 ≤ _)⟩)
  dsimp only [Pt.U, Pt.locs, Pt.cells, Pt.slots] at X1 l1 y1 z1 st1 hQ1
  subst l1 y1 z1
  obtain ⟨r_1, rfl, Nq1, eq1, pq1_0⟩ := hQ1
  refine og T1 m 12 #[vR ab1, vI nw, vI 1, vI 0] [(.int r_1)] st1 ?_
  have N1 := Fr.app N0 Nq1
  have hj2 : ∀ (z2_0 : Int32), (z2_0 = (oc nw (0 : Int32) c1 (0 : Int32))) → OwnGoes p e below (fun o U' => ∃ v L, o = .returned v ∧ Q_cnt_1 Z ab1 kc nw c1 c2 c3 c4 h0 n0 v U'.heap L ∧ FrameEnd s o U' L (oR 1 0 0 14).cells (oR 1 0 0 14).slots) T1 (mkF m 18 #[vR ab1, vI nw, vI 1, vI z2_0] []) := by
    intro z2_0 hz2
    refine og T1 m 18 #[vR ab1, vI nw, vI 1, vI (oc nw (0 : Int32) c1 (0 : Int32))] [] (fun tgt kgo => castTop (by rw [hz2]) kgo) ?_
    refine og T1 m 70 #[vR ab1, vI nw, vI 1, vI (oc nw (0 : Int32) c1 (0 : Int32))] [(.int (oc nw (0 : Int32) c1 (0 : Int32)))] (fun tgt kgo => ?_) ?_
    · refine XS.iloadN X1.here hx rfl (hb hby d39_18) rfl ?_
      refine XS.iconst X1.here hx rfl (hb hby d39_19) ?_
      refine XS.icmpYes X1.here hx rfl (pc0 := 20) (pc' := 35) rfl (hb hby d39_20) rfl (flt (by decide : ¬ ((1 : Int32) < (1 : Int32)))).2.2.2 (by decide) (by decide) ?_
      show OwnG p e below T1 m 35 #[vR ab1, vI nw, vI 1, vI (oc nw (0 : Int32) c1 (0 : Int32))] [] tgt
      refine XS.iloadN X1.here hx rfl (hb hby d39_35) rfl ?_
      refine XS.iconst X1.here hx rfl (hb hby d39_36) ?_
      refine XS.icmpYes X1.here hx rfl (pc0 := 37) (pc' := 52) rfl (hb hby d39_37) rfl (flt (by decide : ¬ ((2 : Int32) < (1 : Int32)))).2.2.2 (by decide) (by decide) ?_
      show OwnG p e below T1 m 52 #[vR ab1, vI nw, vI 1, vI (oc nw (0 : Int32) c1 (0 : Int32))] [] tgt
      refine XS.iloadN X1.here hx rfl (hb hby d39_52) rfl ?_
      refine XS.iconst X1.here hx rfl (hb hby d39_53) ?_
      refine XS.icmpYes X1.here hx rfl (pc0 := 54) (pc' := 69) rfl (hb hby d39_54) rfl (flt (by decide : ¬ ((3 : Int32) < (1 : Int32)))).2.2.2 (by decide) (by decide) ?_
      show OwnG p e below T1 m 69 #[vR ab1, vI nw, vI 1, vI (oc nw (0 : Int32) c1 (0 : Int32))] [] tgt
      refine XS.iloadN X1.here hx rfl (hb hby d39_69) rfl ?_
      exact kgo
    refine own_leave X1 hlk (v := some (.int (oc nw (0 : Int32) c1 (0 : Int32)))) (fun h => by rw [Bd.returns] at h; cases h) (fun fs hr => retI X1 hx Bd.returns (hb hby d39_70) hr) (by decide) (by decide) ?_
    show Q_cnt_1 Z ab1 kc nw c1 c2 c3 c4 h0 n0 _ T1.heap _
    rw [eq1]
    exact ⟨rfl, N1, rfl⟩
  by_cases cc4 : r_1 = (0 : Int32)
  · skip
    refine og T1 m 18 #[vR ab1, vI nw, vI 1, vI 0] [] (fun tgt kgo => ?_) ?_
    · refine XS.ifYes X1.here hx rfl (pc0 := 12) (pc' := 18) rfl (hb hby d39_12) rfl ((if0 _ _).trans (teq cc4).1) (by decide) (by decide) ?_
      exact kgo
    exact hj2 (0 : Int32) (own_oc0 pq1_0 cc4)
  refine og T1 m 18 #[vR ab1, vI nw, vI 1, vI 1] [] (fun tgt kgo => ?_) ?_
  · refine XS.ifNo X1.here hx rfl (hb hby d39_12) rfl ((if0 _ _).trans (feq cc4).1) ?_
    refine XS.iinc X1.here hx rfl (hb hby d39_15) rfl (l' := #[vR ab1, vI nw, vI 1, vI 1]) rfl ?_
    exact kgo
  exact hj2 (1 : Int32) ((by decide : (1 : Int32) = (0 : Int32) + (1 : Int32)).trans (own_oc1 pq1_0 cc4))
theorem ef_cnt_2 (m : MethodId) (x0 : Addr) (x1 : Int32) : entryFrame m #[(.ref x0), (.int x1), (.int 2)] 4 = mkF m 0 #[vR x0, vI x1, vI 2, vU] [] := by
  first | (simp [entryFrame, mkF, argsToLocals, Value.category]; done) | rfl
def Q_cnt_2 (Z : State) (ab1 : Addr) (kc : ClassId) (nw : Int32) (c1 : Int32) (c2 : Int32) (c3 : Int32) (c4 : Int32) (h0 : Heap) (n0 : Nat) (v : Option Value) (h : Heap) (L : List Loc) : Prop := v = some (.int (oc nw (1 : Int32) c2 (oc nw (0 : Int32) c1 (0 : Int32)))) ∧ Fr n0 L ∧ h = h0
theorem d39_23 : decode method_4_code 23 = .ok (.aload_n 0, 1) := by decide +kernel
theorem d39_24 : decode method_4_code 24 = .ok (.iload_n 1, 1) := by decide +kernel
theorem d39_25 : decode method_4_code 25 = .ok (.iconst 1, 1) := by decide +kernel
theorem d39_26 : decode method_4_code 26 = .ok (.invokestatic 7, 3) := by decide +kernel
theorem d39_29 : decode method_4_code 29 = .ok (.ifCond .eq 6, 3) := by decide +kernel
theorem d39_32 : decode method_4_code 32 = .ok (.iinc 3 1, 3) := by decide +kernel
set_option maxRecDepth 65536 in
set_option maxHeartbeats 40000000 in
theorem rm_cnt_2 (l : Launch) (Z : State) (a0 : Array Value) (hw : ∀ d ∈ tables_1, d.before a0 Z = true) (ws : List Jvm.Cond) (wG1 : Int32) (wG3 : Value) (wG5 : Addr) (wK5 : ClassId) (cx : OwnCx Z a0 wG1 wG3 wG5 wK5) (hEL : EW Z a0 consts_1) (h0 : Heap) (n0 : Nat) (X00 : Old Z n0 h0) (ab1 : Addr) (kc : ClassId) (nw : Int32) (c1 : Int32) (c2 : Int32) (c3 : Int32) (c4 : Int32) (f0 : Arv Z h0 ab1 kc .char (4 : Int32) [(.int c1), (.int c2), (.int c3), (.int c4)] (.int 0)) :
    MetFree l mN40 (head1 (Jvm.Cond.code mN40 method_4_code 4 (some .int) :: ws) (oR 1 0 0 14)) (fun a U => a = #[(.ref ab1), (.int nw), (.int 2)] ∧ Z.Warmed39 U.vm ∧ U.heap = h0) (fun _ _ _ _ _ => True) (fun _ U o U' => ∃ v L, o = .returned v ∧ Q_cnt_2 Z ab1 kc nw c1 c2 c3 c4 h0 n0 v U'.heap L ∧ FrameEnd U o U' L (oR 1 0 0 14).cells (oR 1 0 0 14).slots) := by
  refine MetFree.of_bodySF (plainFor_of_name pn_43637772) hisR ?_
  intro p e s m args below meth c s₁ Bd hml0 hP hK
  obtain ⟨rfl, hZ, hh⟩ := hP
  obtain ⟨wO2, wP5, wO4, wrG3, hstr, wO5, wV5⟩ := id cx
  have hx := Bd.exec
  have hby := Bd.bytes
  have hlk := Bd.notSynchronized
  have hml : c.maxLocals = 4 := hml0
  have hown : s.vm.findClass "com/example/kindling/kindling/web/PathTemplateSegmentsPinLaw" = some m.cls := findClass_of_methodNamed Bd.named
  have hnm := (name_of_methodNamed Bd.named Bd.method).1
  have X0 : Stand p l e (oR 1 0 0 14) s m #[(.ref ab1), (.int nw), (.int 2)] below meth c s₁ [] 0 0 := Stand.of_body Bd
  have e0 : s₁.heap = h0 := by rw [← hh, Bd.state]; rfl
  have N0 := Fr.nil n0
  have Z0 : n0 ≤ h0.size := X00.1 ▸ X00.2.1
  have K0 : Keep h0 h0 ([] : List Addr) := Keep.refl _ _
  show OwnGoes p e below _ s₁ (entryFrame m _ _)
  refine og s₁ m 0 #[vR ab1, vI nw, vI 2, vU] [] (fun tgt kgo => castTop (ef_cnt_2 m ab1 nw) kgo) ?_
  refine og s₁ m 9 #[vR ab1, vI nw, vI 2, vI 0] [(.int 0), (.int nw), (.ref ab1)] (fun tgt kgo => ?_) ?_
  · refine XS.iconst X0.here hx rfl (hb hby d39_0) ?_
    refine XS.istoreN X0.here hx rfl (hb hby d39_1) rfl (l' := #[vR ab1, vI nw, vI 2, vI 0]) rfl ?_
    refine XS.iloadN X0.here hx rfl (hb hby d39_2) rfl ?_
    show OwnG p e below s₁ m 3 #[vR ab1, vI nw, vI 2, vI 0] [(.int 2)] tgt
    refine XS.ifNo X0.here hx rfl (hb hby d39_3) rfl ((if0 _ _).trans (tlt (by decide : (0 : Int32) < (2 : Int32))).2.2.2) ?_
    refine XS.aloadN X0.here hx rfl (hb hby d39_6) rfl rfl ?_
    refine XS.iloadN X0.here hx rfl (hb hby d39_7) rfl ?_
    show OwnG p e below s₁ m 8 #[vR ab1, vI nw, vI 2, vI 0] [(.int nw), (.ref ab1)] tgt
    refine XS.iconst X0.here hx rfl (hb hby d39_8) ?_
    exact kgo
  obtain ⟨_, _, ⟨T1, L1, k1, n1⟩, -, X1, ⟨Lc1, hQ1, l1, y1, z1⟩, st1⟩ := Jvm.LawKit.callS X0 hx (y := mN39) hown (mvT hZ (own_w hw 112 rfl)) (mvT hZ (own_w hw 113 rfl)) (mvT hZ (own_w hw 4 rfl)) (mvT hZ (own_w hw 114 rfl)) (by decide) (backOf (W := 0) (rm_slash_0 l Z a0 hw [] wG1 wG3 wG5 wK5 cx hEL h0 n0 X00 ab1 kc nw c1 c2 c3 c4 f0) hZ (own_w hw 114 rfl) (own_w hw 4 rfl) (by decide) (by decide)) (g := (mkF m 9 #[vR ab1, vI nw, vI 2, vI 0] [(.int 0), (.int nw), (.ref ab1)])) rfl (by rw [hml]; rfl) (argsL := [(.ref ab1), (.int nw), (.int 0)]) (rest := []) (lenOf pd_17795025 rfl) rfl (Nat.le_of_eq rfl) (hb hby d39_9) (fun _ _ => ⟨rfl, e0, (by decide : 0 + 0 ≤ _), (by decide : 0 + 0 ≤ _)⟩)
  dsimp only [Pt.U, Pt.locs, Pt.cells, Pt.slots] at X1 l1 y1 z1 st1 hQ1
  subst l1 y1 z1
  obtain ⟨r_1, rfl, Nq1, eq1, pq1_0⟩ := hQ1
  refine og T1 m 12 #[vR ab1, vI nw, vI 2, vI 0] [(.int r_1)] st1 ?_
  have N1 := Fr.app N0 Nq1
  have hj2 : ∀ (z2_0 : Int32), (z2_0 = (oc nw (0 : Int32) c1 (0 : Int32))) → OwnGoes p e below (fun o U' => ∃ v L, o = .returned v ∧ Q_cnt_2 Z ab1 kc nw c1 c2 c3 c4 h0 n0 v U'.heap L ∧ FrameEnd s o U' L (oR 1 0 0 14).cells (oR 1 0 0 14).slots) T1 (mkF m 18 #[vR ab1, vI nw, vI 2, vI z2_0] []) := by
    intro z2_0 hz2
    refine og T1 m 18 #[vR ab1, vI nw, vI 2, vI (oc nw (0 : Int32) c1 (0 : Int32))] [] (fun tgt kgo => castTop (by rw [hz2]) kgo) ?_
    refine og T1 m 26 #[vR ab1, vI nw, vI 2, vI (oc nw (0 : Int32) c1 (0 : Int32))] [(.int 1), (.int nw), (.ref ab1)] (fun tgt kgo => ?_) ?_
    · refine XS.iloadN X1.here hx rfl (hb hby d39_18) rfl ?_
      refine XS.iconst X1.here hx rfl (hb hby d39_19) ?_
      refine XS.icmpNo X1.here hx rfl (hb hby d39_20) rfl (tlt (by decide : (1 : Int32) < (2 : Int32))).2.2.2 ?_
      show OwnG p e below T1 m 23 #[vR ab1, vI nw, vI 2, vI (oc nw (0 : Int32) c1 (0 : Int32))] [] tgt
      refine XS.aloadN X1.here hx rfl (hb hby d39_23) rfl rfl ?_
      refine XS.iloadN X1.here hx rfl (hb hby d39_24) rfl ?_
      refine XS.iconst X1.here hx rfl (hb hby d39_25) ?_
      exact kgo
    obtain ⟨_, _, ⟨T3, L3, k3, n3⟩, -, X3, ⟨Lc3, hQ3, l3, y3, z3⟩, st3⟩ := Jvm.LawKit.callS X1 hx (y := mN39) hown (mvT hZ (own_w hw 112 rfl)) (mvT hZ (own_w hw 113 rfl)) (mvT hZ (own_w hw 4 rfl)) (mvT hZ (own_w hw 114 rfl)) (by decide) (backOf (W := 0) (rm_slash_1 l Z a0 hw [] wG1 wG3 wG5 wK5 cx hEL h0 n0 X00 ab1 kc nw c1 c2 c3 c4 f0) hZ (own_w hw 114 rfl) (own_w hw 4 rfl) (by decide) (by decide)) (g := (mkF m 26 #[vR ab1, vI nw, vI 2, vI (oc nw (0 : Int32) c1 (0 : Int32))] [(.int 1), (.int nw), (.ref ab1)])) rfl (by rw [hml]; rfl) (argsL := [(.ref ab1), (.int nw), (.int 1)]) (rest := []) (lenOf pd_17795025 rfl) rfl (Nat.le_of_eq rfl) (hb hby d39_26) (fun _ _ => ⟨rfl, eq1, (by decide : 0 + 0 ≤ _), (by decide : 0 + 0 ≤ _)⟩)
    dsimp only [Pt.U, Pt.locs, Pt.cells, Pt.slots] at X3 l3 y3 z3 st3 hQ3
    subst l3 y3 z3
    obtain ⟨r_3, rfl, Nq3, eq3, pq3_0⟩ := hQ3
    refine og T3 m 29 #[vR ab1, vI nw, vI 2, vI (oc nw (0 : Int32) c1 (0 : Int32))] [(.int r_3)] st3 ?_
    have N3 := Fr.app N1 Nq3
    have hj4 : ∀ (z4_0 : Int32), (z4_0 = (oc nw (1 : Int32) c2 (oc nw (0 : Int32) c1 (0 : Int32)))) → OwnGoes p e below (fun o U' => ∃ v L, o = .returned v ∧ Q_cnt_2 Z ab1 kc nw c1 c2 c3 c4 h0 n0 v U'.heap L ∧ FrameEnd s o U' L (oR 1 0 0 14).cells (oR 1 0 0 14).slots) T3 (mkF m 35 #[vR ab1, vI nw, vI 2, vI z4_0] []) := by
      intro z4_0 hz4
      refine og T3 m 35 #[vR ab1, vI nw, vI 2, vI (oc nw (1 : Int32) c2 (oc nw (0 : Int32) c1 (0 : Int32)))] [] (fun tgt kgo => castTop (by rw [hz4]) kgo) ?_
      refine og T3 m 70 #[vR ab1, vI nw, vI 2, vI (oc nw (1 : Int32) c2 (oc nw (0 : Int32) c1 (0 : Int32)))] [(.int (oc nw (1 : Int32) c2 (oc nw (0 : Int32) c1 (0 : Int32))))] (fun tgt kgo => ?_) ?_
      · refine XS.iloadN X3.here hx rfl (hb hby d39_35) rfl ?_
        refine XS.iconst X3.here hx rfl (hb hby d39_36) ?_
        refine XS.icmpYes X3.here hx rfl (pc0 := 37) (pc' := 52) rfl (hb hby d39_37) rfl (flt (by decide : ¬ ((2 : Int32) < (2 : Int32)))).2.2.2 (by decide) (by decide) ?_
        show OwnG p e below T3 m 52 #[vR ab1, vI nw, vI 2, vI (oc nw (1 : Int32) c2 (oc nw (0 : Int32) c1 (0 : Int32)))] [] tgt
        refine XS.iloadN X3.here hx rfl (hb hby d39_52) rfl ?_
        refine XS.iconst X3.here hx rfl (hb hby d39_53) ?_
        refine XS.icmpYes X3.here hx rfl (pc0 := 54) (pc' := 69) rfl (hb hby d39_54) rfl (flt (by decide : ¬ ((3 : Int32) < (2 : Int32)))).2.2.2 (by decide) (by decide) ?_
        show OwnG p e below T3 m 69 #[vR ab1, vI nw, vI 2, vI (oc nw (1 : Int32) c2 (oc nw (0 : Int32) c1 (0 : Int32)))] [] tgt
        refine XS.iloadN X3.here hx rfl (hb hby d39_69) rfl ?_
        exact kgo
      refine own_leave X3 hlk (v := some (.int (oc nw (1 : Int32) c2 (oc nw (0 : Int32) c1 (0 : Int32))))) (fun h => by rw [Bd.returns] at h; cases h) (fun fs hr => retI X3 hx Bd.returns (hb hby d39_70) hr) (by decide) (by decide) ?_
      show Q_cnt_2 Z ab1 kc nw c1 c2 c3 c4 h0 n0 _ T3.heap _
      rw [eq3]
      exact ⟨rfl, N3, rfl⟩
    by_cases cc6 : r_3 = (0 : Int32)
    · skip
      refine og T3 m 35 #[vR ab1, vI nw, vI 2, vI (oc nw (0 : Int32) c1 (0 : Int32))] [] (fun tgt kgo => ?_) ?_
      · refine XS.ifYes X3.here hx rfl (pc0 := 29) (pc' := 35) rfl (hb hby d39_29) rfl ((if0 _ _).trans (teq cc6).1) (by decide) (by decide) ?_
        exact kgo
      exact hj4 (oc nw (0 : Int32) c1 (0 : Int32)) (own_oc0 pq3_0 cc6)
    refine og T3 m 35 #[vR ab1, vI nw, vI 2, vI ((oc nw (0 : Int32) c1 (0 : Int32)) + (1 : Int32))] [] (fun tgt kgo => ?_) ?_
    · refine XS.ifNo X3.here hx rfl (hb hby d39_29) rfl ((if0 _ _).trans (feq cc6).1) ?_
      refine XS.iinc X3.here hx rfl (hb hby d39_32) rfl (l' := #[vR ab1, vI nw, vI 2, vI ((oc nw (0 : Int32) c1 (0 : Int32)) + (1 : Int32))]) rfl ?_
      exact kgo
    exact hj4 ((oc nw (0 : Int32) c1 (0 : Int32)) + (1 : Int32)) (own_oc1 pq3_0 cc6)
  by_cases cc7 : r_1 = (0 : Int32)
  · skip
    refine og T1 m 18 #[vR ab1, vI nw, vI 2, vI 0] [] (fun tgt kgo => ?_) ?_
    · refine XS.ifYes X1.here hx rfl (pc0 := 12) (pc' := 18) rfl (hb hby d39_12) rfl ((if0 _ _).trans (teq cc7).1) (by decide) (by decide) ?_
      exact kgo
    exact hj2 (0 : Int32) (own_oc0 pq1_0 cc7)
  refine og T1 m 18 #[vR ab1, vI nw, vI 2, vI 1] [] (fun tgt kgo => ?_) ?_
  · refine XS.ifNo X1.here hx rfl (hb hby d39_12) rfl ((if0 _ _).trans (feq cc7).1) ?_
    refine XS.iinc X1.here hx rfl (hb hby d39_15) rfl (l' := #[vR ab1, vI nw, vI 2, vI 1]) rfl ?_
    exact kgo
  exact hj2 (1 : Int32) ((by decide : (1 : Int32) = (0 : Int32) + (1 : Int32)).trans (own_oc1 pq1_0 cc7))
theorem ef_cnt_3 (m : MethodId) (x0 : Addr) (x1 : Int32) : entryFrame m #[(.ref x0), (.int x1), (.int 3)] 4 = mkF m 0 #[vR x0, vI x1, vI 3, vU] [] := by
  first | (simp [entryFrame, mkF, argsToLocals, Value.category]; done) | rfl
def Q_cnt_3 (Z : State) (ab1 : Addr) (kc : ClassId) (nw : Int32) (c1 : Int32) (c2 : Int32) (c3 : Int32) (c4 : Int32) (h0 : Heap) (n0 : Nat) (v : Option Value) (h : Heap) (L : List Loc) : Prop := v = some (.int (oc nw (2 : Int32) c3 (oc nw (1 : Int32) c2 (oc nw (0 : Int32) c1 (0 : Int32))))) ∧ Fr n0 L ∧ h = h0
theorem d39_40 : decode method_4_code 40 = .ok (.aload_n 0, 1) := by decide +kernel
theorem d39_41 : decode method_4_code 41 = .ok (.iload_n 1, 1) := by decide +kernel
theorem d39_42 : decode method_4_code 42 = .ok (.iconst 2, 1) := by decide +kernel
theorem d39_43 : decode method_4_code 43 = .ok (.invokestatic 7, 3) := by decide +kernel
theorem d39_46 : decode method_4_code 46 = .ok (.ifCond .eq 6, 3) := by decide +kernel
theorem d39_49 : decode method_4_code 49 = .ok (.iinc 3 1, 3) := by decide +kernel
set_option maxRecDepth 65536 in
set_option maxHeartbeats 40000000 in
theorem rm_cnt_3 (l : Launch) (Z : State) (a0 : Array Value) (hw : ∀ d ∈ tables_1, d.before a0 Z = true) (ws : List Jvm.Cond) (wG1 : Int32) (wG3 : Value) (wG5 : Addr) (wK5 : ClassId) (cx : OwnCx Z a0 wG1 wG3 wG5 wK5) (hEL : EW Z a0 consts_1) (h0 : Heap) (n0 : Nat) (X00 : Old Z n0 h0) (ab1 : Addr) (kc : ClassId) (nw : Int32) (c1 : Int32) (c2 : Int32) (c3 : Int32) (c4 : Int32) (f0 : Arv Z h0 ab1 kc .char (4 : Int32) [(.int c1), (.int c2), (.int c3), (.int c4)] (.int 0)) :
    MetFree l mN40 (head1 (Jvm.Cond.code mN40 method_4_code 4 (some .int) :: ws) (oR 1 0 0 14)) (fun a U => a = #[(.ref ab1), (.int nw), (.int 3)] ∧ Z.Warmed39 U.vm ∧ U.heap = h0) (fun _ _ _ _ _ => True) (fun _ U o U' => ∃ v L, o = .returned v ∧ Q_cnt_3 Z ab1 kc nw c1 c2 c3 c4 h0 n0 v U'.heap L ∧ FrameEnd U o U' L (oR 1 0 0 14).cells (oR 1 0 0 14).slots) := by
  refine MetFree.of_bodySF (plainFor_of_name pn_43637772) hisR ?_
  intro p e s m args below meth c s₁ Bd hml0 hP hK
  obtain ⟨rfl, hZ, hh⟩ := hP
  obtain ⟨wO2, wP5, wO4, wrG3, hstr, wO5, wV5⟩ := id cx
  have hx := Bd.exec
  have hby := Bd.bytes
  have hlk := Bd.notSynchronized
  have hml : c.maxLocals = 4 := hml0
  have hown : s.vm.findClass "com/example/kindling/kindling/web/PathTemplateSegmentsPinLaw" = some m.cls := findClass_of_methodNamed Bd.named
  have hnm := (name_of_methodNamed Bd.named Bd.method).1
  have X0 : Stand p l e (oR 1 0 0 14) s m #[(.ref ab1), (.int nw), (.int 3)] below meth c s₁ [] 0 0 := Stand.of_body Bd
  have e0 : s₁.heap = h0 := by rw [← hh, Bd.state]; rfl
  have N0 := Fr.nil n0
  have Z0 : n0 ≤ h0.size := X00.1 ▸ X00.2.1
  have K0 : Keep h0 h0 ([] : List Addr) := Keep.refl _ _
  show OwnGoes p e below _ s₁ (entryFrame m _ _)
  refine og s₁ m 0 #[vR ab1, vI nw, vI 3, vU] [] (fun tgt kgo => castTop (ef_cnt_3 m ab1 nw) kgo) ?_
  refine og s₁ m 9 #[vR ab1, vI nw, vI 3, vI 0] [(.int 0), (.int nw), (.ref ab1)] (fun tgt kgo => ?_) ?_
  · refine XS.iconst X0.here hx rfl (hb hby d39_0) ?_
    refine XS.istoreN X0.here hx rfl (hb hby d39_1) rfl (l' := #[vR ab1, vI nw, vI 3, vI 0]) rfl ?_
    refine XS.iloadN X0.here hx rfl (hb hby d39_2) rfl ?_
    show OwnG p e below s₁ m 3 #[vR ab1, vI nw, vI 3, vI 0] [(.int 3)] tgt
    refine XS.ifNo X0.here hx rfl (hb hby d39_3) rfl ((if0 _ _).trans (tlt (by decide : (0 : Int32) < (3 : Int32))).2.2.2) ?_
    refine XS.aloadN X0.here hx rfl (hb hby d39_6) rfl rfl ?_
    refine XS.iloadN X0.here hx rfl (hb hby d39_7) rfl ?_
    show OwnG p e below s₁ m 8 #[vR ab1, vI nw, vI 3, vI 0] [(.int nw), (.ref ab1)] tgt
    refine XS.iconst X0.here hx rfl (hb hby d39_8) ?_
    exact kgo
  obtain ⟨_, _, ⟨T1, L1, k1, n1⟩, -, X1, ⟨Lc1, hQ1, l1, y1, z1⟩, st1⟩ := Jvm.LawKit.callS X0 hx (y := mN39) hown (mvT hZ (own_w hw 112 rfl)) (mvT hZ (own_w hw 113 rfl)) (mvT hZ (own_w hw 4 rfl)) (mvT hZ (own_w hw 114 rfl)) (by decide) (backOf (W := 0) (rm_slash_0 l Z a0 hw [] wG1 wG3 wG5 wK5 cx hEL h0 n0 X00 ab1 kc nw c1 c2 c3 c4 f0) hZ (own_w hw 114 rfl) (own_w hw 4 rfl) (by decide) (by decide)) (g := (mkF m 9 #[vR ab1, vI nw, vI 3, vI 0] [(.int 0), (.int nw), (.ref ab1)])) rfl (by rw [hml]; rfl) (argsL := [(.ref ab1), (.int nw), (.int 0)]) (rest := []) (lenOf pd_17795025 rfl) rfl (Nat.le_of_eq rfl) (hb hby d39_9) (fun _ _ => ⟨rfl, e0, (by decide : 0 + 0 ≤ _), (by decide : 0 + 0 ≤ _)⟩)
  dsimp only [Pt.U, Pt.locs, Pt.cells, Pt.slots] at X1 l1 y1 z1 st1 hQ1
  subst l1 y1 z1
  obtain ⟨r_1, rfl, Nq1, eq1, pq1_0⟩ := hQ1
  refine og T1 m 12 #[vR ab1, vI nw, vI 3, vI 0] [(.int r_1)] st1 ?_
  have N1 := Fr.app N0 Nq1
  have hj2 : ∀ (z2_0 : Int32), (z2_0 = (oc nw (0 : Int32) c1 (0 : Int32))) → OwnGoes p e below (fun o U' => ∃ v L, o = .returned v ∧ Q_cnt_3 Z ab1 kc nw c1 c2 c3 c4 h0 n0 v U'.heap L ∧ FrameEnd s o U' L (oR 1 0 0 14).cells (oR 1 0 0 14).slots) T1 (mkF m 18 #[vR ab1, vI nw, vI 3, vI z2_0] []) := by
    intro z2_0 hz2
    refine og T1 m 18 #[vR ab1, vI nw, vI 3, vI (oc nw (0 : Int32) c1 (0 : Int32))] [] (fun tgt kgo => castTop (by rw [hz2]) kgo) ?_
    refine og T1 m 26 #[vR ab1, vI nw, vI 3, vI (oc nw (0 : Int32) c1 (0 : Int32))] [(.int 1), (.int nw), (.ref ab1)] (fun tgt kgo => ?_) ?_
    · refine XS.iloadN X1.here hx rfl (hb hby d39_18) rfl ?_
      refine XS.iconst X1.here hx rfl (hb hby d39_19) ?_
      refine XS.icmpNo X1.here hx rfl (hb hby d39_20) rfl (tlt (by decide : (1 : Int32) < (3 : Int32))).2.2.2 ?_
      show OwnG p e below T1 m 23 #[vR ab1, vI nw, vI 3, vI (oc nw (0 : Int32) c1 (0 : Int32))] [] tgt
      refine XS.aloadN X1.here hx rfl (hb hby d39_23) rfl rfl ?_
      refine XS.iloadN X1.here hx rfl (hb hby d39_24) rfl ?_
      refine XS.iconst X1.here hx rfl (hb hby d39_25) ?_
      exact kgo
    obtain ⟨_, _, ⟨T3, L3, k3, n3⟩, -, X3, ⟨Lc3, hQ3, l3, y3, z3⟩, st3⟩ := Jvm.LawKit.callS X1 hx (y := mN39) hown (mvT hZ (own_w hw 112 rfl)) (mvT hZ (own_w hw 113 rfl)) (mvT hZ (own_w hw 4 rfl)) (mvT hZ (own_w hw 114 rfl)) (by decide) (backOf (W := 0) (rm_slash_1 l Z a0 hw [] wG1 wG3 wG5 wK5 cx hEL h0 n0 X00 ab1 kc nw c1 c2 c3 c4 f0) hZ (own_w hw 114 rfl) (own_w hw 4 rfl) (by decide) (by decide)) (g := (mkF m 26 #[vR ab1, vI nw, vI 3, vI (oc nw (0 : Int32) c1 (0 : Int32))] [(.int 1), (.int nw), (.ref ab1)])) rfl (by rw [hml]; rfl) (argsL := [(.ref ab1), (.int nw), (.int 1)]) (rest := []) (lenOf pd_17795025 rfl) rfl (Nat.le_of_eq rfl) (hb hby d39_26) (fun _ _ => ⟨rfl, eq1, (by decide : 0 + 0 ≤ _), (by decide : 0 + 0 ≤ _)⟩)
    dsimp only [Pt.U, Pt.locs, Pt.cells, Pt.slots] at X3 l3 y3 z3 st3 hQ3
    subst l3 y3 z3
    obtain ⟨r_3, rfl, Nq3, eq3, pq3_0⟩ := hQ3
    refine og T3 m 29 #[vR ab1, vI nw, vI 3, vI (oc nw (0 : Int32) c1 (0 : Int32))] [(.int r_3)] st3 ?_
    have N3 := Fr.app N1 Nq3
    have hj4 : ∀ (z4_0 : Int32), (z4_0 = (oc nw (1 : Int32) c2 (oc nw (0 : Int32) c1 (0 : Int32)))) → OwnGoes p e below (fun o U' => ∃ v L, o = .returned v ∧ Q_cnt_3 Z ab1 kc nw c1 c2 c3 c4 h0 n0 v U'.heap L ∧ FrameEnd s o U' L (oR 1 0 0 14).cells (oR 1 0 0 14).slots) T3 (mkF m 35 #[vR ab1, vI nw, vI 3, vI z4_0] []) := by
      intro z4_0 hz4
      refine og T3 m 35 #[vR ab1, vI nw, vI 3, vI (oc nw (1 : Int32) c2 (oc nw (0 : Int32) c1 (0 : Int32)))] [] (fun tgt kgo => castTop (by rw [hz4]) kgo) ?_
      refine og T3 m 43 #[vR ab1, vI nw, vI 3, vI (oc nw (1 : Int32) c2 (oc nw (0 : Int32) c1 (0 : Int32)))] [(.int 2), (.int nw), (.ref ab1)] (fun tgt kgo => ?_) ?_
      · refine XS.iloadN X3.here hx rfl (hb hby d39_35) rfl ?_
        refine XS.iconst X3.here hx rfl (hb hby d39_36) ?_
        refine XS.icmpNo X3.here hx rfl (hb hby d39_37) rfl (tlt (by decide : (2 : Int32) < (3 : Int32))).2.2.2 ?_
        show OwnG p e below T3 m 40 #[vR ab1, vI nw, vI 3, vI (oc nw (1 : Int32) c2 (oc nw (0 : Int32) c1 (0 : Int32)))] [] tgt
        refine XS.aloadN X3.here hx rfl (hb hby d39_40) rfl rfl ?_
        refine XS.iloadN X3.here hx rfl (hb hby d39_41) rfl ?_
        refine XS.iconst X3.here hx rfl (hb hby d39_42) ?_
        exact kgo
      obtain ⟨_, _, ⟨T5, L5, k5, n5⟩, -, X5, ⟨Lc5, hQ5, l5, y5, z5⟩, st5⟩ := Jvm.LawKit.callS X3 hx (y := mN39) hown (mvT hZ (own_w hw 112 rfl)) (mvT hZ (own_w hw 113 rfl)) (mvT hZ (own_w hw 4 rfl)) (mvT hZ (own_w hw 114 rfl)) (by decide) (backOf (W := 0) (rm_slash_2 l Z a0 hw [] wG1 wG3 wG5 wK5 cx hEL h0 n0 X00 ab1 kc nw c1 c2 c3 c4 f0) hZ (own_w hw 114 rfl) (own_w hw 4 rfl) (by decide) (by decide)) (g := (mkF m 43 #[vR ab1, vI nw, vI 3, vI (oc nw (1 : Int32) c2 (oc nw (0 : Int32) c1 (0 : Int32)))] [(.int 2), (.int nw), (.ref ab1)])) rfl (by rw [hml]; rfl) (argsL := [(.ref ab1), (.int nw), (.int 2)]) (rest := []) (lenOf pd_17795025 rfl) rfl (Nat.le_of_eq rfl) (hb hby d39_43) (fun _ _ => ⟨rfl, eq3, (by decide : 0 + 0 ≤ _), (by decide : 0 + 0 ≤ _)⟩)
      dsimp only [Pt.U, Pt.locs, Pt.cells, Pt.slots] at X5 l5 y5 z5 st5 hQ5
      subst l5 y5 z5
      obtain ⟨r_5, rfl, Nq5, eq5, pq5_0⟩ := hQ5
      refine og T5 m 46 #[vR ab1, vI nw, vI 3, vI (oc nw (1 : Int32) c2 (oc nw (0 : Int32) c1 (0 : Int32)))] [(.int r_5)] st5 ?_
      have N5 := Fr.app N3 Nq5
      have hj6 : ∀ (z6_0 : Int32), (z6_0 = (oc nw (2 : Int32) c3 (oc nw (1 : Int32) c2 (oc nw (0 : Int32) c1 (0 : Int32))))) → OwnGoes p e below (fun o U' => ∃ v L, o = .returned v ∧ Q_cnt_3 Z ab1 kc nw c1 c2 c3 c4 h0 n0 v U'.heap L ∧ FrameEnd s o U' L (oR 1 0 0 14).cells (oR 1 0 0 14).slots) T5 (mkF m 52 #[vR ab1, vI nw, vI 3, vI z6_0] []) := by
        intro z6_0 hz6
        refine og T5 m 52 #[vR ab1, vI nw, vI 3, vI (oc nw (2 : Int32) c3 (oc nw (1 : Int32) c2 (oc nw (0 : Int32) c1 (0 : Int32))))] [] (fun tgt kgo => castTop (by rw [hz6]) kgo) ?_
        refine og T5 m 70 #[vR ab1, vI nw, vI 3, vI (oc nw (2 : Int32) c3 (oc nw (1 : Int32) c2 (oc nw (0 : Int32) c1 (0 : Int32))))] [(.int (oc nw (2 : Int32) c3 (oc nw (1 : Int32) c2 (oc nw (0 : Int32) c1 (0 : Int32)))))] (fun tgt kgo => ?_) ?_
        · refine XS.iloadN X5.here hx rfl (hb hby d39_52) rfl ?_
          refine XS.iconst X5.here hx rfl (hb hby d39_53) ?_
          refine XS.icmpYes X5.here hx rfl (pc0 := 54) (pc' := 69) rfl (hb hby d39_54) rfl (flt (by decide : ¬ ((3 : Int32) < (3 : Int32)))).2.2.2 (by decide) (by decide) ?_
          show OwnG p e below T5 m 69 #[vR ab1, vI nw, vI 3, vI (oc nw (2 : Int32) c3 (oc nw (1 : Int32) c2 (oc nw (0 : Int32) c1 (0 : Int32))))] [] tgt
          refine XS.iloadN X5.here hx rfl (hb hby d39_69) rfl ?_
          exact kgo
        refine own_leave X5 hlk (v := some (.int (oc nw (2 : Int32) c3 (oc nw (1 : Int32) c2 (oc nw (0 : Int32) c1 (0 : Int32)))))) (fun h => by rw [Bd.returns] at h; cases h) (fun fs hr => retI X5 hx Bd.returns (hb hby d39_70) hr) (by decide) (by decide) ?_
        show Q_cnt_3 Z ab1 kc nw c1 c2 c3 c4 h0 n0 _ T5.heap _
        rw [eq5]
        exact ⟨rfl, N5, rfl⟩
      by_cases cc8 : r_5 = (0 : Int32)
      · skip
        refine og T5 m 52 #[vR ab1, vI nw, vI 3, vI (oc nw (1 : Int32) c2 (oc nw (0 : Int32) c1 (0 : Int32)))] [] (fun tgt kgo => ?_) ?_
        · refine XS.ifYes X5.here hx rfl (pc0 := 46) (pc' := 52) rfl (hb hby d39_46) rfl ((if0 _ _).trans (teq cc8).1) (by decide) (by decide) ?_
          exact kgo
        exact hj6 (oc nw (1 : Int32) c2 (oc nw (0 : Int32) c1 (0 : Int32))) (own_oc0 pq5_0 cc8)
      refine og T5 m 52 #[vR ab1, vI nw, vI 3, vI ((oc nw (1 : Int32) c2 (oc nw (0 : Int32) c1 (0 : Int32))) + (1 : Int32))] [] (fun tgt kgo => ?_) ?_
      · refine XS.ifNo X5.here hx rfl (hb hby d39_46) rfl ((if0 _ _).trans (feq cc8).1) ?_
        refine XS.iinc X5.here hx rfl (hb hby d39_49) rfl (l' := #[vR ab1, vI nw, vI 3, vI ((oc nw (1 : Int32) c2 (oc nw (0 : Int32) c1 (0 : Int32))) + (1 : Int32))]) rfl ?_
        exact kgo
      exact hj6 ((oc nw (1 : Int32) c2 (oc nw (0 : Int32) c1 (0 : Int32))) + (1 : Int32)) (own_oc1 pq5_0 cc8)
    by_cases cc9 : r_3 = (0 : Int32)
    · skip
      refine og T3 m 35 #[vR ab1, vI nw, vI 3, vI (oc nw (0 : Int32) c1 (0 : Int32))] [] (fun tgt kgo => ?_) ?_
      · refine XS.ifYes X3.here hx rfl (pc0 := 29) (pc' := 35) rfl (hb hby d39_29) rfl ((if0 _ _).trans (teq cc9).1) (by decide) (by decide) ?_
        exact kgo
      exact hj4 (oc nw (0 : Int32) c1 (0 : Int32)) (own_oc0 pq3_0 cc9)
    refine og T3 m 35 #[vR ab1, vI nw, vI 3, vI ((oc nw (0 : Int32) c1 (0 : Int32)) + (1 : Int32))] [] (fun tgt kgo => ?_) ?_
    · refine XS.ifNo X3.here hx rfl (hb hby d39_29) rfl ((if0 _ _).trans (feq cc9).1) ?_
      refine XS.iinc X3.here hx rfl (hb hby d39_32) rfl (l' := #[vR ab1, vI nw, vI 3, vI ((oc nw (0 : Int32) c1 (0 : Int32)) + (1 : Int32))]) rfl ?_
      exact kgo
    exact hj4 ((oc nw (0 : Int32) c1 (0 : Int32)) + (1 : Int32)) (own_oc1 pq3_0 cc9)
  by_cases cc10 : r_1 = (0 : Int32)
  · skip
    refine og T1 m 18 #[vR ab1, vI nw, vI 3, vI 0] [] (fun tgt kgo => ?_) ?_
    · refine XS.ifYes X1.here hx rfl (pc0 := 12) (pc' := 18) rfl (hb hby d39_12) rfl ((if0 _ _).trans (teq cc10).1) (by decide) (by decide) ?_
      exact kgo
    exact hj2 (0 : Int32) (own_oc0 pq1_0 cc10)
  refine og T1 m 18 #[vR ab1, vI nw, vI 3, vI 1] [] (fun tgt kgo => ?_) ?_
  · refine XS.ifNo X1.here hx rfl (hb hby d39_12) rfl ((if0 _ _).trans (feq cc10).1) ?_
    refine XS.iinc X1.here hx rfl (hb hby d39_15) rfl (l' := #[vR ab1, vI nw, vI 3, vI 1]) rfl ?_
    exact kgo
  exact hj2 (1 : Int32) ((by decide : (1 : Int32) = (0 : Int32) + (1 : Int32)).trans (own_oc1 pq1_0 cc10))
theorem ef_cnt_4 (m : MethodId) (x0 : Addr) (x1 : Int32) : entryFrame m #[(.ref x0), (.int x1), (.int 4)] 4 = mkF m 0 #[vR x0, vI x1, vI 4, vU] [] := by
  first | (simp [entryFrame, mkF, argsToLocals, Value.category]; done) | rfl
def Q_cnt_4 (Z : State) (ab1 : Addr) (kc : ClassId) (nw : Int32) (c1 : Int32) (c2 : Int32) (c3 : Int32) (c4 : Int32) (h0 : Heap) (n0 : Nat) (v : Option Value) (h : Heap) (L : List Loc) : Prop := v = some (.int (oc nw (3 : Int32) c4 (oc nw (2 : Int32) c3 (oc nw (1 : Int32) c2 (oc nw (0 : Int32) c1 (0 : Int32)))))) ∧ Fr n0 L ∧ h = h0
theorem d39_57 : decode method_4_code 57 = .ok (.aload_n 0, 1) := by decide +kernel
theorem d39_58 : decode method_4_code 58 = .ok (.iload_n 1, 1) := by decide +kernel
theorem d39_59 : decode method_4_code 59 = .ok (.iconst 3, 1) := by decide +kernel
theorem d39_60 : decode method_4_code 60 = .ok (.invokestatic 7, 3) := by decide +kernel
theorem d39_63 : decode method_4_code 63 = .ok (.ifCond .eq 6, 3) := by decide +kernel
theorem d39_66 : decode method_4_code 66 = .ok (.iinc 3 1, 3) := by decide +kernel
set_option maxRecDepth 65536 in
set_option maxHeartbeats 40000000 in
theorem rm_cnt_4 (l : Launch) (Z : State) (a0 : Array Value) (hw : ∀ d ∈ tables_1, d.before a0 Z = true) (ws : List Jvm.Cond) (wG1 : Int32) (wG3 : Value) (wG5 : Addr) (wK5 : ClassId) (cx : OwnCx Z a0 wG1 wG3 wG5 wK5) (hEL : EW Z a0 consts_1) (h0 : Heap) (n0 : Nat) (X00 : Old Z n0 h0) (ab1 : Addr) (kc : ClassId) (nw : Int32) (c1 : Int32) (c2 : Int32) (c3 : Int32) (c4 : Int32) (f0 : Arv Z h0 ab1 kc .char (4 : Int32) [(.int c1), (.int c2), (.int c3), (.int c4)] (.int 0)) :
    MetFree l mN40 (head1 (Jvm.Cond.code mN40 method_4_code 4 (some .int) :: ws) (oR 1 0 0 14)) (fun a U => a = #[(.ref ab1), (.int nw), (.int 4)] ∧ Z.Warmed39 U.vm ∧ U.heap = h0) (fun _ _ _ _ _ => True) (fun _ U o U' => ∃ v L, o = .returned v ∧ Q_cnt_4 Z ab1 kc nw c1 c2 c3 c4 h0 n0 v U'.heap L ∧ FrameEnd U o U' L (oR 1 0 0 14).cells (oR 1 0 0 14).slots) := by
  refine MetFree.of_bodySF (plainFor_of_name pn_43637772) hisR ?_
  intro p e s m args below meth c s₁ Bd hml0 hP hK
  obtain ⟨rfl, hZ, hh⟩ := hP
  obtain ⟨wO2, wP5, wO4, wrG3, hstr, wO5, wV5⟩ := id cx
  have hx := Bd.exec
  have hby := Bd.bytes
  have hlk := Bd.notSynchronized
  have hml : c.maxLocals = 4 := hml0
  have hown : s.vm.findClass "com/example/kindling/kindling/web/PathTemplateSegmentsPinLaw" = some m.cls := findClass_of_methodNamed Bd.named
  have hnm := (name_of_methodNamed Bd.named Bd.method).1
  have X0 : Stand p l e (oR 1 0 0 14) s m #[(.ref ab1), (.int nw), (.int 4)] below meth c s₁ [] 0 0 := Stand.of_body Bd
  have e0 : s₁.heap = h0 := by rw [← hh, Bd.state]; rfl
  have N0 := Fr.nil n0
  have Z0 : n0 ≤ h0.size := X00.1 ▸ X00.2.1
  have K0 : Keep h0 h0 ([] : List Addr) := Keep.refl _ _
  show OwnGoes p e below _ s₁ (entryFrame m _ _)
  refine og s₁ m 0 #[vR ab1, vI nw, vI 4, vU] [] (fun tgt kgo => castTop (ef_cnt_4 m ab1 nw) kgo) ?_
  refine og s₁ m 9 #[vR ab1, vI nw, vI 4, vI 0] [(.int 0), (.int nw), (.ref ab1)] (fun tgt kgo => ?_) ?_
  · refine XS.iconst X0.here hx rfl (hb hby d39_0) ?_
    refine XS.istoreN X0.here hx rfl (hb hby d39_1) rfl (l' := #[vR ab1, vI nw, vI 4, vI 0]) rfl ?_
    refine XS.iloadN X0.here hx rfl (hb hby d39_2) rfl ?_
    show OwnG p e below s₁ m 3 #[vR ab1, vI nw, vI 4, vI 0] [(.int 4)] tgt
    refine XS.ifNo X0.here hx rfl (hb hby d39_3) rfl ((if0 _ _).trans (tlt (by decide : (0 : Int32) < (4 : Int32))).2.2.2) ?_
    refine XS.aloadN X0.here hx rfl (hb hby d39_6) rfl rfl ?_
    refine XS.iloadN X0.here hx rfl (hb hby d39_7) rfl ?_
    show OwnG p e below s₁ m 8 #[vR ab1, vI nw, vI 4, vI 0] [(.int nw), (.ref ab1)] tgt
    refine XS.iconst X0.here hx rfl (hb hby d39_8) ?_
    exact kgo
  obtain ⟨_, _, ⟨T1, L1, k1, n1⟩, -, X1, ⟨Lc1, hQ1, l1, y1, z1⟩, st1⟩ := Jvm.LawKit.callS X0 hx (y := mN39) hown (mvT hZ (own_w hw 112 rfl)) (mvT hZ (own_w hw 113 rfl)) (mvT hZ (own_w hw 4 rfl)) (mvT hZ (own_w hw 114 rfl)) (by decide) (backOf (W := 0) (rm_slash_0 l Z a0 hw [] wG1 wG3 wG5 wK5 cx hEL h0 n0 X00 ab1 kc nw c1 c2 c3 c4 f0) hZ (own_w hw 114 rfl) (own_w hw 4 rfl) (by decide) (by decide)) (g := (mkF m 9 #[vR ab1, vI nw, vI 4, vI 0] [(.int 0), (.int nw), (.ref ab1)])) rfl (by rw [hml]; rfl) (argsL := [(.ref ab1), (.int nw), (.int 0)]) (rest := []) (lenOf pd_17795025 rfl) rfl (Nat.le_of_eq rfl) (hb hby d39_9) (fun _ _ => ⟨rfl, e0, (by decide : 0 + 0 ≤ _), (by decide : 0 + 0 ≤ _)⟩)
  dsimp only [Pt.U, Pt.locs, Pt.cells, Pt.slots] at X1 l1 y1 z1 st1 hQ1
  subst l1 y1 z1
  obtain ⟨r_1, rfl, Nq1, eq1, pq1_0⟩ := hQ1
  refine og T1 m 12 #[vR ab1, vI nw, vI 4, vI 0] [(.int r_1)] st1 ?_
  have N1 := Fr.app N0 Nq1
  have hj2 : ∀ (z2_0 : Int32), (z2_0 = (oc nw (0 : Int32) c1 (0 : Int32))) → OwnGoes p e below (fun o U' => ∃ v L, o = .returned v ∧ Q_cnt_4 Z ab1 kc nw c1 c2 c3 c4 h0 n0 v U'.heap L ∧ FrameEnd s o U' L (oR 1 0 0 14).cells (oR 1 0 0 14).slots) T1 (mkF m 18 #[vR ab1, vI nw, vI 4, vI z2_0] []) := by
    intro z2_0 hz2
    refine og T1 m 18 #[vR ab1, vI nw, vI 4, vI (oc nw (0 : Int32) c1 (0 : Int32))] [] (fun tgt kgo => castTop (by rw [hz2]) kgo) ?_
    refine og T1 m 26 #[vR ab1, vI nw, vI 4, vI (oc nw (0 : Int32) c1 (0 : Int32))] [(.int 1), (.int nw), (.ref ab1)] (fun tgt kgo => ?_) ?_
    · refine XS.iloadN X1.here hx rfl (hb hby d39_18) rfl ?_
      refine XS.iconst X1.here hx rfl (hb hby d39_19) ?_
      refine XS.icmpNo X1.here hx rfl (hb hby d39_20) rfl (tlt (by decide : (1 : Int32) < (4 : Int32))).2.2.2 ?_
      show OwnG p e below T1 m 23 #[vR ab1, vI nw, vI 4, vI (oc nw (0 : Int32) c1 (0 : Int32))] [] tgt
      refine XS.aloadN X1.here hx rfl (hb hby d39_23) rfl rfl ?_
      refine XS.iloadN X1.here hx rfl (hb hby d39_24) rfl ?_
      refine XS.iconst X1.here hx rfl (hb hby d39_25) ?_
      exact kgo
    obtain ⟨_, _, ⟨T3, L3, k3, n3⟩, -, X3, ⟨Lc3, hQ3, l3, y3, z3⟩, st3⟩ := Jvm.LawKit.callS X1 hx (y := mN39) hown (mvT hZ (own_w hw 112 rfl)) (mvT hZ (own_w hw 113 rfl)) (mvT hZ (own_w hw 4 rfl)) (mvT hZ (own_w hw 114 rfl)) (by decide) (backOf (W := 0) (rm_slash_1 l Z a0 hw [] wG1 wG3 wG5 wK5 cx hEL h0 n0 X00 ab1 kc nw c1 c2 c3 c4 f0) hZ (own_w hw 114 rfl) (own_w hw 4 rfl) (by decide) (by decide)) (g := (mkF m 26 #[vR ab1, vI nw, vI 4, vI (oc nw (0 : Int32) c1 (0 : Int32))] [(.int 1), (.int nw), (.ref ab1)])) rfl (by rw [hml]; rfl) (argsL := [(.ref ab1), (.int nw), (.int 1)]) (rest := []) (lenOf pd_17795025 rfl) rfl (Nat.le_of_eq rfl) (hb hby d39_26) (fun _ _ => ⟨rfl, eq1, (by decide : 0 + 0 ≤ _), (by decide : 0 + 0 ≤ _)⟩)
    dsimp only [Pt.U, Pt.locs, Pt.cells, Pt.slots] at X3 l3 y3 z3 st3 hQ3
    subst l3 y3 z3
    obtain ⟨r_3, rfl, Nq3, eq3, pq3_0⟩ := hQ3
    refine og T3 m 29 #[vR ab1, vI nw, vI 4, vI (oc nw (0 : Int32) c1 (0 : Int32))] [(.int r_3)] st3 ?_
    have N3 := Fr.app N1 Nq3
    have hj4 : ∀ (z4_0 : Int32), (z4_0 = (oc nw (1 : Int32) c2 (oc nw (0 : Int32) c1 (0 : Int32)))) → OwnGoes p e below (fun o U' => ∃ v L, o = .returned v ∧ Q_cnt_4 Z ab1 kc nw c1 c2 c3 c4 h0 n0 v U'.heap L ∧ FrameEnd s o U' L (oR 1 0 0 14).cells (oR 1 0 0 14).slots) T3 (mkF m 35 #[vR ab1, vI nw, vI 4, vI z4_0] []) := by
      intro z4_0 hz4
      refine og T3 m 35 #[vR ab1, vI nw, vI 4, vI (oc nw (1 : Int32) c2 (oc nw (0 : Int32) c1 (0 : Int32)))] [] (fun tgt kgo => castTop (by rw [hz4]) kgo) ?_
      refine og T3 m 43 #[vR ab1, vI nw, vI 4, vI (oc nw (1 : Int32) c2 (oc nw (0 : Int32) c1 (0 : Int32)))] [(.int 2), (.int nw), (.ref ab1)] (fun tgt kgo => ?_) ?_
      · refine XS.iloadN X3.here hx rfl (hb hby d39_35) rfl ?_
        refine XS.iconst X3.here hx rfl (hb hby d39_36) ?_
        refine XS.icmpNo X3.here hx rfl (hb hby d39_37) rfl (tlt (by decide : (2 : Int32) < (4 : Int32))).2.2.2 ?_
        show OwnG p e below T3 m 40 #[vR ab1, vI nw, vI 4, vI (oc nw (1 : Int32) c2 (oc nw (0 : Int32) c1 (0 : Int32)))] [] tgt
        refine XS.aloadN X3.here hx rfl (hb hby d39_40) rfl rfl ?_
        refine XS.iloadN X3.here hx rfl (hb hby d39_41) rfl ?_
        refine XS.iconst X3.here hx rfl (hb hby d39_42) ?_
        exact kgo
      obtain ⟨_, _, ⟨T5, L5, k5, n5⟩, -, X5, ⟨Lc5, hQ5, l5, y5, z5⟩, st5⟩ := Jvm.LawKit.callS X3 hx (y := mN39) hown (mvT hZ (own_w hw 112 rfl)) (mvT hZ (own_w hw 113 rfl)) (mvT hZ (own_w hw 4 rfl)) (mvT hZ (own_w hw 114 rfl)) (by decide) (backOf (W := 0) (rm_slash_2 l Z a0 hw [] wG1 wG3 wG5 wK5 cx hEL h0 n0 X00 ab1 kc nw c1 c2 c3 c4 f0) hZ (own_w hw 114 rfl) (own_w hw 4 rfl) (by decide) (by decide)) (g := (mkF m 43 #[vR ab1, vI nw, vI 4, vI (oc nw (1 : Int32) c2 (oc nw (0 : Int32) c1 (0 : Int32)))] [(.int 2), (.int nw), (.ref ab1)])) rfl (by rw [hml]; rfl) (argsL := [(.ref ab1), (.int nw), (.int 2)]) (rest := []) (lenOf pd_17795025 rfl) rfl (Nat.le_of_eq rfl) (hb hby d39_43) (fun _ _ => ⟨rfl, eq3, (by decide : 0 + 0 ≤ _), (by decide : 0 + 0 ≤ _)⟩)
      dsimp only [Pt.U, Pt.locs, Pt.cells, Pt.slots] at X5 l5 y5 z5 st5 hQ5
      subst l5 y5 z5
      obtain ⟨r_5, rfl, Nq5, eq5, pq5_0⟩ := hQ5
      refine og T5 m 46 #[vR ab1, vI nw, vI 4, vI (oc nw (1 : Int32) c2 (oc nw (0 : Int32) c1 (0 : Int32)))] [(.int r_5)] st5 ?_
      have N5 := Fr.app N3 Nq5
      have hj6 : ∀ (z6_0 : Int32), (z6_0 = (oc nw (2 : Int32) c3 (oc nw (1 : Int32) c2 (oc nw (0 : Int32) c1 (0 : Int32))))) → OwnGoes p e below (fun o U' => ∃ v L, o = .returned v ∧ Q_cnt_4 Z ab1 kc nw c1 c2 c3 c4 h0 n0 v U'.heap L ∧ FrameEnd s o U' L (oR 1 0 0 14).cells (oR 1 0 0 14).slots) T5 (mkF m 52 #[vR ab1, vI nw, vI 4, vI z6_0] []) := by
        intro z6_0 hz6
        refine og T5 m 52 #[vR ab1, vI nw, vI 4, vI (oc nw (2 : Int32) c3 (oc nw (1 : Int32) c2 (oc nw (0 : Int32) c1 (0 : Int32))))] [] (fun tgt kgo => castTop (by rw [hz6]) kgo) ?_
        refine og T5 m 60 #[vR ab1, vI nw, vI 4, vI (oc nw (2 : Int32) c3 (oc nw (1 : Int32) c2 (oc nw (0 : Int32) c1 (0 : Int32))))] [(.int 3), (.int nw), (.ref ab1)] (fun tgt kgo => ?_) ?_
        · refine XS.iloadN X5.here hx rfl (hb hby d39_52) rfl ?_
          refine XS.iconst X5.here hx rfl (hb hby d39_53) ?_
          refine XS.icmpNo X5.here hx rfl (hb hby d39_54) rfl (tlt (by decide : (3 : Int32) < (4 : Int32))).2.2.2 ?_
          show OwnG p e below T5 m 57 #[vR ab1, vI nw, vI 4, vI (oc nw (2 : Int32) c3 (oc nw (1 : Int32) c2 (oc nw (0 : Int32) c1 (0 : Int32))))] [] tgt
          refine XS.aloadN X5.here hx rfl (hb hby d39_57) rfl rfl ?_
          refine XS.iloadN X5.here hx rfl (hb hby d39_58) rfl ?_
          refine XS.iconst X5.here hx rfl (hb hby d39_59) ?_
          exact kgo
        obtain ⟨_, _, ⟨T7, L7, k7, n7⟩, -, X7, ⟨Lc7, hQ7, l7, y7, z7⟩, st7⟩ := Jvm.LawKit.callS X5 hx (y := mN39) hown (mvT hZ (own_w hw 112 rfl)) (mvT hZ (own_w hw 113 rfl)) (mvT hZ (own_w hw 4 rfl)) (mvT hZ (own_w hw 114 rfl)) (by decide) (backOf (W := 0) (rm_slash_3 l Z a0 hw [] wG1 wG3 wG5 wK5 cx hEL h0 n0 X00 ab1 kc nw c1 c2 c3 c4 f0) hZ (own_w hw 114 rfl) (own_w hw 4 rfl) (by decide) (by decide)) (g := (mkF m 60 #[vR ab1, vI nw, vI 4, vI (oc nw (2 : Int32) c3 (oc nw (1 : Int32) c2 (oc nw (0 : Int32) c1 (0 : Int32))))] [(.int 3), (.int nw), (.ref ab1)])) rfl (by rw [hml]; rfl) (argsL := [(.ref ab1), (.int nw), (.int 3)]) (rest := []) (lenOf pd_17795025 rfl) rfl (Nat.le_of_eq rfl) (hb hby d39_60) (fun _ _ => ⟨rfl, eq5, (by decide : 0 + 0 ≤ _), (by decide : 0 + 0 ≤ _)⟩)
        dsimp only [Pt.U, Pt.locs, Pt.cells, Pt.slots] at X7 l7 y7 z7 st7 hQ7
        subst l7 y7 z7
        obtain ⟨r_7, rfl, Nq7, eq7, pq7_0⟩ := hQ7
        refine og T7 m 63 #[vR ab1, vI nw, vI 4, vI (oc nw (2 : Int32) c3 (oc nw (1 : Int32) c2 (oc nw (0 : Int32) c1 (0 : Int32))))] [(.int r_7)] st7 ?_
        have N7 := Fr.app N5 Nq7
        have hj8 : ∀ (z8_0 : Int32), (z8_0 = (oc nw (3 : Int32) c4 (oc nw (2 : Int32) c3 (oc nw (1 : Int32) c2 (oc nw (0 : Int32) c1 (0 : Int32)))))) → OwnGoes p e below (fun o U' => ∃ v L, o = .returned v ∧ Q_cnt_4 Z ab1 kc nw c1 c2 c3 c4 h0 n0 v U'.heap L ∧ FrameEnd s o U' L (oR 1 0 0 14).cells (oR 1 0 0 14).slots) T7 (mkF m 69 #[vR ab1, vI nw, vI 4, vI z8_0] []) := by
          intro z8_0 hz8
          refine og T7 m 69 #[vR ab1, vI nw, vI 4, vI (oc nw (3 : Int32) c4 (oc nw (2 : Int32) c3 (oc nw (1 : Int32) c2 (oc nw (0 : Int32) c1 (0 : Int32)))))] [] (fun tgt kgo => castTop (by rw [hz8]) kgo) ?_
          refine og T7 m 70 #[vR ab1, vI nw, vI 4, vI (oc nw (3 : Int32) c4 (oc nw (2 : Int32) c3 (oc nw (1 : Int32) c2 (oc nw (0 : Int32) c1 (0 : Int32)))))] [(.int (oc nw (3 : Int32) c4 (oc nw (2 : Int32) c3 (oc nw (1 : Int32) c2 (oc nw (0 : Int32) c1 (0 : Int32))))))] (fun tgt kgo => ?_) ?_
          · refine XS.iloadN X7.here hx rfl (hb hby d39_69) rfl ?_
            exact kgo
          refine own_leave X7 hlk (v := some (.int (oc nw (3 : Int32) c4 (oc nw (2 : Int32) c3 (oc nw (1 : Int32) c2 (oc nw (0 : Int32) c1 (0 : Int32))))))) (fun h => by rw [Bd.returns] at h; cases h) (fun fs hr => retI X7 hx Bd.returns (hb hby d39_70) hr) (by decide) (by decide) ?_
          show Q_cnt_4 Z ab1 kc nw c1 c2 c3 c4 h0 n0 _ T7.heap _
          rw [eq7]
          exact ⟨rfl, N7, rfl⟩
        by_cases cc10 : r_7 = (0 : Int32)
        · skip
          refine og T7 m 69 #[vR ab1, vI nw, vI 4, vI (oc nw (2 : Int32) c3 (oc nw (1 : Int32) c2 (oc nw (0 : Int32) c1 (0 : Int32))))] [] (fun tgt kgo => ?_) ?_
          · refine XS.ifYes X7.here hx rfl (pc0 := 63) (pc' := 69) rfl (hb hby d39_63) rfl ((if0 _ _).trans (teq cc10).1) (by decide) (by decide) ?_
            exact kgo
          exact hj8 (oc nw (2 : Int32) c3 (oc nw (1 : Int32) c2 (oc nw (0 : Int32) c1 (0 : Int32)))) (own_oc0 pq7_0 cc10)
        refine og T7 m 69 #[vR ab1, vI nw, vI 4, vI ((oc nw (2 : Int32) c3 (oc nw (1 : Int32) c2 (oc nw (0 : Int32) c1 (0 : Int32)))) + (1 : Int32))] [] (fun tgt kgo => ?_) ?_
        · refine XS.ifNo X7.here hx rfl (hb hby d39_63) rfl ((if0 _ _).trans (feq cc10).1) ?_
          refine XS.iinc X7.here hx rfl (hb hby d39_66) rfl (l' := #[vR ab1, vI nw, vI 4, vI ((oc nw (2 : Int32) c3 (oc nw (1 : Int32) c2 (oc nw (0 : Int32) c1 (0 : Int32)))) + (1 : Int32))]) rfl ?_
          exact kgo
        exact hj8 ((oc nw (2 : Int32) c3 (oc nw (1 : Int32) c2 (oc nw (0 : Int32) c1 (0 : Int32)))) + (1 : Int32)) (own_oc1 pq7_0 cc10)
      by_cases cc11 : r_5 = (0 : Int32)
      · skip
        refine og T5 m 52 #[vR ab1, vI nw, vI 4, vI (oc nw (1 : Int32) c2 (oc nw (0 : Int32) c1 (0 : Int32)))] [] (fun tgt kgo => ?_) ?_
        · refine XS.ifYes X5.here hx rfl (pc0 := 46) (pc' := 52) rfl (hb hby d39_46) rfl ((if0 _ _).trans (teq cc11).1) (by decide) (by decide) ?_
          exact kgo
        exact hj6 (oc nw (1 : Int32) c2 (oc nw (0 : Int32) c1 (0 : Int32))) (own_oc0 pq5_0 cc11)
      refine og T5 m 52 #[vR ab1, vI nw, vI 4, vI ((oc nw (1 : Int32) c2 (oc nw (0 : Int32) c1 (0 : Int32))) + (1 : Int32))] [] (fun tgt kgo => ?_) ?_
      · refine XS.ifNo X5.here hx rfl (hb hby d39_46) rfl ((if0 _ _).trans (feq cc11).1) ?_
        refine XS.iinc X5.here hx rfl (hb hby d39_49) rfl (l' := #[vR ab1, vI nw, vI 4, vI ((oc nw (1 : Int32) c2 (oc nw (0 : Int32) c1 (0 : Int32))) + (1 : Int32))]) rfl ?_
        exact kgo
      exact hj6 ((oc nw (1 : Int32) c2 (oc nw (0 : Int32) c1 (0 : Int32))) + (1 : Int32)) (own_oc1 pq5_0 cc11)
    by_cases cc12 : r_3 = (0 : Int32)
    · skip
      refine og T3 m 35 #[vR ab1, vI nw, vI 4, vI (oc nw (0 : Int32) c1 (0 : Int32))] [] (fun tgt kgo => ?_) ?_
      · refine XS.ifYes X3.here hx rfl (pc0 := 29) (pc' := 35) rfl (hb hby d39_29) rfl ((if0 _ _).trans (teq cc12).1) (by decide) (by decide) ?_
        exact kgo
      exact hj4 (oc nw (0 : Int32) c1 (0 : Int32)) (own_oc0 pq3_0 cc12)
    refine og T3 m 35 #[vR ab1, vI nw, vI 4, vI ((oc nw (0 : Int32) c1 (0 : Int32)) + (1 : Int32))] [] (fun tgt kgo => ?_) ?_
    · refine XS.ifNo X3.here hx rfl (hb hby d39_29) rfl ((if0 _ _).trans (feq cc12).1) ?_
      refine XS.iinc X3.here hx rfl (hb hby d39_32) rfl (l' := #[vR ab1, vI nw, vI 4, vI ((oc nw (0 : Int32) c1 (0 : Int32)) + (1 : Int32))]) rfl ?_
      exact kgo
    exact hj4 ((oc nw (0 : Int32) c1 (0 : Int32)) + (1 : Int32)) (own_oc1 pq3_0 cc12)
  by_cases cc13 : r_1 = (0 : Int32)
  · skip
    refine og T1 m 18 #[vR ab1, vI nw, vI 4, vI 0] [] (fun tgt kgo => ?_) ?_
    · refine XS.ifYes X1.here hx rfl (pc0 := 12) (pc' := 18) rfl (hb hby d39_12) rfl ((if0 _ _).trans (teq cc13).1) (by decide) (by decide) ?_
      exact kgo
    exact hj2 (0 : Int32) (own_oc0 pq1_0 cc13)
  refine og T1 m 18 #[vR ab1, vI nw, vI 4, vI 1] [] (fun tgt kgo => ?_) ?_
  · refine XS.ifNo X1.here hx rfl (hb hby d39_12) rfl ((if0 _ _).trans (feq cc13).1) ?_
    refine XS.iinc X1.here hx rfl (hb hby d39_15) rfl (l' := #[vR ab1, vI nw, vI 4, vI 1]) rfl ?_
    exact kgo
  exact hj2 (1 : Int32) ((by decide : (1 : Int32) = (0 : Int32) + (1 : Int32)).trans (own_oc1 pq1_0 cc13))
theorem ef_last_1 (m : MethodId) (x0 : Addr) (x1 : Int32) : entryFrame m #[(.ref x0), (.int x1), (.int 1)] 3 = mkF m 0 #[vR x0, vI x1, vI 1] [] := by
  first | (simp [entryFrame, mkF, argsToLocals, Value.category]; done) | rfl
def Q_last_1 (Z : State) (ab1 : Addr) (kc : ClassId) (nw : Int32) (c1 : Int32) (c2 : Int32) (c3 : Int32) (c4 : Int32) (h0 : Heap) (n0 : Nat) (v : Option Value) (h : Heap) (L : List Loc) : Prop := ∃ (r : Int32), v = some (.int r) ∧ Fr n0 L ∧ h = h0 ∧ (r = (if (0 : Int32) < nw ∧ c1 = 47 then (0 : Int32) else (-1 : Int32)))
theorem d40_0 : decode method_5_code 0 = .ok (.iload_n 2, 1) := by decide +kernel
theorem d40_1 : decode method_5_code 1 = .ok (.iconst 3, 1) := by decide +kernel
theorem d40_2 : decode method_5_code 2 = .ok (.if_icmp .le 14, 3) := by decide +kernel
theorem d40_16 : decode method_5_code 16 = .ok (.iload_n 2, 1) := by decide +kernel
theorem d40_17 : decode method_5_code 17 = .ok (.iconst 2, 1) := by decide +kernel
theorem d40_18 : decode method_5_code 18 = .ok (.if_icmp .le 14, 3) := by decide +kernel
theorem d40_32 : decode method_5_code 32 = .ok (.iload_n 2, 1) := by decide +kernel
theorem d40_33 : decode method_5_code 33 = .ok (.iconst 1, 1) := by decide +kernel
theorem d40_34 : decode method_5_code 34 = .ok (.if_icmp .le 14, 3) := by decide +kernel
theorem d40_48 : decode method_5_code 48 = .ok (.iload_n 2, 1) := by decide +kernel
theorem d40_49 : decode method_5_code 49 = .ok (.ifCond .le 14, 3) := by decide +kernel
theorem d40_52 : decode method_5_code 52 = .ok (.aload_n 0, 1) := by decide +kernel
theorem d40_53 : decode method_5_code 53 = .ok (.iload_n 1, 1) := by decide +kernel
theorem d40_54 : decode method_5_code 54 = .ok (.iconst 0, 1) := by decide +kernel
theorem d40_55 : decode method_5_code 55 = .ok (.invokestatic 7, 3) := by decide +kernel
theorem d40_58 : decode method_5_code 58 = .ok (.ifCond .eq 5, 3) := by decide +kernel
theorem d40_61 : decode method_5_code 61 = .ok (.iconst 0, 1) := by decide +kernel
theorem d40_62 : decode method_5_code 62 = .ok (.ireturn, 1) := by decide +kernel
theorem d40_63 : decode method_5_code 63 = .ok (.iconst (-1), 1) := by decide +kernel
theorem d40_64 : decode method_5_code 64 = .ok (.ireturn, 1) := by decide +kernel
set_option maxRecDepth 65536 in
set_option maxHeartbeats 40000000 in
theorem rm_last_1 (l : Launch) (Z : State) (a0 : Array Value) (hw : ∀ d ∈ tables_1, d.before a0 Z = true) (ws : List Jvm.Cond) (wG1 : Int32) (wG3 : Value) (wG5 : Addr) (wK5 : ClassId) (cx : OwnCx Z a0 wG1 wG3 wG5 wK5) (hEL : EW Z a0 consts_1) (h0 : Heap) (n0 : Nat) (X00 : Old Z n0 h0) (ab1 : Addr) (kc : ClassId) (nw : Int32) (c1 : Int32) (c2 : Int32) (c3 : Int32) (c4 : Int32) (f0 : Arv Z h0 ab1 kc .char (4 : Int32) [(.int c1), (.int c2), (.int c3), (.int c4)] (.int 0)) :
    MetFree l mN41 (head1 (Jvm.Cond.code mN41 method_5_code 3 (some .int) :: ws) (oR 1 0 0 14)) (fun a U => a = #[(.ref ab1), (.int nw), (.int 1)] ∧ Z.Warmed39 U.vm ∧ U.heap = h0) (fun _ _ _ _ _ => True) (fun _ U o U' => ∃ v L, o = .returned v ∧ Q_last_1 Z ab1 kc nw c1 c2 c3 c4 h0 n0 v U'.heap L ∧ FrameEnd U o U' L (oR 1 0 0 14).cells (oR 1 0 0 14).slots) := by
  refine MetFree.of_bodySF (plainFor_of_name pn_43637772) hisR ?_
  intro p e s m args below meth c s₁ Bd hml0 hP hK
  obtain ⟨rfl, hZ, hh⟩ := hP
  obtain ⟨wO2, wP5, wO4, wrG3, hstr, wO5, wV5⟩ := id cx
  have hx := Bd.exec
  have hby := Bd.bytes
  have hlk := Bd.notSynchronized
  have hml : c.maxLocals = 3 := hml0
  have hown : s.vm.findClass "com/example/kindling/kindling/web/PathTemplateSegmentsPinLaw" = some m.cls := findClass_of_methodNamed Bd.named
  have hnm := (name_of_methodNamed Bd.named Bd.method).1
  have X0 : Stand p l e (oR 1 0 0 14) s m #[(.ref ab1), (.int nw), (.int 1)] below meth c s₁ [] 0 0 := Stand.of_body Bd
  have e0 : s₁.heap = h0 := by rw [← hh, Bd.state]; rfl
  have N0 := Fr.nil n0
  have Z0 : n0 ≤ h0.size := X00.1 ▸ X00.2.1
  have K0 : Keep h0 h0 ([] : List Addr) := Keep.refl _ _
  show OwnGoes p e below _ s₁ (entryFrame m _ _)
  refine og s₁ m 0 #[vR ab1, vI nw, vI 1] [] (fun tgt kgo => castTop (ef_last_1 m ab1 nw) kgo) ?_
  refine og s₁ m 55 #[vR ab1, vI nw, vI 1] [(.int 0), (.int nw), (.ref ab1)] (fun tgt kgo => ?_) ?_
  · refine XS.iloadN X0.here hx rfl (hb hby d40_0) rfl ?_
    refine XS.iconst X0.here hx rfl (hb hby d40_1) ?_
    refine XS.icmpYes X0.here hx rfl (pc0 := 2) (pc' := 16) rfl (hb hby d40_2) rfl (flt (by decide : ¬ ((3 : Int32) < (1 : Int32)))).2.2.2 (by decide) (by decide) ?_
    show OwnG p e below s₁ m 16 #[vR ab1, vI nw, vI 1] [] tgt
    refine XS.iloadN X0.here hx rfl (hb hby d40_16) rfl ?_
    refine XS.iconst X0.here hx rfl (hb hby d40_17) ?_
    refine XS.icmpYes X0.here hx rfl (pc0 := 18) (pc' := 32) rfl (hb hby d40_18) rfl (flt (by decide : ¬ ((2 : Int32) < (1 : Int32)))).2.2.2 (by decide) (by decide) ?_
    show OwnG p e below s₁ m 32 #[vR ab1, vI nw, vI 1] [] tgt
    refine XS.iloadN X0.here hx rfl (hb hby d40_32) rfl ?_
    refine XS.iconst X0.here hx rfl (hb hby d40_33) ?_
    refine XS.icmpYes X0.here hx rfl (pc0 := 34) (pc' := 48) rfl (hb hby d40_34) rfl (flt (by decide : ¬ ((1 : Int32) < (1 : Int32)))).2.2.2 (by decide) (by decide) ?_
    show OwnG p e below s₁ m 48 #[vR ab1, vI nw, vI 1] [] tgt
    refine XS.iloadN X0.here hx rfl (hb hby d40_48) rfl ?_
    refine XS.ifNo X0.here hx rfl (hb hby d40_49) rfl ((if0 _ _).trans (tlt (by decide : (0 : Int32) < (1 : Int32))).2.2.2) ?_
    refine XS.aloadN X0.here hx rfl (hb hby d40_52) rfl rfl ?_
    show OwnG p e below s₁ m 53 #[vR ab1, vI nw, vI 1] [(.ref ab1)] tgt
    refine XS.iloadN X0.here hx rfl (hb hby d40_53) rfl ?_
    refine XS.iconst X0.here hx rfl (hb hby d40_54) ?_
    exact kgo
  obtain ⟨_, _, ⟨T1, L1, k1, n1⟩, -, X1, ⟨Lc1, hQ1, l1, y1, z1⟩, st1⟩ := Jvm.LawKit.callS X0 hx (y := mN39) hown (mvT hZ (own_w hw 112 rfl)) (mvT hZ (own_w hw 113 rfl)) (mvT hZ (own_w hw 4 rfl)) (mvT hZ (own_w hw 114 rfl)) (by decide) (backOf (W := 0) (rm_slash_0 l Z a0 hw [] wG1 wG3 wG5 wK5 cx hEL h0 n0 X00 ab1 kc nw c1 c2 c3 c4 f0) hZ (own_w hw 114 rfl) (own_w hw 4 rfl) (by decide) (by decide)) (g := (mkF m 55 #[vR ab1, vI nw, vI 1] [(.int 0), (.int nw), (.ref ab1)])) rfl (by rw [hml]; rfl) (argsL := [(.ref ab1), (.int nw), (.int 0)]) (rest := []) (lenOf pd_17795025 rfl) rfl (Nat.le_of_eq rfl) (hb hby d40_55) (fun _ _ => ⟨rfl, e0, (by decide : 0 + 0 ≤ _), (by decide : 0 + 0 ≤ _)⟩)
  dsimp only [Pt.U, Pt.locs, Pt.cells, Pt.slots] at X1 l1 y1 z1 st1 hQ1
  subst l1 y1 z1
  obtain ⟨r_1, rfl, Nq1, eq1, pq1_0⟩ := hQ1
  refine og T1 m 58 #[vR ab1, vI nw, vI 1] [(.int r_1)] st1 ?_
  have N1 := Fr.app N0 Nq1
  rcases pq1_0 with ⟨rfl, hs0⟩ | ⟨rfl, hs0⟩
  · skip
    refine og T1 m 62 #[vR ab1, vI nw, vI 1] [(.int 0)] (fun tgt kgo => ?_) ?_
    · refine XS.ifNo X1.here hx rfl (hb hby d40_58) rfl ((if0 _ _).trans (feq (by decide : ¬ ((1 : Int32) = (0 : Int32)))).1) ?_
      refine XS.iconst X1.here hx rfl (hb hby d40_61) ?_
      exact kgo
    refine own_leave X1 hlk (v := some (.int 0)) (fun h => by rw [Bd.returns] at h; cases h) (fun fs hr => retI X1 hx Bd.returns (hb hby d40_62) hr) (by decide) (by decide) ?_
    show Q_last_1 Z ab1 kc nw c1 c2 c3 c4 h0 n0 _ T1.heap _
    rw [eq1]
    exact ⟨(0 : Int32), rfl, N1, rfl, (by rw [if_pos hs0])⟩
  refine og T1 m 64 #[vR ab1, vI nw, vI 1] [(.int (-1))] (fun tgt kgo => ?_) ?_
  · refine XS.ifYes X1.here hx rfl (pc0 := 58) (pc' := 63) rfl (hb hby d40_58) rfl ((if0 _ _).trans (teq (by decide : (0 : Int32) = (0 : Int32))).1) (by decide) (by decide) ?_
    refine XS.iconst X1.here hx rfl (hb hby d40_63) ?_
    exact kgo
  refine own_leave X1 hlk (v := some (.int (-1))) (fun h => by rw [Bd.returns] at h; cases h) (fun fs hr => retI X1 hx Bd.returns (hb hby d40_64) hr) (by decide) (by decide) ?_
  show Q_last_1 Z ab1 kc nw c1 c2 c3 c4 h0 n0 _ T1.heap _
  rw [eq1]
  exact ⟨(-1 : Int32), rfl, N1, rfl, (by rw [if_neg hs0])⟩
theorem ef_last_2 (m : MethodId) (x0 : Addr) (x1 : Int32) : entryFrame m #[(.ref x0), (.int x1), (.int 2)] 3 = mkF m 0 #[vR x0, vI x1, vI 2] [] := by
  first | (simp [entryFrame, mkF, argsToLocals, Value.category]; done) | rfl
def Q_last_2 (Z : State) (ab1 : Addr) (kc : ClassId) (nw : Int32) (c1 : Int32) (c2 : Int32) (c3 : Int32) (c4 : Int32) (h0 : Heap) (n0 : Nat) (v : Option Value) (h : Heap) (L : List Loc) : Prop := ∃ (r : Int32), v = some (.int r) ∧ Fr n0 L ∧ h = h0 ∧ (r = (if (1 : Int32) < nw ∧ c2 = 47 then (1 : Int32) else (if (0 : Int32) < nw ∧ c1 = 47 then (0 : Int32) else (-1 : Int32))))
theorem d40_37 : decode method_5_code 37 = .ok (.aload_n 0, 1) := by decide +kernel
theorem d40_38 : decode method_5_code 38 = .ok (.iload_n 1, 1) := by decide +kernel
theorem d40_39 : decode method_5_code 39 = .ok (.iconst 1, 1) := by decide +kernel
theorem d40_40 : decode method_5_code 40 = .ok (.invokestatic 7, 3) := by decide +kernel
theorem d40_43 : decode method_5_code 43 = .ok (.ifCond .eq 5, 3) := by decide +kernel
theorem d40_46 : decode method_5_code 46 = .ok (.iconst 1, 1) := by decide +kernel
theorem d40_47 : decode method_5_code 47 = .ok (.ireturn, 1) := by decide +kernel
set_option maxRecDepth 65536 in
set_option maxHeartbeats 40000000 in
theorem rm_last_2 (l : Launch) (Z : State) (a0 : Array Value) (hw : ∀ d ∈ tables_1, d.before a0 Z = true) (ws : List Jvm.Cond) (wG1 : Int32) (wG3 : Value) (wG5 : Addr) (wK5 : ClassId) (cx : OwnCx Z a0 wG1 wG3 wG5 wK5) (hEL : EW Z a0 consts_1) (h0 : Heap) (n0 : Nat) (X00 : Old Z n0 h0) (ab1 : Addr) (kc : ClassId) (nw : Int32) (c1 : Int32) (c2 : Int32) (c3 : Int32) (c4 : Int32) (f0 : Arv Z h0 ab1 kc .char (4 : Int32) [(.int c1), (.int c2), (.int c3), (.int c4)] (.int 0)) :
    MetFree l mN41 (head1 (Jvm.Cond.code mN41 method_5_code 3 (some .int) :: ws) (oR 1 0 0 14)) (fun a U => a = #[(.ref ab1), (.int nw), (.int 2)] ∧ Z.Warmed39 U.vm ∧ U.heap = h0) (fun _ _ _ _ _ => True) (fun _ U o U' => ∃ v L, o = .returned v ∧ Q_last_2 Z ab1 kc nw c1 c2 c3 c4 h0 n0 v U'.heap L ∧ FrameEnd U o U' L (oR 1 0 0 14).cells (oR 1 0 0 14).slots) := by
  refine MetFree.of_bodySF (plainFor_of_name pn_43637772) hisR ?_
  intro p e s m args below meth c s₁ Bd hml0 hP hK
  obtain ⟨rfl, hZ, hh⟩ := hP
  obtain ⟨wO2, wP5, wO4, wrG3, hstr, wO5, wV5⟩ := id cx
  have hx := Bd.exec
  have hby := Bd.bytes
  have hlk := Bd.notSynchronized
  have hml : c.maxLocals = 3 := hml0
  have hown : s.vm.findClass "com/example/kindling/kindling/web/PathTemplateSegmentsPinLaw" = some m.cls := findClass_of_methodNamed Bd.named
  have hnm := (name_of_methodNamed Bd.named Bd.method).1
  have X0 : Stand p l e (oR 1 0 0 14) s m #[(.ref ab1), (.int nw), (.int 2)] below meth c s₁ [] 0 0 := Stand.of_body Bd
  have e0 : s₁.heap = h0 := by rw [← hh, Bd.state]; rfl
  have N0 := Fr.nil n0
  have Z0 : n0 ≤ h0.size := X00.1 ▸ X00.2.1
  have K0 : Keep h0 h0 ([] : List Addr) := Keep.refl _ _
  show OwnGoes p e below _ s₁ (entryFrame m _ _)
  refine og s₁ m 0 #[vR ab1, vI nw, vI 2] [] (fun tgt kgo => castTop (ef_last_2 m ab1 nw) kgo) ?_
  refine og s₁ m 40 #[vR ab1, vI nw, vI 2] [(.int 1), (.int nw), (.ref ab1)] (fun tgt kgo => ?_) ?_
  · refine XS.iloadN X0.here hx rfl (hb hby d40_0) rfl ?_
    refine XS.iconst X0.here hx rfl (hb hby d40_1) ?_
    refine XS.icmpYes X0.here hx rfl (pc0 := 2) (pc' := 16) rfl (hb hby d40_2) rfl (flt (by decide : ¬ ((3 : Int32) < (2 : Int32)))).2.2.2 (by decide) (by decide) ?_
    show OwnG p e below s₁ m 16 #[vR ab1, vI nw, vI 2] [] tgt
    refine XS.iloadN X0.here hx rfl (hb hby d40_16) rfl ?_
    refine XS.iconst X0.here hx rfl (hb hby d40_17) ?_
    refine XS.icmpYes X0.here hx rfl (pc0 := 18) (pc' := 32) rfl (hb hby d40_18) rfl (flt (by decide : ¬ ((2 : Int32) < (2 : Int32)))).2.2.2 (by decide) (by decide) ?_
    show OwnG p e below s₁ m 32 #[vR ab1, vI nw, vI 2] [] tgt
    refine XS.iloadN X0.here hx rfl (hb hby d40_32) rfl ?_
    refine XS.iconst X0.here hx rfl (hb hby d40_33) ?_
    refine XS.icmpNo X0.here hx rfl (hb hby d40_34) rfl (tlt (by decide : (1 : Int32) < (2 : Int32))).2.2.2 ?_
    show OwnG p e below s₁ m 37 #[vR ab1, vI nw, vI 2] [] tgt
    refine XS.aloadN X0.here hx rfl (hb hby d40_37) rfl rfl ?_
    refine XS.iloadN X0.here hx rfl (hb hby d40_38) rfl ?_
    refine XS.iconst X0.here hx rfl (hb hby d40_39) ?_
    exact kgo
  obtain ⟨_, _, ⟨T1, L1, k1, n1⟩, -, X1, ⟨Lc1, hQ1, l1, y1, z1⟩, st1⟩ := Jvm.LawKit.callS X0 hx (y := mN39) hown (mvT hZ (own_w hw 112 rfl)) (mvT hZ (own_w hw 113 rfl)) (mvT hZ (own_w hw 4 rfl)) (mvT hZ (own_w hw 114 rfl)) (by decide) (backOf (W := 0) (rm_slash_1 l Z a0 hw [] wG1 wG3 wG5 wK5 cx hEL h0 n0 X00 ab1 kc nw c1 c2 c3 c4 f0) hZ (own_w hw 114 rfl) (own_w hw 4 rfl) (by decide) (by decide)) (g := (mkF m 40 #[vR ab1, vI nw, vI 2] [(.int 1), (.int nw), (.ref ab1)])) rfl (by rw [hml]; rfl) (argsL := [(.ref ab1), (.int nw), (.int 1)]) (rest := []) (lenOf pd_17795025 rfl) rfl (Nat.le_of_eq rfl) (hb hby d40_40) (fun _ _ => ⟨rfl, e0, (by decide : 0 + 0 ≤ _), (by decide : 0 + 0 ≤ _)⟩)
  dsimp only [Pt.U, Pt.locs, Pt.cells, Pt.slots] at X1 l1 y1 z1 st1 hQ1
  subst l1 y1 z1
  obtain ⟨r_1, rfl, Nq1, eq1, pq1_0⟩ := hQ1
  refine og T1 m 43 #[vR ab1, vI nw, vI 2] [(.int r_1)] st1 ?_
  have N1 := Fr.app N0 Nq1
  rcases pq1_0 with ⟨rfl, hs1⟩ | ⟨rfl, hs1⟩
  · skip
    refine og T1 m 47 #[vR ab1, vI nw, vI 2] [(.int 1)] (fun tgt kgo => ?_) ?_
    · refine XS.ifNo X1.here hx rfl (hb hby d40_43) rfl ((if0 _ _).trans (feq (by decide : ¬ ((1 : Int32) = (0 : Int32)))).1) ?_
      refine XS.iconst X1.here hx rfl (hb hby d40_46) ?_
      exact kgo
    refine own_leave X1 hlk (v := some (.int 1)) (fun h => by rw [Bd.returns] at h; cases h) (fun fs hr => retI X1 hx Bd.returns (hb hby d40_47) hr) (by decide) (by decide) ?_
    show Q_last_2 Z ab1 kc nw c1 c2 c3 c4 h0 n0 _ T1.heap _
    rw [eq1]
    exact ⟨(1 : Int32), rfl, N1, rfl, (by rw [if_pos hs1])⟩
  refine og T1 m 55 #[vR ab1, vI nw, vI 2] [(.int 0), (.int nw), (.ref ab1)] (fun tgt kgo => ?_) ?_
  · refine XS.ifYes X1.here hx rfl (pc0 := 43) (pc' := 48) rfl (hb hby d40_43) rfl ((if0 _ _).trans (teq (by decide : (0 : Int32) = (0 : Int32))).1) (by decide) (by decide) ?_
    refine XS.iloadN X1.here hx rfl (hb hby d40_48) rfl ?_
    refine XS.ifNo X1.here hx rfl (hb hby d40_49) rfl ((if0 _ _).trans (tlt (by decide : (0 : Int32) < (2 : Int32))).2.2.2) ?_
    show OwnG p e below T1 m 52 #[vR ab1, vI nw, vI 2] [] tgt
    refine XS.aloadN X1.here hx rfl (hb hby d40_52) rfl rfl ?_
    refine XS.iloadN X1.here hx rfl (hb hby d40_53) rfl ?_
    refine XS.iconst X1.here hx rfl (hb hby d40_54) ?_
    exact kgo
  obtain ⟨_, _, ⟨T3, L3, k3, n3⟩, -, X3, ⟨Lc3, hQ3, l3, y3, z3⟩, st3⟩ := Jvm.LawKit.callS X1 hx (y := mN39) hown (mvT hZ (own_w hw 112 rfl)) (mvT hZ (own_w hw 113 rfl)) (mvT hZ (own_w hw 4 rfl)) (mvT hZ (own_w hw 114 rfl)) (by decide) (backOf (W := 0) (rm_slash_0 l Z a0 hw [] wG1 wG3 wG5 wK5 cx hEL h0 n0 X00 ab1 kc nw c1 c2 c3 c4 f0) hZ (own_w hw 114 rfl) (own_w hw 4 rfl) (by decide) (by decide)) (g := (mkF m 55 #[vR ab1, vI nw, vI 2] [(.int 0), (.int nw), (.ref ab1)])) rfl (by rw [hml]; rfl) (argsL := [(.ref ab1), (.int nw), (.int 0)]) (rest := []) (lenOf pd_17795025 rfl) rfl (Nat.le_of_eq rfl) (hb hby d40_55) (fun _ _ => ⟨rfl, eq1, (by decide : 0 + 0 ≤ _), (by decide : 0 + 0 ≤ _)⟩)
  dsimp only [Pt.U, Pt.locs, Pt.cells, Pt.slots] at X3 l3 y3 z3 st3 hQ3
  subst l3 y3 z3
  obtain ⟨r_3, rfl, Nq3, eq3, pq3_0⟩ := hQ3
  refine og T3 m 58 #[vR ab1, vI nw, vI 2] [(.int r_3)] st3 ?_
  have N3 := Fr.app N1 Nq3
  rcases pq3_0 with ⟨rfl, hs0⟩ | ⟨rfl, hs0⟩
  · skip
    refine og T3 m 62 #[vR ab1, vI nw, vI 2] [(.int 0)] (fun tgt kgo => ?_) ?_
    · refine XS.ifNo X3.here hx rfl (hb hby d40_58) rfl ((if0 _ _).trans (feq (by decide : ¬ ((1 : Int32) = (0 : Int32)))).1) ?_
      refine XS.iconst X3.here hx rfl (hb hby d40_61) ?_
      exact kgo
    refine own_leave X3 hlk (v := some (.int 0)) (fun h => by rw [Bd.returns] at h; cases h) (fun fs hr => retI X3 hx Bd.returns (hb hby d40_62) hr) (by decide) (by decide) ?_
    show Q_last_2 Z ab1 kc nw c1 c2 c3 c4 h0 n0 _ T3.heap _
    rw [eq3]
    exact ⟨(0 : Int32), rfl, N3, rfl, (by rw [if_neg hs1, if_pos hs0])⟩
  refine og T3 m 64 #[vR ab1, vI nw, vI 2] [(.int (-1))] (fun tgt kgo => ?_) ?_
  · refine XS.ifYes X3.here hx rfl (pc0 := 58) (pc' := 63) rfl (hb hby d40_58) rfl ((if0 _ _).trans (teq (by decide : (0 : Int32) = (0 : Int32))).1) (by decide) (by decide) ?_
    refine XS.iconst X3.here hx rfl (hb hby d40_63) ?_
    exact kgo
  refine own_leave X3 hlk (v := some (.int (-1))) (fun h => by rw [Bd.returns] at h; cases h) (fun fs hr => retI X3 hx Bd.returns (hb hby d40_64) hr) (by decide) (by decide) ?_
  show Q_last_2 Z ab1 kc nw c1 c2 c3 c4 h0 n0 _ T3.heap _
  rw [eq3]
  exact ⟨(-1 : Int32), rfl, N3, rfl, (by rw [if_neg hs1, if_neg hs0])⟩
theorem ef_last_3 (m : MethodId) (x0 : Addr) (x1 : Int32) : entryFrame m #[(.ref x0), (.int x1), (.int 3)] 3 = mkF m 0 #[vR x0, vI x1, vI 3] [] := by
  first | (simp [entryFrame, mkF, argsToLocals, Value.category]; done) | rfl
def Q_last_3 (Z : State) (ab1 : Addr) (kc : ClassId) (nw : Int32) (c1 : Int32) (c2 : Int32) (c3 : Int32) (c4 : Int32) (h0 : Heap) (n0 : Nat) (v : Option Value) (h : Heap) (L : List Loc) : Prop := ∃ (r : Int32), v = some (.int r) ∧ Fr n0 L ∧ h = h0 ∧ (r = (if (2 : Int32) < nw ∧ c3 = 47 then (2 : Int32) else (if (1 : Int32) < nw ∧ c2 = 47 then (1 : Int32) else (if (0 : Int32) < nw ∧ c1 = 47 then (0 : Int32) else (-1 : Int32)))))
theorem d40_21 : decode method_5_code 21 = .ok (.aload_n 0, 1) := by decide +kernel
theorem d40_22 : decode method_5_code 22 = .ok (.iload_n 1, 1) := by decide +kernel
theorem d40_23 : decode method_5_code 23 = .ok (.iconst 2, 1) := by decide +kernel
theorem d40_24 : decode method_5_code 24 = .ok (.invokestatic 7, 3) := by decide +kernel
theorem d40_27 : decode method_5_code 27 = .ok (.ifCond .eq 5, 3) := by decide +kernel
theorem d40_30 : decode method_5_code 30 = .ok (.iconst 2, 1) := by decide +kernel
theorem d40_31 : decode method_5_code 31 = .ok (.ireturn, 1) := by decide +kernel
set_option maxRecDepth 65536 in
set_option maxHeartbeats 40000000 in
theorem rm_last_3 (l : Launch) (Z : State) (a0 : Array Value) (hw : ∀ d ∈ tables_1, d.before a0 Z = true) (ws : List Jvm.Cond) (wG1 : Int32) (wG3 : Value) (wG5 : Addr) (wK5 : ClassId) (cx : OwnCx Z a0 wG1 wG3 wG5 wK5) (hEL : EW Z a0 consts_1) (h0 : Heap) (n0 : Nat) (X00 : Old Z n0 h0) (ab1 : Addr) (kc : ClassId) (nw : Int32) (c1 : Int32) (c2 : Int32) (c3 : Int32) (c4 : Int32) (f0 : Arv Z h0 ab1 kc .char (4 : Int32) [(.int c1), (.int c2), (.int c3), (.int c4)] (.int 0)) :
    MetFree l mN41 (head1 (Jvm.Cond.code mN41 method_5_code 3 (some .int) :: ws) (oR 1 0 0 14)) (fun a U => a = #[(.ref ab1), (.int nw), (.int 3)] ∧ Z.Warmed39 U.vm ∧ U.heap = h0) (fun _ _ _ _ _ => True) (fun _ U o U' => ∃ v L, o = .returned v ∧ Q_last_3 Z ab1 kc nw c1 c2 c3 c4 h0 n0 v U'.heap L ∧ FrameEnd U o U' L (oR 1 0 0 14).cells (oR 1 0 0 14).slots) := by
  refine MetFree.of_bodySF (plainFor_of_name pn_43637772) hisR ?_
  intro p e s m args below meth c s₁ Bd hml0 hP hK
  obtain ⟨rfl, hZ, hh⟩ := hP
  obtain ⟨wO2, wP5, wO4, wrG3, hstr, wO5, wV5⟩ := id cx
  have hx := Bd.exec
  have hby := Bd.bytes
  have hlk := Bd.notSynchronized
  have hml : c.maxLocals = 3 := hml0
  have hown : s.vm.findClass "com/example/kindling/kindling/web/PathTemplateSegmentsPinLaw" = some m.cls := findClass_of_methodNamed Bd.named
  have hnm := (name_of_methodNamed Bd.named Bd.method).1
  have X0 : Stand p l e (oR 1 0 0 14) s m #[(.ref ab1), (.int nw), (.int 3)] below meth c s₁ [] 0 0 := Stand.of_body Bd
  have e0 : s₁.heap = h0 := by rw [← hh, Bd.state]; rfl
  have N0 := Fr.nil n0
  have Z0 : n0 ≤ h0.size := X00.1 ▸ X00.2.1
  have K0 : Keep h0 h0 ([] : List Addr) := Keep.refl _ _
  show OwnGoes p e below _ s₁ (entryFrame m _ _)
  refine og s₁ m 0 #[vR ab1, vI nw, vI 3] [] (fun tgt kgo => castTop (ef_last_3 m ab1 nw) kgo) ?_
  refine og s₁ m 24 #[vR ab1, vI nw, vI 3] [(.int 2), (.int nw), (.ref ab1)] (fun tgt kgo => ?_) ?_
  · refine XS.iloadN X0.here hx rfl (hb hby d40_0) rfl ?_
    refine XS.iconst X0.here hx rfl (hb hby d40_1) ?_
    refine XS.icmpYes X0.here hx rfl (pc0 := 2) (pc' := 16) rfl (hb hby d40_2) rfl (flt (by decide : ¬ ((3 : Int32) < (3 : Int32)))).2.2.2 (by decide) (by decide) ?_
    show OwnG p e below s₁ m 16 #[vR ab1, vI nw, vI 3] [] tgt
    refine XS.iloadN X0.here hx rfl (hb hby d40_16) rfl ?_
    refine XS.iconst X0.here hx rfl (hb hby d40_17) ?_
    refine XS.icmpNo X0.here hx rfl (hb hby d40_18) rfl (tlt (by decide : (2 : Int32) < (3 : Int32))).2.2.2 ?_
    show OwnG p e below s₁ m 21 #[vR ab1, vI nw, vI 3] [] tgt
    refine XS.aloadN X0.here hx rfl (hb hby d40_21) rfl rfl ?_
    refine XS.iloadN X0.here hx rfl (hb hby d40_22) rfl ?_
    refine XS.iconst X0.here hx rfl (hb hby d40_23) ?_
    exact kgo
  obtain ⟨_, _, ⟨T1, L1, k1, n1⟩, -, X1, ⟨Lc1, hQ1, l1, y1, z1⟩, st1⟩ := Jvm.LawKit.callS X0 hx (y := mN39) hown (mvT hZ (own_w hw 112 rfl)) (mvT hZ (own_w hw 113 rfl)) (mvT hZ (own_w hw 4 rfl)) (mvT hZ (own_w hw 114 rfl)) (by decide) (backOf (W := 0) (rm_slash_2 l Z a0 hw [] wG1 wG3 wG5 wK5 cx hEL h0 n0 X00 ab1 kc nw c1 c2 c3 c4 f0) hZ (own_w hw 114 rfl) (own_w hw 4 rfl) (by decide) (by decide)) (g := (mkF m 24 #[vR ab1, vI nw, vI 3] [(.int 2), (.int nw), (.ref ab1)])) rfl (by rw [hml]; rfl) (argsL := [(.ref ab1), (.int nw), (.int 2)]) (rest := []) (lenOf pd_17795025 rfl) rfl (Nat.le_of_eq rfl) (hb hby d40_24) (fun _ _ => ⟨rfl, e0, (by decide : 0 + 0 ≤ _), (by decide : 0 + 0 ≤ _)⟩)
  dsimp only [Pt.U, Pt.locs, Pt.cells, Pt.slots] at X1 l1 y1 z1 st1 hQ1
  subst l1 y1 z1
  obtain ⟨r_1, rfl, Nq1, eq1, pq1_0⟩ := hQ1
  refine og T1 m 27 #[vR ab1, vI nw, vI 3] [(.int r_1)] st1 ?_
  have N1 := Fr.app N0 Nq1
  rcases pq1_0 with ⟨rfl, hs2⟩ | ⟨rfl, hs2⟩
  · skip
    refine og T1 m 31 #[vR ab1, vI nw, vI 3] [(.int 2)] (fun tgt kgo => ?_) ?_
    · refine XS.ifNo X1.here hx rfl (hb hby d40_27) rfl ((if0 _ _).trans (feq (by decide : ¬ ((1 : Int32) = (0 : Int32)))).1) ?_
      refine XS.iconst X1.here hx rfl (hb hby d40_30) ?_
      exact kgo
    refine own_leave X1 hlk (v := some (.int 2)) (fun h => by rw [Bd.returns] at h; cases h) (fun fs hr => retI X1 hx Bd.returns (hb hby d40_31) hr) (by decide) (by decide) ?_
    show Q_last_3 Z ab1 kc nw c1 c2 c3 c4 h0 n0 _ T1.heap _
    rw [eq1]
    exact ⟨(2 : Int32), rfl, N1, rfl, (by rw [if_pos hs2])⟩
  refine og T1 m 40 #[vR ab1, vI nw, vI 3] [(.int 1), (.int nw), (.ref ab1)] (fun tgt kgo => ?_) ?_
  · refine XS.ifYes X1.here hx rfl (pc0 := 27) (pc' := 32) rfl (hb hby d40_27) rfl ((if0 _ _).trans (teq (by decide : (0 : Int32) = (0 : Int32))).1) (by decide) (by decide) ?_
    refine XS.iloadN X1.here hx rfl (hb hby d40_32) rfl ?_
    refine XS.iconst X1.here hx rfl (hb hby d40_33) ?_
    show OwnG p e below T1 m 34 #[vR ab1, vI nw, vI 3] [(.int 1), (.int 3)] tgt
    refine XS.icmpNo X1.here hx rfl (hb hby d40_34) rfl (tlt (by decide : (1 : Int32) < (3 : Int32))).2.2.2 ?_
    refine XS.aloadN X1.here hx rfl (hb hby d40_37) rfl rfl ?_
    refine XS.iloadN X1.here hx rfl (hb hby d40_38) rfl ?_
    show OwnG p e below T1 m 39 #[vR ab1, vI nw, vI 3] [(.int nw), (.ref ab1)] tgt
    refine XS.iconst X1.here hx rfl (hb hby d40_39) ?_
    exact kgo
  obtain ⟨_, _, ⟨T3, L3, k3, n3⟩, -, X3, ⟨Lc3, hQ3, l3, y3, z3⟩, st3⟩ := Jvm.LawKit.callS X1 hx (y := mN39) hown (mvT hZ (own_w hw 112 rfl)) (mvT hZ (own_w hw 113 rfl)) (mvT hZ (own_w hw 4 rfl)) (mvT hZ (own_w hw 114 rfl)) (by decide) (backOf (W := 0) (rm_slash_1 l Z a0 hw [] wG1 wG3 wG5 wK5 cx hEL h0 n0 X00 ab1 kc nw c1 c2 c3 c4 f0) hZ (own_w hw 114 rfl) (own_w hw 4 rfl) (by decide) (by decide)) (g := (mkF m 40 #[vR ab1, vI nw, vI 3] [(.int 1), (.int nw), (.ref ab1)])) rfl (by rw [hml]; rfl) (argsL := [(.ref ab1), (.int nw), (.int 1)]) (rest := []) (lenOf pd_17795025 rfl) rfl (Nat.le_of_eq rfl) (hb hby d40_40) (fun _ _ => ⟨rfl, eq1, (by decide : 0 + 0 ≤ _), (by decide : 0 + 0 ≤ _)⟩)
  dsimp only [Pt.U, Pt.locs, Pt.cells, Pt.slots] at X3 l3 y3 z3 st3 hQ3
  subst l3 y3 z3
  obtain ⟨r_3, rfl, Nq3, eq3, pq3_0⟩ := hQ3
  refine og T3 m 43 #[vR ab1, vI nw, vI 3] [(.int r_3)] st3 ?_
  have N3 := Fr.app N1 Nq3
  rcases pq3_0 with ⟨rfl, hs1⟩ | ⟨rfl, hs1⟩
  · skip
    refine og T3 m 47 #[vR ab1, vI nw, vI 3] [(.int 1)] (fun tgt kgo => ?_) ?_
    · refine XS.ifNo X3.here hx rfl (hb hby d40_43) rfl ((if0 _ _).trans (feq (by decide : ¬ ((1 : Int32) = (0 : Int32)))).1) ?_
      refine XS.iconst X3.here hx rfl (hb hby d40_46) ?_
      exact kgo
    refine own_leave X3 hlk (v := some (.int 1)) (fun h => by rw [Bd.returns] at h; cases h) (fun fs hr => retI X3 hx Bd.returns (hb hby d40_47) hr) (by decide) (by decide) ?_
    show Q_last_3 Z ab1 kc nw c1 c2 c3 c4 h0 n0 _ T3.heap _
    rw [eq3]
    exact ⟨(1 : Int32), rfl, N3, rfl, (by rw [if_neg hs2, if_pos hs1])⟩
  refine og T3 m 55 #[vR ab1, vI nw, vI 3] [(.int 0), (.int nw), (.ref ab1)] (fun tgt kgo => ?_) ?_
  · refine XS.ifYes X3.here hx rfl (pc0 := 43) (pc' := 48) rfl (hb hby d40_43) rfl ((if0 _ _).trans (teq (by decide : (0 : Int32) = (0 : Int32))).1) (by decide) (by decide) ?_
    refine XS.iloadN X3.here hx rfl (hb hby d40_48) rfl ?_
    refine XS.ifNo X3.here hx rfl (hb hby d40_49) rfl ((if0 _ _).trans (tlt (by decide : (0 : Int32) < (3 : Int32))).2.2.2) ?_
    show OwnG p e below T3 m 52 #[vR ab1, vI nw, vI 3] [] tgt
    refine XS.aloadN X3.here hx rfl (hb hby d40_52) rfl rfl ?_
    refine XS.iloadN X3.here hx rfl (hb hby d40_53) rfl ?_
    refine XS.iconst X3.here hx rfl (hb hby d40_54) ?_
    exact kgo
  obtain ⟨_, _, ⟨T5, L5, k5, n5⟩, -, X5, ⟨Lc5, hQ5, l5, y5, z5⟩, st5⟩ := Jvm.LawKit.callS X3 hx (y := mN39) hown (mvT hZ (own_w hw 112 rfl)) (mvT hZ (own_w hw 113 rfl)) (mvT hZ (own_w hw 4 rfl)) (mvT hZ (own_w hw 114 rfl)) (by decide) (backOf (W := 0) (rm_slash_0 l Z a0 hw [] wG1 wG3 wG5 wK5 cx hEL h0 n0 X00 ab1 kc nw c1 c2 c3 c4 f0) hZ (own_w hw 114 rfl) (own_w hw 4 rfl) (by decide) (by decide)) (g := (mkF m 55 #[vR ab1, vI nw, vI 3] [(.int 0), (.int nw), (.ref ab1)])) rfl (by rw [hml]; rfl) (argsL := [(.ref ab1), (.int nw), (.int 0)]) (rest := []) (lenOf pd_17795025 rfl) rfl (Nat.le_of_eq rfl) (hb hby d40_55) (fun _ _ => ⟨rfl, eq3, (by decide : 0 + 0 ≤ _), (by decide : 0 + 0 ≤ _)⟩)
  dsimp only [Pt.U, Pt.locs, Pt.cells, Pt.slots] at X5 l5 y5 z5 st5 hQ5
  subst l5 y5 z5
  obtain ⟨r_5, rfl, Nq5, eq5, pq5_0⟩ := hQ5
  refine og T5 m 58 #[vR ab1, vI nw, vI 3] [(.int r_5)] st5 ?_
  have N5 := Fr.app N3 Nq5
  rcases pq5_0 with ⟨rfl, hs0⟩ | ⟨rfl, hs0⟩
  · skip
    refine og T5 m 62 #[vR ab1, vI nw, vI 3] [(.int 0)] (fun tgt kgo => ?_) ?_
    · refine XS.ifNo X5.here hx rfl (hb hby d40_58) rfl ((if0 _ _).trans (feq (by decide : ¬ ((1 : Int32) = (0 : Int32)))).1) ?_
      refine XS.iconst X5.here hx rfl (hb hby d40_61) ?_
      exact kgo
    refine own_leave X5 hlk (v := some (.int 0)) (fun h => by rw [Bd.returns] at h; cases h) (fun fs hr => retI X5 hx Bd.returns (hb hby d40_62) hr) (by decide) (by decide) ?_
    show Q_last_3 Z ab1 kc nw c1 c2 c3 c4 h0 n0 _ T5.heap _
    rw [eq5]
    exact ⟨(0 : Int32), rfl, N5, rfl, (by rw [if_neg hs2, if_neg hs1, if_pos hs0])⟩
  refine og T5 m 64 #[vR ab1, vI nw, vI 3] [(.int (-1))] (fun tgt kgo => ?_) ?_
  · refine XS.ifYes X5.here hx rfl (pc0 := 58) (pc' := 63) rfl (hb hby d40_58) rfl ((if0 _ _).trans (teq (by decide : (0 : Int32) = (0 : Int32))).1) (by decide) (by decide) ?_
    refine XS.iconst X5.here hx rfl (hb hby d40_63) ?_
    exact kgo
  refine own_leave X5 hlk (v := some (.int (-1))) (fun h => by rw [Bd.returns] at h; cases h) (fun fs hr => retI X5 hx Bd.returns (hb hby d40_64) hr) (by decide) (by decide) ?_
  show Q_last_3 Z ab1 kc nw c1 c2 c3 c4 h0 n0 _ T5.heap _
  rw [eq5]
  exact ⟨(-1 : Int32), rfl, N5, rfl, (by rw [if_neg hs2, if_neg hs1, if_neg hs0])⟩
theorem ef_in_0 (m : MethodId) (x0 : Addr) (x1 : Int32) (x3 : Int32) : entryFrame m #[(.ref x0), (.int x1), (.int 0), (.int x3)] 4 = mkF m 0 #[vR x0, vI x1, vI 0, vI x3] [] := by
  first | (simp [entryFrame, mkF, argsToLocals, Value.category]; done) | rfl
def Q_in_0 (Z : State) (ab1 : Addr) (kc : ClassId) (nw : Int32) (c1 : Int32) (c2 : Int32) (c3 : Int32) (c4 : Int32) (j1x : Int32) (h0 : Heap) (n0 : Nat) (v : Option Value) (h : Heap) (L : List Loc) : Prop := ∃ (r : Int32), v = some (.int r) ∧ Fr n0 L ∧ h = h0 ∧ (r = (oi nw (0 : Int32) c1 (0 : Int32) j1x))
theorem d41_0 : decode method_6_code 0 = .ok (.iload_n 2, 1) := by decide +kernel
theorem d41_1 : decode method_6_code 1 = .ok (.iload_n 1, 1) := by decide +kernel
theorem d41_2 : decode method_6_code 2 = .ok (.if_icmp .ge 27, 3) := by decide +kernel
theorem d41_5 : decode method_6_code 5 = .ok (.aload_n 0, 1) := by decide +kernel
theorem d41_6 : decode method_6_code 6 = .ok (.iload_n 2, 1) := by decide +kernel
theorem d41_7 : decode method_6_code 7 = .ok (.caload, 1) := by decide +kernel
theorem d41_8 : decode method_6_code 8 = .ok (.bipush 47, 2) := by decide +kernel
theorem d41_10 : decode method_6_code 10 = .ok (.if_icmp .eq 19, 3) := by decide +kernel
theorem d41_29 : decode method_6_code 29 = .ok (.iconst 0, 1) := by decide +kernel
theorem d41_30 : decode method_6_code 30 = .ok (.ireturn, 1) := by decide +kernel
theorem d41_13 : decode method_6_code 13 = .ok (.aload_n 0, 1) := by decide +kernel
theorem d41_14 : decode method_6_code 14 = .ok (.iload_n 1, 1) := by decide +kernel
theorem d41_15 : decode method_6_code 15 = .ok (.iload_n 2, 1) := by decide +kernel
theorem d41_16 : decode method_6_code 16 = .ok (.invokestatic 13, 3) := by decide +kernel
theorem pd_92517391 : parseMethodDescriptor "([CII)I" = some ⟨[(.array .char), .int, .int], some .int⟩ := by decide +kernel
theorem d41_19 : decode method_6_code 19 = .ok (.iconst 1, 1) := by decide +kernel
theorem d41_20 : decode method_6_code 20 = .ok (.isub, 1) := by decide +kernel
theorem d41_21 : decode method_6_code 21 = .ok (.iload_n 3, 1) := by decide +kernel
theorem d41_22 : decode method_6_code 22 = .ok (.if_icmp .ne 7, 3) := by decide +kernel
theorem d41_25 : decode method_6_code 25 = .ok (.iconst 1, 1) := by decide +kernel
theorem d41_26 : decode method_6_code 26 = .ok (.goto 4, 3) := by decide +kernel
set_option maxRecDepth 65536 in
set_option maxHeartbeats 40000000 in
theorem rm_in_0 (l : Launch) (Z : State) (a0 : Array Value) (hw : ∀ d ∈ tables_1, d.before a0 Z = true) (ws : List Jvm.Cond) (wG1 : Int32) (wG3 : Value) (wG5 : Addr) (wK5 : ClassId) (cx : OwnCx Z a0 wG1 wG3 wG5 wK5) (hEL : EW Z a0 consts_1) (h0 : Heap) (n0 : Nat) (X00 : Old Z n0 h0) (ab1 : Addr) (kc : ClassId) (nw : Int32) (c1 : Int32) (c2 : Int32) (c3 : Int32) (c4 : Int32) (j1x : Int32) (f0 : Arv Z h0 ab1 kc .char (4 : Int32) [(.int c1), (.int c2), (.int c3), (.int c4)] (.int 0)) :
    MetFree l mN42 (head1 (Jvm.Cond.code mN42 method_6_code 4 (some .int) :: ws) (oR 1 0 0 15)) (fun a U => a = #[(.ref ab1), (.int nw), (.int 0), (.int j1x)] ∧ Z.Warmed39 U.vm ∧ U.heap = h0) (fun _ _ _ _ _ => True) (fun _ U o U' => ∃ v L, o = .returned v ∧ Q_in_0 Z ab1 kc nw c1 c2 c3 c4 j1x h0 n0 v U'.heap L ∧ FrameEnd U o U' L (oR 1 0 0 15).cells (oR 1 0 0 15).slots) := by
  refine MetFree.of_bodySF (plainFor_of_name pn_43637772) hisR ?_
  intro p e s m args below meth c s₁ Bd hml0 hP hK
  obtain ⟨rfl, hZ, hh⟩ := hP
  obtain ⟨wO2, wP5, wO4, wrG3, hstr, wO5, wV5⟩ := id cx
  have hx := Bd.exec
  have hby := Bd.bytes
  have hlk := Bd.notSynchronized
  have hml : c.maxLocals = 4 := hml0
  have hown : s.vm.findClass "com/example/kindling/kindling/web/PathTemplateSegmentsPinLaw" = some m.cls := findClass_of_methodNamed Bd.named
  have hnm := (name_of_methodNamed Bd.named Bd.method).1
  have X0 : Stand p l e (oR 1 0 0 15) s m #[(.ref ab1), (.int nw), (.int 0), (.int j1x)] below meth c s₁ [] 0 0 := Stand.of_body Bd
  have e0 : s₁.heap = h0 := by rw [← hh, Bd.state]; rfl
  have N0 := Fr.nil n0
  have Z0 : n0 ≤ h0.size := X00.1 ▸ X00.2.1
  have K0 : Keep h0 h0 ([] : List Addr) := Keep.refl _ _
  show OwnGoes p e below _ s₁ (entryFrame m _ _)
  refine og s₁ m 0 #[vR ab1, vI nw, vI 0, vI j1x] [] (fun tgt kgo => castTop (ef_in_0 m ab1 nw j1x) kgo) ?_
  refine og s₁ m 2 #[vR ab1, vI nw, vI 0, vI j1x] [(.int nw), (.int 0)] (fun tgt kgo => ?_) ?_
  · refine XS.iloadN X0.here hx rfl (hb hby d41_0) rfl ?_
    refine XS.iloadN X0.here hx rfl (hb hby d41_1) rfl ?_
    exact kgo
  by_cases cc1 : (0 : Int32) < nw
  · skip
    refine og s₁ m 10 #[vR ab1, vI nw, vI 0, vI j1x] [(.int 47), (.int c1)] (fun tgt kgo => ?_) ?_
    · refine XS.icmpNo X0.here hx rfl (hb hby d41_2) rfl (tlt cc1).2.1 ?_
      refine XS.aloadN X0.here hx rfl (hb hby d41_5) rfl rfl ?_
      refine XS.iloadN X0.here hx rfl (hb hby d41_6) rfl ?_
      show OwnG p e below s₁ m 7 #[vR ab1, vI nw, vI 0, vI j1x] [(.int 0), (.ref ab1)] tgt
      obtain ⟨cl2, Ar2, q2, S2, M2, H2, G2⟩ := f0
      refine X0.caload hx (j := (0 : Int32)) (v := (.int c1)) (by rw [e0]; exact Ar2.1) (State.isArrayOf_alike hZ.alike Ar2.2.1) Ar2.2.2 (inb_of S2 ⟨by decide, by decide⟩) (Has.at H2 (inb_of S2 ⟨by decide, by decide⟩) rfl) (g := (mkF m 7 #[vR ab1, vI nw, vI 0, vI j1x] [(.int 0), (.ref ab1)])) rfl rfl (hb hby d41_7) _ ?_
      refine XS.bipush X0.here hx rfl (hb hby d41_8) ?_
      exact kgo
    by_cases cc3 : c1 = (47 : Int32)
    · skip
      refine og s₁ m 30 #[vR ab1, vI nw, vI 0, vI j1x] [(.int 0)] (fun tgt kgo => ?_) ?_
      · refine XS.icmpYes X0.here hx rfl (pc0 := 10) (pc' := 29) rfl (hb hby d41_10) rfl (teq cc3).1 (by decide) (by decide) ?_
        refine XS.iconst X0.here hx rfl (hb hby d41_29) ?_
        exact kgo
      refine own_leave X0 hlk (v := some (.int 0)) (fun h => by rw [Bd.returns] at h; cases h) (fun fs hr => retI X0 hx Bd.returns (hb hby d41_30) hr) (by decide) (by decide) ?_
      show Q_in_0 Z ab1 kc nw c1 c2 c3 c4 j1x h0 n0 _ s₁.heap _
      rw [e0]
      exact ⟨(0 : Int32), rfl, N0, rfl, (if_neg (fun z => z.2.1 cc3)).symm⟩
    refine og s₁ m 16 #[vR ab1, vI nw, vI 0, vI j1x] [(.int 0), (.int nw), (.ref ab1)] (fun tgt kgo => ?_) ?_
    · refine XS.icmpNo X0.here hx rfl (hb hby d41_10) rfl (feq cc3).1 ?_
      refine XS.aloadN X0.here hx rfl (hb hby d41_13) rfl rfl ?_
      refine XS.iloadN X0.here hx rfl (hb hby d41_14) rfl ?_
      show OwnG p e below s₁ m 15 #[vR ab1, vI nw, vI 0, vI j1x] [(.int nw), (.ref ab1)] tgt
      refine XS.iloadN X0.here hx rfl (hb hby d41_15) rfl ?_
      exact kgo
    obtain ⟨_, _, ⟨T5, L5, k5, n5⟩, -, X5, ⟨Lc5, hQ5, l5, y5, z5⟩, st5⟩ := Jvm.LawKit.callS X0 hx (y := mN40) hown (mvT hZ (own_w hw 109 rfl)) (mvT hZ (own_w hw 110 rfl)) (mvT hZ (own_w hw 4 rfl)) (mvT hZ (own_w hw 111 rfl)) (by decide) (backOf (W := 0) (rm_cnt_0 l Z a0 hw [] wG1 wG3 wG5 wK5 cx hEL h0 n0 X00 ab1 kc nw c1 c2 c3 c4 f0) hZ (own_w hw 111 rfl) (own_w hw 4 rfl) (by decide) (by decide)) (g := (mkF m 16 #[vR ab1, vI nw, vI 0, vI j1x] [(.int 0), (.int nw), (.ref ab1)])) rfl (by rw [hml]; rfl) (argsL := [(.ref ab1), (.int nw), (.int 0)]) (rest := []) (lenOf pd_92517391 rfl) rfl (Nat.le_of_eq rfl) (hb hby d41_16) (fun _ _ => ⟨rfl, e0, (by decide : 0 + 0 ≤ _), (by decide : 0 + 0 ≤ _)⟩)
    dsimp only [Pt.U, Pt.locs, Pt.cells, Pt.slots] at X5 l5 y5 z5 st5 hQ5
    subst l5 y5 z5
    obtain ⟨rfl, Nq5, eq5⟩ := hQ5
    refine og T5 m 19 #[vR ab1, vI nw, vI 0, vI j1x] [(.int 0)] st5 ?_
    have N5 := Fr.app N0 Nq5
    refine og T5 m 22 #[vR ab1, vI nw, vI 0, vI j1x] [(.int j1x), (.int (-1))] (fun tgt kgo => ?_) ?_
    · refine XS.iconst X5.here hx rfl (hb hby d41_19) ?_
      refine XS.isub X5.here hx rfl (hb hby d41_20) rfl ?_
      refine XS.iloadN X5.here hx rfl (hb hby d41_21) rfl ?_
      exact kgo
    by_cases cc6 : (-1 : Int32) = j1x
    · skip
      refine og T5 m 30 #[vR ab1, vI nw, vI 0, vI j1x] [(.int 1)] (fun tgt kgo => ?_) ?_
      · refine XS.icmpNo X5.here hx rfl (hb hby d41_22) rfl (teq cc6).2 ?_
        refine XS.iconst X5.here hx rfl (hb hby d41_25) ?_
        refine XS.goto X5.here hx rfl (pc0 := 26) (pc' := 30) rfl (hb hby d41_26) (by decide) (by decide) ?_
        exact kgo
      refine own_leave X5 hlk (v := some (.int 1)) (fun h => by rw [Bd.returns] at h; cases h) (fun fs hr => retI X5 hx Bd.returns (hb hby d41_30) hr) (by decide) (by decide) ?_
      show Q_in_0 Z ab1 kc nw c1 c2 c3 c4 j1x h0 n0 _ T5.heap _
      rw [eq5]
      exact ⟨(1 : Int32), rfl, N5, rfl, (if_pos ⟨cc1, cc3, (by assumption)⟩).symm⟩
    refine og T5 m 30 #[vR ab1, vI nw, vI 0, vI j1x] [(.int 0)] (fun tgt kgo => ?_) ?_
    · refine XS.icmpYes X5.here hx rfl (pc0 := 22) (pc' := 29) rfl (hb hby d41_22) rfl (feq cc6).2 (by decide) (by decide) ?_
      refine XS.iconst X5.here hx rfl (hb hby d41_29) ?_
      exact kgo
    refine own_leave X5 hlk (v := some (.int 0)) (fun h => by rw [Bd.returns] at h; cases h) (fun fs hr => retI X5 hx Bd.returns (hb hby d41_30) hr) (by decide) (by decide) ?_
    show Q_in_0 Z ab1 kc nw c1 c2 c3 c4 j1x h0 n0 _ T5.heap _
    rw [eq5]
    exact ⟨(0 : Int32), rfl, N5, rfl, (if_neg (fun z => cc6 z.2.2)).symm⟩
  refine og s₁ m 30 #[vR ab1, vI nw, vI 0, vI j1x] [(.int 0)] (fun tgt kgo => ?_) ?_
  · refine XS.icmpYes X0.here hx rfl (pc0 := 2) (pc' := 29) rfl (hb hby d41_2) rfl (flt cc1).2.1 (by decide) (by decide) ?_
    refine XS.iconst X0.here hx rfl (hb hby d41_29) ?_
    exact kgo
  refine own_leave X0 hlk (v := some (.int 0)) (fun h => by rw [Bd.returns] at h; cases h) (fun fs hr => retI X0 hx Bd.returns (hb hby d41_30) hr) (by decide) (by decide) ?_
  show Q_in_0 Z ab1 kc nw c1 c2 c3 c4 j1x h0 n0 _ s₁.heap _
  rw [e0]
  exact ⟨(0 : Int32), rfl, N0, rfl, (if_neg (fun z => cc1 z.1)).symm⟩
theorem ef_in_1 (m : MethodId) (x0 : Addr) (x1 : Int32) (x3 : Int32) : entryFrame m #[(.ref x0), (.int x1), (.int 1), (.int x3)] 4 = mkF m 0 #[vR x0, vI x1, vI 1, vI x3] [] := by
  first | (simp [entryFrame, mkF, argsToLocals, Value.category]; done) | rfl
def Q_in_1 (Z : State) (ab1 : Addr) (kc : ClassId) (nw : Int32) (c1 : Int32) (c2 : Int32) (c3 : Int32) (c4 : Int32) (j1x : Int32) (h0 : Heap) (n0 : Nat) (v : Option Value) (h : Heap) (L : List Loc) : Prop := ∃ (r : Int32), v = some (.int r) ∧ Fr n0 L ∧ h = h0 ∧ (r = (oi nw (1 : Int32) c2 (oc nw (0 : Int32) c1 (0 : Int32)) j1x))
set_option maxRecDepth 65536 in
set_option maxHeartbeats 40000000 in
theorem rm_in_1 (l : Launch) (Z : State) (a0 : Array Value) (hw : ∀ d ∈ tables_1, d.before a0 Z = true) (ws : List Jvm.Cond) (wG1 : Int32) (wG3 : Value) (wG5 : Addr) (wK5 : ClassId) (cx : OwnCx Z a0 wG1 wG3 wG5 wK5) (hEL : EW Z a0 consts_1) (h0 : Heap) (n0 : Nat) (X00 : Old Z n0 h0) (ab1 : Addr) (kc : ClassId) (nw : Int32) (c1 : Int32) (c2 : Int32) (c3 : Int32) (c4 : Int32) (j1x : Int32) (f0 : Arv Z h0 ab1 kc .char (4 : Int32) [(.int c1), (.int c2), (.int c3), (.int c4)] (.int 0)) :
    MetFree l mN42 (head1 (Jvm.Cond.code mN42 method_6_code 4 (some .int) :: ws) (oR 2 0 0 29)) (fun a U => a = #[(.ref ab1), (.int nw), (.int 1), (.int j1x)] ∧ Z.Warmed39 U.vm ∧ U.heap = h0) (fun _ _ _ _ _ => True) (fun _ U o U' => ∃ v L, o = .returned v ∧ Q_in_1 Z ab1 kc nw c1 c2 c3 c4 j1x h0 n0 v U'.heap L ∧ FrameEnd U o U' L (oR 2 0 0 29).cells (oR 2 0 0 29).slots) := by
  refine MetFree.of_bodySF (plainFor_of_name pn_43637772) hisR ?_
  intro p e s m args below meth c s₁ Bd hml0 hP hK
  obtain ⟨rfl, hZ, hh⟩ := hP
  obtain ⟨wO2, wP5, wO4, wrG3, hstr, wO5, wV5⟩ := id cx
  have hx := Bd.exec
  have hby := Bd.bytes
  have hlk := Bd.notSynchronized
  have hml : c.maxLocals = 4 := hml0
  have hown : s.vm.findClass "com/example/kindling/kindling/web/PathTemplateSegmentsPinLaw" = some m.cls := findClass_of_methodNamed Bd.named
  have hnm := (name_of_methodNamed Bd.named Bd.method).1
  have X0 : Stand p l e (oR 2 0 0 29) s m #[(.ref ab1), (.int nw), (.int 1), (.int j1x)] below meth c s₁ [] 0 0 := Stand.of_body Bd
  have e0 : s₁.heap = h0 := by rw [← hh, Bd.state]; rfl
  have N0 := Fr.nil n0
  have Z0 : n0 ≤ h0.size := X00.1 ▸ X00.2.1
  have K0 : Keep h0 h0 ([] : List Addr) := Keep.refl _ _
  show OwnGoes p e below _ s₁ (entryFrame m _ _)
  refine og s₁ m 0 #[vR ab1, vI nw, vI 1, vI j1x] [] (fun tgt kgo => castTop (ef_in_1 m ab1 nw j1x) kgo) ?_
  refine og s₁ m 2 #[vR ab1, vI nw, vI 1, vI j1x] [(.int nw), (.int 1)] (fun tgt kgo => ?_) ?_
  · refine XS.iloadN X0.here hx rfl (hb hby d41_0) rfl ?_
    refine XS.iloadN X0.here hx rfl (hb hby d41_1) rfl ?_
    exact kgo
  by_cases cc1 : (1 : Int32) < nw
  · skip
    refine og s₁ m 10 #[vR ab1, vI nw, vI 1, vI j1x] [(.int 47), (.int c2)] (fun tgt kgo => ?_) ?_
    · refine XS.icmpNo X0.here hx rfl (hb hby d41_2) rfl (tlt cc1).2.1 ?_
      refine XS.aloadN X0.here hx rfl (hb hby d41_5) rfl rfl ?_
      refine XS.iloadN X0.here hx rfl (hb hby d41_6) rfl ?_
      show OwnG p e below s₁ m 7 #[vR ab1, vI nw, vI 1, vI j1x] [(.int 1), (.ref ab1)] tgt
      obtain ⟨cl2, Ar2, q2, S2, M2, H2, G2⟩ := f0
      refine X0.caload hx (j := (1 : Int32)) (v := (.int c2)) (by rw [e0]; exact Ar2.1) (State.isArrayOf_alike hZ.alike Ar2.2.1) Ar2.2.2 (inb_of S2 ⟨by decide, by decide⟩) (Has.at H2 (inb_of S2 ⟨by decide, by decide⟩) rfl) (g := (mkF m 7 #[vR ab1, vI nw, vI 1, vI j1x] [(.int 1), (.ref ab1)])) rfl rfl (hb hby d41_7) _ ?_
      refine XS.bipush X0.here hx rfl (hb hby d41_8) ?_
      exact kgo
    by_cases cc3 : c2 = (47 : Int32)
    · skip
      refine og s₁ m 30 #[vR ab1, vI nw, vI 1, vI j1x] [(.int 0)] (fun tgt kgo => ?_) ?_
      · refine XS.icmpYes X0.here hx rfl (pc0 := 10) (pc' := 29) rfl (hb hby d41_10) rfl (teq cc3).1 (by decide) (by decide) ?_
        refine XS.iconst X0.here hx rfl (hb hby d41_29) ?_
        exact kgo
      refine own_leave X0 hlk (v := some (.int 0)) (fun h => by rw [Bd.returns] at h; cases h) (fun fs hr => retI X0 hx Bd.returns (hb hby d41_30) hr) (by decide) (by decide) ?_
      show Q_in_1 Z ab1 kc nw c1 c2 c3 c4 j1x h0 n0 _ s₁.heap _
      rw [e0]
      exact ⟨(0 : Int32), rfl, N0, rfl, (if_neg (fun z => z.2.1 cc3)).symm⟩
    refine og s₁ m 16 #[vR ab1, vI nw, vI 1, vI j1x] [(.int 1), (.int nw), (.ref ab1)] (fun tgt kgo => ?_) ?_
    · refine XS.icmpNo X0.here hx rfl (hb hby d41_10) rfl (feq cc3).1 ?_
      refine XS.aloadN X0.here hx rfl (hb hby d41_13) rfl rfl ?_
      refine XS.iloadN X0.here hx rfl (hb hby d41_14) rfl ?_
      show OwnG p e below s₁ m 15 #[vR ab1, vI nw, vI 1, vI j1x] [(.int nw), (.ref ab1)] tgt
      refine XS.iloadN X0.here hx rfl (hb hby d41_15) rfl ?_
      exact kgo
    obtain ⟨_, _, ⟨T5, L5, k5, n5⟩, -, X5, ⟨Lc5, hQ5, l5, y5, z5⟩, st5⟩ := Jvm.LawKit.callS X0 hx (y := mN40) hown (mvT hZ (own_w hw 109 rfl)) (mvT hZ (own_w hw 110 rfl)) (mvT hZ (own_w hw 4 rfl)) (mvT hZ (own_w hw 111 rfl)) (by decide) (backOf (W := 0) (rm_cnt_1 l Z a0 hw [] wG1 wG3 wG5 wK5 cx hEL h0 n0 X00 ab1 kc nw c1 c2 c3 c4 f0) hZ (own_w hw 111 rfl) (own_w hw 4 rfl) (by decide) (by decide)) (g := (mkF m 16 #[vR ab1, vI nw, vI 1, vI j1x] [(.int 1), (.int nw), (.ref ab1)])) rfl (by rw [hml]; rfl) (argsL := [(.ref ab1), (.int nw), (.int 1)]) (rest := []) (lenOf pd_92517391 rfl) rfl (Nat.le_of_eq rfl) (hb hby d41_16) (fun _ _ => ⟨rfl, e0, (by decide : 0 + 0 ≤ _), (by decide : 0 + 0 ≤ _)⟩)
    dsimp only [Pt.U, Pt.locs, Pt.cells, Pt.slots] at X5 l5 y5 z5 st5 hQ5
    subst l5 y5 z5
    obtain ⟨rfl, Nq5, eq5⟩ := hQ5
    refine og T5 m 19 #[vR ab1, vI nw, vI 1, vI j1x] [(.int (oc nw (0 : Int32) c1 (0 : Int32)))] st5 ?_
    have N5 := Fr.app N0 Nq5
    refine og T5 m 22 #[vR ab1, vI nw, vI 1, vI j1x] [(.int j1x), (.int ((oc nw (0 : Int32) c1 (0 : Int32)) - (1 : Int32)))] (fun tgt kgo => ?_) ?_
    · refine XS.iconst X5.here hx rfl (hb hby d41_19) ?_
      refine XS.isub X5.here hx rfl (hb hby d41_20) rfl ?_
      refine XS.iloadN X5.here hx rfl (hb hby d41_21) rfl ?_
      exact kgo
    by_cases cc6 : ((oc nw (0 : Int32) c1 (0 : Int32)) - (1 : Int32)) = j1x
    · skip
      refine og T5 m 30 #[vR ab1, vI nw, vI 1, vI j1x] [(.int 1)] (fun tgt kgo => ?_) ?_
      · refine XS.icmpNo X5.here hx rfl (hb hby d41_22) rfl (teq cc6).2 ?_
        refine XS.iconst X5.here hx rfl (hb hby d41_25) ?_
        refine XS.goto X5.here hx rfl (pc0 := 26) (pc' := 30) rfl (hb hby d41_26) (by decide) (by decide) ?_
        exact kgo
      refine own_leave X5 hlk (v := some (.int 1)) (fun h => by rw [Bd.returns] at h; cases h) (fun fs hr => retI X5 hx Bd.returns (hb hby d41_30) hr) (by decide) (by decide) ?_
      show Q_in_1 Z ab1 kc nw c1 c2 c3 c4 j1x h0 n0 _ T5.heap _
      rw [eq5]
      exact ⟨(1 : Int32), rfl, N5, rfl, (if_pos ⟨cc1, cc3, cc6⟩).symm⟩
    refine og T5 m 30 #[vR ab1, vI nw, vI 1, vI j1x] [(.int 0)] (fun tgt kgo => ?_) ?_
    · refine XS.icmpYes X5.here hx rfl (pc0 := 22) (pc' := 29) rfl (hb hby d41_22) rfl (feq cc6).2 (by decide) (by decide) ?_
      refine XS.iconst X5.here hx rfl (hb hby d41_29) ?_
      exact kgo
    refine own_leave X5 hlk (v := some (.int 0)) (fun h => by rw [Bd.returns] at h; cases h) (fun fs hr => retI X5 hx Bd.returns (hb hby d41_30) hr) (by decide) (by decide) ?_
    show Q_in_1 Z ab1 kc nw c1 c2 c3 c4 j1x h0 n0 _ T5.heap _
    rw [eq5]
    exact ⟨(0 : Int32), rfl, N5, rfl, (if_neg (fun z => cc6 z.2.2)).symm⟩
  refine og s₁ m 30 #[vR ab1, vI nw, vI 1, vI j1x] [(.int 0)] (fun tgt kgo => ?_) ?_
  · refine XS.icmpYes X0.here hx rfl (pc0 := 2) (pc' := 29) rfl (hb hby d41_2) rfl (flt cc1).2.1 (by decide) (by decide) ?_
    refine XS.iconst X0.here hx rfl (hb hby d41_29) ?_
    exact kgo
  refine own_leave X0 hlk (v := some (.int 0)) (fun h => by rw [Bd.returns] at h; cases h) (fun fs hr => retI X0 hx Bd.returns (hb hby d41_30) hr) (by decide) (by decide) ?_
  show Q_in_1 Z ab1 kc nw c1 c2 c3 c4 j1x h0 n0 _ s₁.heap _
  rw [e0]
  exact ⟨(0 : Int32), rfl, N0, rfl, (if_neg (fun z => cc1 z.1)).symm⟩
theorem ef_in_2 (m : MethodId) (x0 : Addr) (x1 : Int32) (x3 : Int32) : entryFrame m #[(.ref x0), (.int x1), (.int 2), (.int x3)] 4 = mkF m 0 #[vR x0, vI x1, vI 2, vI x3] [] := by
  first | (simp [entryFrame, mkF, argsToLocals, Value.category]; done) | rfl
def Q_in_2 (Z : State) (ab1 : Addr) (kc : ClassId) (nw : Int32) (c1 : Int32) (c2 : Int32) (c3 : Int32) (c4 : Int32) (j1x : Int32) (h0 : Heap) (n0 : Nat) (v : Option Value) (h : Heap) (L : List Loc) : Prop := ∃ (r : Int32), v = some (.int r) ∧ Fr n0 L ∧ h = h0 ∧ (r = (oi nw (2 : Int32) c3 (oc nw (1 : Int32) c2 (oc nw (0 : Int32) c1 (0 : Int32))) j1x))
set_option maxRecDepth 65536 in
set_option maxHeartbeats 40000000 in
theorem rm_in_2 (l : Launch) (Z : State) (a0 : Array Value) (hw : ∀ d ∈ tables_1, d.before a0 Z = true) (ws : List Jvm.Cond) (wG1 : Int32) (wG3 : Value) (wG5 : Addr) (wK5 : ClassId) (cx : OwnCx Z a0 wG1 wG3 wG5 wK5) (hEL : EW Z a0 consts_1) (h0 : Heap) (n0 : Nat) (X00 : Old Z n0 h0) (ab1 : Addr) (kc : ClassId) (nw : Int32) (c1 : Int32) (c2 : Int32) (c3 : Int32) (c4 : Int32) (j1x : Int32) (f0 : Arv Z h0 ab1 kc .char (4 : Int32) [(.int c1), (.int c2), (.int c3), (.int c4)] (.int 0)) :
    MetFree l mN42 (head1 (Jvm.Cond.code mN42 method_6_code 4 (some .int) :: ws) (oR 2 0 0 29)) (fun a U => a = #[(.ref ab1), (.int nw), (.int 2), (.int j1x)] ∧ Z.Warmed39 U.vm ∧ U.heap = h0) (fun _ _ _ _ _ => True) (fun _ U o U' => ∃ v L, o = .returned v ∧ Q_in_2 Z ab1 kc nw c1 c2 c3 c4 j1x h0 n0 v U'.heap L ∧ FrameEnd U o U' L (oR 2 0 0 29).cells (oR 2 0 0 29).slots) := by
  refine MetFree.of_bodySF (plainFor_of_name pn_43637772) hisR ?_
  intro p e s m args below meth c s₁ Bd hml0 hP hK
  obtain ⟨rfl, hZ, hh⟩ := hP
  obtain ⟨wO2, wP5, wO4, wrG3, hstr, wO5, wV5⟩ := id cx
  have hx := Bd.exec
  have hby := Bd.bytes
  have hlk := Bd.notSynchronized
  have hml : c.maxLocals = 4 := hml0
  have hown : s.vm.findClass "com/example/kindling/kindling/web/PathTemplateSegmentsPinLaw" = some m.cls := findClass_of_methodNamed Bd.named
  have hnm := (name_of_methodNamed Bd.named Bd.method).1
  have X0 : Stand p l e (oR 2 0 0 29) s m #[(.ref ab1), (.int nw), (.int 2), (.int j1x)] below meth c s₁ [] 0 0 := Stand.of_body Bd
  have e0 : s₁.heap = h0 := by rw [← hh, Bd.state]; rfl
  have N0 := Fr.nil n0
  have Z0 : n0 ≤ h0.size := X00.1 ▸ X00.2.1
  have K0 : Keep h0 h0 ([] : List Addr) := Keep.refl _ _
  show OwnGoes p e below _ s₁ (entryFrame m _ _)
  refine og s₁ m 0 #[vR ab1, vI nw, vI 2, vI j1x] [] (fun tgt kgo => castTop (ef_in_2 m ab1 nw j1x) kgo) ?_
  refine og s₁ m 2 #[vR ab1, vI nw, vI 2, vI j1x] [(.int nw), (.int 2)] (fun tgt kgo => ?_) ?_
  · refine XS.iloadN X0.here hx rfl (hb hby d41_0) rfl ?_
    refine XS.iloadN X0.here hx rfl (hb hby d41_1) rfl ?_
    exact kgo
  by_cases cc1 : (2 : Int32) < nw
  · skip
    refine og s₁ m 10 #[vR ab1, vI nw, vI 2, vI j1x] [(.int 47), (.int c3)] (fun tgt kgo => ?_) ?_
    · refine XS.icmpNo X0.here hx rfl (hb hby d41_2) rfl (tlt cc1).2.1 ?_
      refine XS.aloadN X0.here hx rfl (hb hby d41_5) rfl rfl ?_
      refine XS.iloadN X0.here hx rfl (hb hby d41_6) rfl ?_
      show OwnG p e below s₁ m 7 #[vR ab1, vI nw, vI 2, vI j1x] [(.int 2), (.ref ab1)] tgt
      obtain ⟨cl2, Ar2, q2, S2, M2, H2, G2⟩ := f0
      refine X0.caload hx (j := (2 : Int32)) (v := (.int c3)) (by rw [e0]; exact Ar2.1) (State.isArrayOf_alike hZ.alike Ar2.2.1) Ar2.2.2 (inb_of S2 ⟨by decide, by decide⟩) (Has.at H2 (inb_of S2 ⟨by decide, by decide⟩) rfl) (g := (mkF m 7 #[vR ab1, vI nw, vI 2, vI j1x] [(.int 2), (.ref ab1)])) rfl rfl (hb hby d41_7) _ ?_
      refine XS.bipush X0.here hx rfl (hb hby d41_8) ?_
      exact kgo
    by_cases cc3 : c3 = (47 : Int32)
    · skip
      refine og s₁ m 30 #[vR ab1, vI nw, vI 2, vI j1x] [(.int 0)] (fun tgt kgo => ?_) ?_
      · refine XS.icmpYes X0.here hx rfl (pc0 := 10) (pc' := 29) rfl (hb hby d41_10) rfl (teq cc3).1 (by decide) (by decide) ?_
        refine XS.iconst X0.here hx rfl (hb hby d41_29) ?_
        exact kgo
      refine own_leave X0 hlk (v := some (.int 0)) (fun h => by rw [Bd.returns] at h; cases h) (fun fs hr => retI X0 hx Bd.returns (hb hby d41_30) hr) (by decide) (by decide) ?_
      show Q_in_2 Z ab1 kc nw c1 c2 c3 c4 j1x h0 n0 _ s₁.heap _
      rw [e0]
      exact ⟨(0 : Int32), rfl, N0, rfl, (if_neg (fun z => z.2.1 cc3)).symm⟩
    refine og s₁ m 16 #[vR ab1, vI nw, vI 2, vI j1x] [(.int 2), (.int nw), (.ref ab1)] (fun tgt kgo => ?_) ?_
    · refine XS.icmpNo X0.here hx rfl (hb hby d41_10) rfl (feq cc3).1 ?_
      refine XS.aloadN X0.here hx rfl (hb hby d41_13) rfl rfl ?_
      refine XS.iloadN X0.here hx rfl (hb hby d41_14) rfl ?_
      show OwnG p e below s₁ m 15 #[vR ab1, vI nw, vI 2, vI j1x] [(.int nw), (.ref ab1)] tgt
      refine XS.iloadN X0.here hx rfl (hb hby d41_15) rfl ?_
      exact kgo
    obtain ⟨_, _, ⟨T5, L5, k5, n5⟩, -, X5, ⟨Lc5, hQ5, l5, y5, z5⟩, st5⟩ := Jvm.LawKit.callS X0 hx (y := mN40) hown (mvT hZ (own_w hw 109 rfl)) (mvT hZ (own_w hw 110 rfl)) (mvT hZ (own_w hw 4 rfl)) (mvT hZ (own_w hw 111 rfl)) (by decide) (backOf (W := 0) (rm_cnt_2 l Z a0 hw [] wG1 wG3 wG5 wK5 cx hEL h0 n0 X00 ab1 kc nw c1 c2 c3 c4 f0) hZ (own_w hw 111 rfl) (own_w hw 4 rfl) (by decide) (by decide)) (g := (mkF m 16 #[vR ab1, vI nw, vI 2, vI j1x] [(.int 2), (.int nw), (.ref ab1)])) rfl (by rw [hml]; rfl) (argsL := [(.ref ab1), (.int nw), (.int 2)]) (rest := []) (lenOf pd_92517391 rfl) rfl (Nat.le_of_eq rfl) (hb hby d41_16) (fun _ _ => ⟨rfl, e0, (by decide : 0 + 0 ≤ _), (by decide : 0 + 0 ≤ _)⟩)
    dsimp only [Pt.U, Pt.locs, Pt.cells, Pt.slots] at X5 l5 y5 z5 st5 hQ5
    subst l5 y5 z5
    obtain ⟨rfl, Nq5, eq5⟩ := hQ5
    refine og T5 m 19 #[vR ab1, vI nw, vI 2, vI j1x] [(.int (oc nw (1 : Int32) c2 (oc nw (0 : Int32) c1 (0 : Int32))))] st5 ?_
    have N5 := Fr.app N0 Nq5
    refine og T5 m 22 #[vR ab1, vI nw, vI 2, vI j1x] [(.int j1x), (.int ((oc nw (1 : Int32) c2 (oc nw (0 : Int32) c1 (0 : Int32))) - (1 : Int32)))] (fun tgt kgo => ?_) ?_
    · refine XS.iconst X5.here hx rfl (hb hby d41_19) ?_
      refine XS.isub X5.here hx rfl (hb hby d41_20) rfl ?_
      refine XS.iloadN X5.here hx rfl (hb hby d41_21) rfl ?_
      exact kgo
    by_cases cc6 : ((oc nw (1 : Int32) c2 (oc nw (0 : Int32) c1 (0 : Int32))) - (1 : Int32)) = j1x
    · skip
      refine og T5 m 30 #[vR ab1, vI nw, vI 2, vI j1x] [(.int 1)] (fun tgt kgo => ?_) ?_
      · refine XS.icmpNo X5.here hx rfl (hb hby d41_22) rfl (teq cc6).2 ?_
        refine XS.iconst X5.here hx rfl (hb hby d41_25) ?_
        refine XS.goto X5.here hx rfl (pc0 := 26) (pc' := 30) rfl (hb hby d41_26) (by decide) (by decide) ?_
        exact kgo
      refine own_leave X5 hlk (v := some (.int 1)) (fun h => by rw [Bd.returns] at h; cases h) (fun fs hr => retI X5 hx Bd.returns (hb hby d41_30) hr) (by decide) (by decide) ?_
      show Q_in_2 Z ab1 kc nw c1 c2 c3 c4 j1x h0 n0 _ T5.heap _
      rw [eq5]
      exact ⟨(1 : Int32), rfl, N5, rfl, (if_pos ⟨cc1, cc3, cc6⟩).symm⟩
    refine og T5 m 30 #[vR ab1, vI nw, vI 2, vI j1x] [(.int 0)] (fun tgt kgo => ?_) ?_
    · refine XS.icmpYes X5.here hx rfl (pc0 := 22) (pc' := 29) rfl (hb hby d41_22) rfl (feq cc6).2 (by decide) (by decide) ?_
      refine XS.iconst X5.here hx rfl (hb hby d41_29) ?_
      exact kgo
    refine own_leave X5 hlk (v := some (.int 0)) (fun h => by rw [Bd.returns] at h; cases h) (fun fs hr => retI X5 hx Bd.returns (hb hby d41_30) hr) (by decide) (by decide) ?_
    show Q_in_2 Z ab1 kc nw c1 c2 c3 c4 j1x h0 n0 _ T5.heap _
    rw [eq5]
    exact ⟨(0 : Int32), rfl, N5, rfl, (if_neg (fun z => cc6 z.2.2)).symm⟩
  refine og s₁ m 30 #[vR ab1, vI nw, vI 2, vI j1x] [(.int 0)] (fun tgt kgo => ?_) ?_
  · refine XS.icmpYes X0.here hx rfl (pc0 := 2) (pc' := 29) rfl (hb hby d41_2) rfl (flt cc1).2.1 (by decide) (by decide) ?_
    refine XS.iconst X0.here hx rfl (hb hby d41_29) ?_
    exact kgo
  refine own_leave X0 hlk (v := some (.int 0)) (fun h => by rw [Bd.returns] at h; cases h) (fun fs hr => retI X0 hx Bd.returns (hb hby d41_30) hr) (by decide) (by decide) ?_
  show Q_in_2 Z ab1 kc nw c1 c2 c3 c4 j1x h0 n0 _ s₁.heap _
  rw [e0]
  exact ⟨(0 : Int32), rfl, N0, rfl, (if_neg (fun z => cc1 z.1)).symm⟩
theorem ef_in_3 (m : MethodId) (x0 : Addr) (x1 : Int32) (x3 : Int32) : entryFrame m #[(.ref x0), (.int x1), (.int 3), (.int x3)] 4 = mkF m 0 #[vR x0, vI x1, vI 3, vI x3] [] := by
  first | (simp [entryFrame, mkF, argsToLocals, Value.category]; done) | rfl
def Q_in_3 (Z : State) (ab1 : Addr) (kc : ClassId) (nw : Int32) (c1 : Int32) (c2 : Int32) (c3 : Int32) (c4 : Int32) (j1x : Int32) (h0 : Heap) (n0 : Nat) (v : Option Value) (h : Heap) (L : List Loc) : Prop := ∃ (r : Int32), v = some (.int r) ∧ Fr n0 L ∧ h = h0 ∧ (r = (oi nw (3 : Int32) c4 (oc nw (2 : Int32) c3 (oc nw (1 : Int32) c2 (oc nw (0 : Int32) c1 (0 : Int32)))) j1x))
set_option maxRecDepth 65536 in
set_option maxHeartbeats 40000000 in
theorem rm_in_3 (l : Launch) (Z : State) (a0 : Array Value) (hw : ∀ d ∈ tables_1, d.before a0 Z = true) (ws : List Jvm.Cond) (wG1 : Int32) (wG3 : Value) (wG5 : Addr) (wK5 : ClassId) (cx : OwnCx Z a0 wG1 wG3 wG5 wK5) (hEL : EW Z a0 consts_1) (h0 : Heap) (n0 : Nat) (X00 : Old Z n0 h0) (ab1 : Addr) (kc : ClassId) (nw : Int32) (c1 : Int32) (c2 : Int32) (c3 : Int32) (c4 : Int32) (j1x : Int32) (f0 : Arv Z h0 ab1 kc .char (4 : Int32) [(.int c1), (.int c2), (.int c3), (.int c4)] (.int 0)) :
    MetFree l mN42 (head1 (Jvm.Cond.code mN42 method_6_code 4 (some .int) :: ws) (oR 2 0 0 29)) (fun a U => a = #[(.ref ab1), (.int nw), (.int 3), (.int j1x)] ∧ Z.Warmed39 U.vm ∧ U.heap = h0) (fun _ _ _ _ _ => True) (fun _ U o U' => ∃ v L, o = .returned v ∧ Q_in_3 Z ab1 kc nw c1 c2 c3 c4 j1x h0 n0 v U'.heap L ∧ FrameEnd U o U' L (oR 2 0 0 29).cells (oR 2 0 0 29).slots) := by
  refine MetFree.of_bodySF (plainFor_of_name pn_43637772) hisR ?_
  intro p e s m args below meth c s₁ Bd hml0 hP hK
  obtain ⟨rfl, hZ, hh⟩ := hP
  obtain ⟨wO2, wP5, wO4, wrG3, hstr, wO5, wV5⟩ := id cx
  have hx := Bd.exec
  have hby := Bd.bytes
  have hlk := Bd.notSynchronized
  have hml : c.maxLocals = 4 := hml0
  have hown : s.vm.findClass "com/example/kindling/kindling/web/PathTemplateSegmentsPinLaw" = some m.cls := findClass_of_methodNamed Bd.named
  have hnm := (name_of_methodNamed Bd.named Bd.method).1
  have X0 : Stand p l e (oR 2 0 0 29) s m #[(.ref ab1), (.int nw), (.int 3), (.int j1x)] below meth c s₁ [] 0 0 := Stand.of_body Bd
  have e0 : s₁.heap = h0 := by rw [← hh, Bd.state]; rfl
  have N0 := Fr.nil n0
  have Z0 : n0 ≤ h0.size := X00.1 ▸ X00.2.1
  have K0 : Keep h0 h0 ([] : List Addr) := Keep.refl _ _
  show OwnGoes p e below _ s₁ (entryFrame m _ _)
  refine og s₁ m 0 #[vR ab1, vI nw, vI 3, vI j1x] [] (fun tgt kgo => castTop (ef_in_3 m ab1 nw j1x) kgo) ?_
  refine og s₁ m 2 #[vR ab1, vI nw, vI 3, vI j1x] [(.int nw), (.int 3)] (fun tgt kgo => ?_) ?_
  · refine XS.iloadN X0.here hx rfl (hb hby d41_0) rfl ?_
    refine XS.iloadN X0.here hx rfl (hb hby d41_1) rfl ?_
    exact kgo
  by_cases cc1 : (3 : Int32) < nw
  · skip
    refine og s₁ m 10 #[vR ab1, vI nw, vI 3, vI j1x] [(.int 47), (.int c4)] (fun tgt kgo => ?_) ?_
    · refine XS.icmpNo X0.here hx rfl (hb hby d41_2) rfl (tlt cc1).2.1 ?_
      refine XS.aloadN X0.here hx rfl (hb hby d41_5) rfl rfl ?_
      refine XS.iloadN X0.here hx rfl (hb hby d41_6) rfl ?_
      show OwnG p e below s₁ m 7 #[vR ab1, vI nw, vI 3, vI j1x] [(.int 3), (.ref ab1)] tgt
      obtain ⟨cl2, Ar2, q2, S2, M2, H2, G2⟩ := f0
      refine X0.caload hx (j := (3 : Int32)) (v := (.int c4)) (by rw [e0]; exact Ar2.1) (State.isArrayOf_alike hZ.alike Ar2.2.1) Ar2.2.2 (inb_of S2 ⟨by decide, by decide⟩) (Has.at H2 (inb_of S2 ⟨by decide, by decide⟩) rfl) (g := (mkF m 7 #[vR ab1, vI nw, vI 3, vI j1x] [(.int 3), (.ref ab1)])) rfl rfl (hb hby d41_7) _ ?_
      refine XS.bipush X0.here hx rfl (hb hby d41_8) ?_
      exact kgo
    by_cases cc3 : c4 = (47 : Int32)
    · skip
      refine og s₁ m 30 #[vR ab1, vI nw, vI 3, vI j1x] [(.int 0)] (fun tgt kgo => ?_) ?_
      · refine XS.icmpYes X0.here hx rfl (pc0 := 10) (pc' := 29) rfl (hb hby d41_10) rfl (teq cc3).1 (by decide) (by decide) ?_
        refine XS.iconst X0.here hx rfl (hb hby d41_29) ?_
        exact kgo
      refine own_leave X0 hlk (v := some (.int 0)) (fun h => by rw [Bd.returns] at h; cases h) (fun fs hr => retI X0 hx Bd.returns (hb hby d41_30) hr) (by decide) (by decide) ?_
      show Q_in_3 Z ab1 kc nw c1 c2 c3 c4 j1x h0 n0 _ s₁.heap _
      rw [e0]
      exact ⟨(0 : Int32), rfl, N0, rfl, (if_neg (fun z => z.2.1 cc3)).symm⟩
    refine og s₁ m 16 #[vR ab1, vI nw, vI 3, vI j1x] [(.int 3), (.int nw), (.ref ab1)] (fun tgt kgo => ?_) ?_
    · refine XS.icmpNo X0.here hx rfl (hb hby d41_10) rfl (feq cc3).1 ?_
      refine XS.aloadN X0.here hx rfl (hb hby d41_13) rfl rfl ?_
      refine XS.iloadN X0.here hx rfl (hb hby d41_14) rfl ?_
      show OwnG p e below s₁ m 15 #[vR ab1, vI nw, vI 3, vI j1x] [(.int nw), (.ref ab1)] tgt
      refine XS.iloadN X0.here hx rfl (hb hby d41_15) rfl ?_
      exact kgo
    obtain ⟨_, _, ⟨T5, L5, k5, n5⟩, -, X5, ⟨Lc5, hQ5, l5, y5, z5⟩, st5⟩ := Jvm.LawKit.callS X0 hx (y := mN40) hown (mvT hZ (own_w hw 109 rfl)) (mvT hZ (own_w hw 110 rfl)) (mvT hZ (own_w hw 4 rfl)) (mvT hZ (own_w hw 111 rfl)) (by decide) (backOf (W := 0) (rm_cnt_3 l Z a0 hw [] wG1 wG3 wG5 wK5 cx hEL h0 n0 X00 ab1 kc nw c1 c2 c3 c4 f0) hZ (own_w hw 111 rfl) (own_w hw 4 rfl) (by decide) (by decide)) (g := (mkF m 16 #[vR ab1, vI nw, vI 3, vI j1x] [(.int 3), (.int nw), (.ref ab1)])) rfl (by rw [hml]; rfl) (argsL := [(.ref ab1), (.int nw), (.int 3)]) (rest := []) (lenOf pd_92517391 rfl) rfl (Nat.le_of_eq rfl) (hb hby d41_16) (fun _ _ => ⟨rfl, e0, (by decide : 0 + 0 ≤ _), (by decide : 0 + 0 ≤ _)⟩)
    dsimp only [Pt.U, Pt.locs, Pt.cells, Pt.slots] at X5 l5 y5 z5 st5 hQ5
    subst l5 y5 z5
    obtain ⟨rfl, Nq5, eq5⟩ := hQ5
    refine og T5 m 19 #[vR ab1, vI nw, vI 3, vI j1x] [(.int (oc nw (2 : Int32) c3 (oc nw (1 : Int32) c2 (oc nw (0 : Int32) c1 (0 : Int32)))))] st5 ?_
    have N5 := Fr.app N0 Nq5
    refine og T5 m 22 #[vR ab1, vI nw, vI 3, vI j1x] [(.int j1x), (.int ((oc nw (2 : Int32) c3 (oc nw (1 : Int32) c2 (oc nw (0 : Int32) c1 (0 : Int32)))) - (1 : Int32)))] (fun tgt kgo => ?_) ?_
    · refine XS.iconst X5.here hx rfl (hb hby d41_19) ?_
      refine XS.isub X5.here hx rfl (hb hby d41_20) rfl ?_
      refine XS.iloadN X5.here hx rfl (hb hby d41_21) rfl ?_
      exact kgo
    by_cases cc6 : ((oc nw (2 : Int32) c3 (oc nw (1 : Int32) c2 (oc nw (0 : Int32) c1 (0 : Int32)))) - (1 : Int32)) = j1x
    · skip
      refine og T5 m 30 #[vR ab1, vI nw, vI 3, vI j1x] [(.int 1)] (fun tgt kgo => ?_) ?_
      · refine XS.icmpNo X5.here hx rfl (hb hby d41_22) rfl (teq cc6).2 ?_
        refine XS.iconst X5.here hx rfl (hb hby d41_25) ?_
        refine XS.goto X5.here hx rfl (pc0 := 26) (pc' := 30) rfl (hb hby d41_26) (by decide) (by decide) ?_
        exact kgo
      refine own_leave X5 hlk (v := some (.int 1)) (fun h => by rw [Bd.returns] at h; cases h) (fun fs hr => retI X5 hx Bd.returns (hb hby d41_30) hr) (by decide) (by decide) ?_
      show Q_in_3 Z ab1 kc nw c1 c2 c3 c4 j1x h0 n0 _ T5.heap _
      rw [eq5]
      exact ⟨(1 : Int32), rfl, N5, rfl, (if_pos ⟨cc1, cc3, cc6⟩).symm⟩
    refine og T5 m 30 #[vR ab1, vI nw, vI 3, vI j1x] [(.int 0)] (fun tgt kgo => ?_) ?_
    · refine XS.icmpYes X5.here hx rfl (pc0 := 22) (pc' := 29) rfl (hb hby d41_22) rfl (feq cc6).2 (by decide) (by decide) ?_
      refine XS.iconst X5.here hx rfl (hb hby d41_29) ?_
      exact kgo
    refine own_leave X5 hlk (v := some (.int 0)) (fun h => by rw [Bd.returns] at h; cases h) (fun fs hr => retI X5 hx Bd.returns (hb hby d41_30) hr) (by decide) (by decide) ?_
    show Q_in_3 Z ab1 kc nw c1 c2 c3 c4 j1x h0 n0 _ T5.heap _
    rw [eq5]
    exact ⟨(0 : Int32), rfl, N5, rfl, (if_neg (fun z => cc6 z.2.2)).symm⟩
  refine og s₁ m 30 #[vR ab1, vI nw, vI 3, vI j1x] [(.int 0)] (fun tgt kgo => ?_) ?_
  · refine XS.icmpYes X0.here hx rfl (pc0 := 2) (pc' := 29) rfl (hb hby d41_2) rfl (flt cc1).2.1 (by decide) (by decide) ?_
    refine XS.iconst X0.here hx rfl (hb hby d41_29) ?_
    exact kgo
  refine own_leave X0 hlk (v := some (.int 0)) (fun h => by rw [Bd.returns] at h; cases h) (fun fs hr => retI X0 hx Bd.returns (hb hby d41_30) hr) (by decide) (by decide) ?_
  show Q_in_3 Z ab1 kc nw c1 c2 c3 c4 j1x h0 n0 _ s₁.heap _
  rw [e0]
  exact ⟨(0 : Int32), rfl, N0, rfl, (if_neg (fun z => cc1 z.1)).symm⟩
theorem ef_cok_0 (m : MethodId) (x0 : Addr) (x1 : Addr) (x2 : Int32) : entryFrame m #[(.ref x0), (.ref x1), (.int x2), (.int 0)] 7 = mkF m 0 #[vR x0, vR x1, vI x2, vI 0, vU, vU, vU] [] := by
  first | (simp [entryFrame, mkF, argsToLocals, Value.category]; done) | rfl
def Q_cok_0 (Z : State) (rr : Addr) (ab1 : Addr) (kc : ClassId) (nw : Int32) (c1 : Int32) (c2 : Int32) (c3 : Int32) (c4 : Int32) (h0 : Heap) (n0 : Nat) (v : Option Value) (h : Heap) (L : List Loc) : Prop := v = some (.int 1) ∧ Fr n0 L ∧ h = h0
theorem d42_0 : decode method_7_code 0 = .ok (.iload_n 3, 1) := by decide +kernel
theorem d42_1 : decode method_7_code 1 = .ok (.iload_n 2, 1) := by decide +kernel
theorem d42_2 : decode method_7_code 2 = .ok (.if_icmp .ge 20, 3) := by decide +kernel
theorem d42_5 : decode method_7_code 5 = .ok (.aload_n 1, 1) := by decide +kernel
theorem d42_6 : decode method_7_code 6 = .ok (.iload_n 3, 1) := by decide +kernel
theorem d42_7 : decode method_7_code 7 = .ok (.caload, 1) := by decide +kernel
theorem d42_8 : decode method_7_code 8 = .ok (.bipush 47, 2) := by decide +kernel
theorem d42_10 : decode method_7_code 10 = .ok (.if_icmp .eq 12, 3) := by decide +kernel
theorem d42_22 : decode method_7_code 22 = .ok (.iconst 1, 1) := by decide +kernel
theorem d42_23 : decode method_7_code 23 = .ok (.ireturn, 1) := by decide +kernel
theorem d42_13 : decode method_7_code 13 = .ok (.aload_n 1, 1) := by decide +kernel
theorem d42_14 : decode method_7_code 14 = .ok (.iload_n 2, 1) := by decide +kernel
theorem d42_15 : decode method_7_code 15 = .ok (.iload_n 3, 1) := by decide +kernel
theorem d42_16 : decode method_7_code 16 = .ok (.invokestatic 13, 3) := by decide +kernel
theorem d42_19 : decode method_7_code 19 = .ok (.ifCond .ne 5, 3) := by decide +kernel
set_option maxRecDepth 65536 in
set_option maxHeartbeats 40000000 in
theorem rm_cok_0 (l : Launch) (Z : State) (a0 : Array Value) (hw : ∀ d ∈ tables_1, d.before a0 Z = true) (ws : List Jvm.Cond) (wG1 : Int32) (wG3 : Value) (wG5 : Addr) (wK5 : ClassId) (cx : OwnCx Z a0 wG1 wG3 wG5 wK5) (hEL : EW Z a0 consts_1) (h0 : Heap) (n0 : Nat) (X00 : Old Z n0 h0) (rr : Addr) (ab1 : Addr) (kc : ClassId) (nw : Int32) (c1 : Int32) (c2 : Int32) (c3 : Int32) (c4 : Int32) (f0 : Arv Z h0 ab1 kc .char (4 : Int32) [(.int c1), (.int c2), (.int c3), (.int c4)] (.int 0)) (hN : OwnN nw) (hS : OwnSegs Z h0 rr (own_segs (oT nw c1 c2 c3 c4))) :
    MetFree l mN43 (head1 (Jvm.Cond.code mN43 method_7_code 7 (some .boolean) :: ws) (oR 1 0 0 15)) (fun a U => a = #[(.ref rr), (.ref ab1), (.int nw), (.int 0)] ∧ Z.Warmed39 U.vm ∧ U.heap = h0) (fun _ _ _ _ _ => True) (fun _ U o U' => ∃ v L, o = .returned v ∧ Q_cok_0 Z rr ab1 kc nw c1 c2 c3 c4 h0 n0 v U'.heap L ∧ FrameEnd U o U' L (oR 1 0 0 15).cells (oR 1 0 0 15).slots) := by
  refine MetFree.of_bodySF (plainFor_of_name pn_43637772) hisR ?_
  intro p e s m args below meth c s₁ Bd hml0 hP hK
  obtain ⟨rfl, hZ, hh⟩ := hP
  obtain ⟨wO2, wP5, wO4, wrG3, hstr, wO5, wV5⟩ := id cx
  have hx := Bd.exec
  have hby := Bd.bytes
  have hlk := Bd.notSynchronized
  have hml : c.maxLocals = 7 := hml0
  have hown : s.vm.findClass "com/example/kindling/kindling/web/PathTemplateSegmentsPinLaw" = some m.cls := findClass_of_methodNamed Bd.named
  have hnm := (name_of_methodNamed Bd.named Bd.method).1
  have X0 : Stand p l e (oR 1 0 0 15) s m #[(.ref rr), (.ref ab1), (.int nw), (.int 0)] below meth c s₁ [] 0 0 := Stand.of_body Bd
  have e0 : s₁.heap = h0 := by rw [← hh, Bd.state]; rfl
  have N0 := Fr.nil n0
  have Z0 : n0 ≤ h0.size := X00.1 ▸ X00.2.1
  have K0 : Keep h0 h0 ([] : List Addr) := Keep.refl _ _
  show OwnGoes p e below _ s₁ (entryFrame m _ _)
  refine og s₁ m 0 #[vR rr, vR ab1, vI nw, vI 0, vU, vU, vU] [] (fun tgt kgo => castTop (ef_cok_0 m rr ab1 nw) kgo) ?_
  obtain ⟨edx, kex, nEx, esx, xE1, xG1, xG2, xA1, hl4, hall⟩ := id hS
  refine og s₁ m 2 #[vR rr, vR ab1, vI nw, vI 0, vU, vU, vU] [(.int nw), (.int 0)] (fun tgt kgo => ?_) ?_
  · refine XS.iloadN X0.here hx rfl (hb hby d42_0) rfl ?_
    refine XS.iloadN X0.here hx rfl (hb hby d42_1) rfl ?_
    exact kgo
  by_cases cc1 : (0 : Int32) < nw
  · skip
    refine og s₁ m 10 #[vR rr, vR ab1, vI nw, vI 0, vU, vU, vU] [(.int 47), (.int c1)] (fun tgt kgo => ?_) ?_
    · refine XS.icmpNo X0.here hx rfl (hb hby d42_2) rfl (tlt cc1).2.1 ?_
      refine XS.aloadN X0.here hx rfl (hb hby d42_5) rfl rfl ?_
      refine XS.iloadN X0.here hx rfl (hb hby d42_6) rfl ?_
      show OwnG p e below s₁ m 7 #[vR rr, vR ab1, vI nw, vI 0, vU, vU, vU] [(.int 0), (.ref ab1)] tgt
      obtain ⟨cl2, Ar2, q2, S2, M2, H2, G2⟩ := f0
      refine X0.caload hx (j := (0 : Int32)) (v := (.int c1)) (by rw [e0]; exact Ar2.1) (State.isArrayOf_alike hZ.alike Ar2.2.1) Ar2.2.2 (inb_of S2 ⟨by decide, by decide⟩) (Has.at H2 (inb_of S2 ⟨by decide, by decide⟩) rfl) (g := (mkF m 7 #[vR rr, vR ab1, vI nw, vI 0, vU, vU, vU] [(.int 0), (.ref ab1)])) rfl rfl (hb hby d42_7) _ ?_
      refine XS.bipush X0.here hx rfl (hb hby d42_8) ?_
      exact kgo
    by_cases cc3 : c1 = (47 : Int32)
    · skip
      refine og s₁ m 23 #[vR rr, vR ab1, vI nw, vI 0, vU, vU, vU] [(.int 1)] (fun tgt kgo => ?_) ?_
      · refine XS.icmpYes X0.here hx rfl (pc0 := 10) (pc' := 22) rfl (hb hby d42_10) rfl (teq cc3).1 (by decide) (by decide) ?_
        refine XS.iconst X0.here hx rfl (hb hby d42_22) ?_
        exact kgo
      refine own_leave X0 hlk (v := some (.int 1)) (fun h => by rw [Bd.returns] at h; cases h) (fun fs hr => retN X0 hx (t := .boolean) Bd.returns (by simp) (hb hby d42_23) (by rw [(by decide : nar .boolean (1 : Int32) = (1 : Int32))]; exact hr)) (by decide) (by decide) ?_
      show Q_cok_0 Z rr ab1 kc nw c1 c2 c3 c4 h0 n0 _ s₁.heap _
      rw [e0]
      exact ⟨rfl, N0, rfl⟩
    refine og s₁ m 16 #[vR rr, vR ab1, vI nw, vI 0, vU, vU, vU] [(.int 0), (.int nw), (.ref ab1)] (fun tgt kgo => ?_) ?_
    · refine XS.icmpNo X0.here hx rfl (hb hby d42_10) rfl (feq cc3).1 ?_
      refine XS.aloadN X0.here hx rfl (hb hby d42_13) rfl rfl ?_
      refine XS.iloadN X0.here hx rfl (hb hby d42_14) rfl ?_
      show OwnG p e below s₁ m 15 #[vR rr, vR ab1, vI nw, vI 0, vU, vU, vU] [(.int nw), (.ref ab1)] tgt
      refine XS.iloadN X0.here hx rfl (hb hby d42_15) rfl ?_
      exact kgo
    obtain ⟨_, _, ⟨T5, L5, k5, n5⟩, -, X5, ⟨Lc5, hQ5, l5, y5, z5⟩, st5⟩ := Jvm.LawKit.callS X0 hx (y := mN40) hown (mvT hZ (own_w hw 109 rfl)) (mvT hZ (own_w hw 110 rfl)) (mvT hZ (own_w hw 4 rfl)) (mvT hZ (own_w hw 111 rfl)) (by decide) (backOf (W := 0) (rm_cnt_0 l Z a0 hw [] wG1 wG3 wG5 wK5 cx hEL h0 n0 X00 ab1 kc nw c1 c2 c3 c4 f0) hZ (own_w hw 111 rfl) (own_w hw 4 rfl) (by decide) (by decide)) (g := (mkF m 16 #[vR rr, vR ab1, vI nw, vI 0, vU, vU, vU] [(.int 0), (.int nw), (.ref ab1)])) rfl (by rw [hml]; rfl) (argsL := [(.ref ab1), (.int nw), (.int 0)]) (rest := []) (lenOf pd_92517391 rfl) rfl (Nat.le_of_eq rfl) (hb hby d42_16) (fun _ _ => ⟨rfl, e0, (by decide : 0 + 0 ≤ _), (by decide : 0 + 0 ≤ _)⟩)
    dsimp only [Pt.U, Pt.locs, Pt.cells, Pt.slots] at X5 l5 y5 z5 st5 hQ5
    subst l5 y5 z5
    obtain ⟨rfl, Nq5, eq5⟩ := hQ5
    refine og T5 m 19 #[vR rr, vR ab1, vI nw, vI 0, vU, vU, vU] [(.int 0)] st5 ?_
    have N5 := Fr.app N0 Nq5
    refine og T5 m 23 #[vR rr, vR ab1, vI nw, vI 0, vU, vU, vU] [(.int 1)] (fun tgt kgo => ?_) ?_
    · refine XS.ifNo X5.here hx rfl (hb hby d42_19) rfl ((if0 _ _).trans (teq (by decide : (0 : Int32) = (0 : Int32))).2) ?_
      refine XS.iconst X5.here hx rfl (hb hby d42_22) ?_
      exact kgo
    refine own_leave X5 hlk (v := some (.int 1)) (fun h => by rw [Bd.returns] at h; cases h) (fun fs hr => retN X5 hx (t := .boolean) Bd.returns (by simp) (hb hby d42_23) (by rw [(by decide : nar .boolean (1 : Int32) = (1 : Int32))]; exact hr)) (by decide) (by decide) ?_
    show Q_cok_0 Z rr ab1 kc nw c1 c2 c3 c4 h0 n0 _ T5.heap _
    rw [eq5]
    exact ⟨rfl, N5, rfl⟩
  refine og s₁ m 23 #[vR rr, vR ab1, vI nw, vI 0, vU, vU, vU] [(.int 1)] (fun tgt kgo => ?_) ?_
  · refine XS.icmpYes X0.here hx rfl (pc0 := 2) (pc' := 22) rfl (hb hby d42_2) rfl (flt cc1).2.1 (by decide) (by decide) ?_
    refine XS.iconst X0.here hx rfl (hb hby d42_22) ?_
    exact kgo
  refine own_leave X0 hlk (v := some (.int 1)) (fun h => by rw [Bd.returns] at h; cases h) (fun fs hr => retN X0 hx (t := .boolean) Bd.returns (by simp) (hb hby d42_23) (by rw [(by decide : nar .boolean (1 : Int32) = (1 : Int32))]; exact hr)) (by decide) (by decide) ?_
  show Q_cok_0 Z rr ab1 kc nw c1 c2 c3 c4 h0 n0 _ s₁.heap _
  rw [e0]
  exact ⟨rfl, N0, rfl⟩
theorem ef_cok_1 (m : MethodId) (x0 : Addr) (x1 : Addr) (x2 : Int32) : entryFrame m #[(.ref x0), (.ref x1), (.int x2), (.int 1)] 7 = mkF m 0 #[vR x0, vR x1, vI x2, vI 1, vU, vU, vU] [] := by
  first | (simp [entryFrame, mkF, argsToLocals, Value.category]; done) | rfl
def Q_cok_1 (Z : State) (rr : Addr) (ab1 : Addr) (kc : ClassId) (nw : Int32) (c1 : Int32) (c2 : Int32) (c3 : Int32) (c4 : Int32) (h0 : Heap) (n0 : Nat) (v : Option Value) (h : Heap) (L : List Loc) : Prop := v = some (.int 1) ∧ Fr n0 L ∧ h = h0
theorem d42_24 : decode method_7_code 24 = .ok (.aload_n 1, 1) := by decide +kernel
theorem d42_25 : decode method_7_code 25 = .ok (.iload_n 2, 1) := by decide +kernel
theorem d42_26 : decode method_7_code 26 = .ok (.iload_n 3, 1) := by decide +kernel
theorem d42_27 : decode method_7_code 27 = .ok (.invokestatic 13, 3) := by decide +kernel
theorem d42_30 : decode method_7_code 30 = .ok (.iconst 1, 1) := by decide +kernel
theorem d42_31 : decode method_7_code 31 = .ok (.isub, 1) := by decide +kernel
theorem d42_32 : decode method_7_code 32 = .ok (.istore 4, 2) := by decide +kernel
theorem d42_34 : decode method_7_code 34 = .ok (.iload_n 3, 1) := by decide +kernel
theorem d42_35 : decode method_7_code 35 = .ok (.aload_n 1, 1) := by decide +kernel
theorem d42_36 : decode method_7_code 36 = .ok (.iload_n 2, 1) := by decide +kernel
theorem d42_37 : decode method_7_code 37 = .ok (.iload_n 3, 1) := by decide +kernel
theorem d42_38 : decode method_7_code 38 = .ok (.invokestatic 17, 3) := by decide +kernel
theorem d42_41 : decode method_7_code 41 = .ok (.isub, 1) := by decide +kernel
theorem d42_42 : decode method_7_code 42 = .ok (.iconst 1, 1) := by decide +kernel
theorem d42_43 : decode method_7_code 43 = .ok (.isub, 1) := by decide +kernel
theorem d42_44 : decode method_7_code 44 = .ok (.istore 5, 2) := by decide +kernel
theorem d42_46 : decode method_7_code 46 = .ok (.iload 4, 2) := by decide +kernel
theorem d42_48 : decode method_7_code 48 = .ok (.aload_n 0, 1) := by decide +kernel
theorem d42_49 : decode method_7_code 49 = .ok (.invokeinterface 20 1, 5) := by decide +kernel
theorem d42_54 : decode method_7_code 54 = .ok (.if_icmp .lt 5, 3) := by decide +kernel
theorem d42_59 : decode method_7_code 59 = .ok (.aload_n 0, 1) := by decide +kernel
theorem d42_60 : decode method_7_code 60 = .ok (.iload 4, 2) := by decide +kernel
theorem d42_62 : decode method_7_code 62 = .ok (.invokeinterface 26 2, 5) := by decide +kernel
theorem d42_67 : decode method_7_code 67 = .ok (.checkcast 30, 3) := by decide +kernel
theorem d42_70 : decode method_7_code 70 = .ok (.astore 6, 2) := by decide +kernel
theorem d42_72 : decode method_7_code 72 = .ok (.iload 5, 2) := by decide +kernel
theorem d42_74 : decode method_7_code 74 = .ok (.aload 6, 2) := by decide +kernel
theorem d42_76 : decode method_7_code 76 = .ok (.invokevirtual 32, 3) := by decide +kernel
theorem d42_79 : decode method_7_code 79 = .ok (.if_icmp .ge 20, 3) := by decide +kernel
theorem d42_82 : decode method_7_code 82 = .ok (.aload 6, 2) := by decide +kernel
theorem d42_84 : decode method_7_code 84 = .ok (.iload 5, 2) := by decide +kernel
theorem d42_86 : decode method_7_code 86 = .ok (.invokevirtual 35, 3) := by decide +kernel
theorem pd_17647939 : parseMethodDescriptor "(I)C" = some ⟨[.int], some .char⟩ := by decide +kernel
theorem d42_89 : decode method_7_code 89 = .ok (.aload_n 1, 1) := by decide +kernel
theorem d42_90 : decode method_7_code 90 = .ok (.iload_n 3, 1) := by decide +kernel
theorem d42_91 : decode method_7_code 91 = .ok (.caload, 1) := by decide +kernel
theorem d42_92 : decode method_7_code 92 = .ok (.if_icmp .ne 7, 3) := by decide +kernel
theorem d42_95 : decode method_7_code 95 = .ok (.iconst 1, 1) := by decide +kernel
theorem d42_96 : decode method_7_code 96 = .ok (.goto 4, 3) := by decide +kernel
theorem d42_100 : decode method_7_code 100 = .ok (.ireturn, 1) := by decide +kernel
set_option maxRecDepth 65536 in
set_option maxHeartbeats 40000000 in
theorem rm_cok_1 (l : Launch) (Z : State) (a0 : Array Value) (hw : ∀ d ∈ tables_1, d.before a0 Z = true) (ws : List Jvm.Cond) (wG1 : Int32) (wG3 : Value) (wG5 : Addr) (wK5 : ClassId) (cx : OwnCx Z a0 wG1 wG3 wG5 wK5) (hEL : EW Z a0 consts_1) (h0 : Heap) (n0 : Nat) (X00 : Old Z n0 h0) (rr : Addr) (ab1 : Addr) (kc : ClassId) (nw : Int32) (c1 : Int32) (c2 : Int32) (c3 : Int32) (c4 : Int32) (f0 : Arv Z h0 ab1 kc .char (4 : Int32) [(.int c1), (.int c2), (.int c3), (.int c4)] (.int 0)) (hN : OwnN nw) (hS : OwnSegs Z h0 rr (own_segs (oT nw c1 c2 c3 c4))) :
    MetFree l mN43 (head1 (Jvm.Cond.code mN43 method_7_code 7 (some .boolean) :: ws) (oR 4 0 0 53)) (fun a U => a = #[(.ref rr), (.ref ab1), (.int nw), (.int 1)] ∧ Z.Warmed39 U.vm ∧ U.heap = h0) (fun _ _ _ _ _ => True) (fun _ U o U' => ∃ v L, o = .returned v ∧ Q_cok_1 Z rr ab1 kc nw c1 c2 c3 c4 h0 n0 v U'.heap L ∧ FrameEnd U o U' L (oR 4 0 0 53).cells (oR 4 0 0 53).slots) := by
  refine MetFree.of_bodySF (plainFor_of_name pn_43637772) hisR ?_
  intro p e s m args below meth c s₁ Bd hml0 hP hK
  obtain ⟨rfl, hZ, hh⟩ := hP
  obtain ⟨wO2, wP5, wO4, wrG3, hstr, wO5, wV5⟩ := id cx
  have hx := Bd.exec
  have hby := Bd.bytes
  have hlk := Bd.notSynchronized
  have hml : c.maxLocals = 7 := hml0
  have hown : s.vm.findClass "com/example/kindling/kindling/web/PathTemplateSegmentsPinLaw" = some m.cls := findClass_of_methodNamed Bd.named
  have hnm := (name_of_methodNamed Bd.named Bd.method).1
  have X0 : Stand p l e (oR 4 0 0 53) s m #[(.ref rr), (.ref ab1), (.int nw), (.int 1)] below meth c s₁ [] 0 0 := Stand.of_body Bd
  have e0 : s₁.heap = h0 := by rw [← hh, Bd.state]; rfl
  have N0 := Fr.nil n0
  have Z0 : n0 ≤ h0.size := X00.1 ▸ X00.2.1
  have K0 : Keep h0 h0 ([] : List Addr) := Keep.refl _ _
  show OwnGoes p e below _ s₁ (entryFrame m _ _)
  refine og s₁ m 0 #[vR rr, vR ab1, vI nw, vI 1, vU, vU, vU] [] (fun tgt kgo => castTop (ef_cok_1 m rr ab1 nw) kgo) ?_
  obtain ⟨edx, kex, nEx, esx, xE1, xG1, xG2, xA1, hl4, hall⟩ := id hS
  refine og s₁ m 2 #[vR rr, vR ab1, vI nw, vI 1, vU, vU, vU] [(.int nw), (.int 1)] (fun tgt kgo => ?_) ?_
  · refine XS.iloadN X0.here hx rfl (hb hby d42_0) rfl ?_
    refine XS.iloadN X0.here hx rfl (hb hby d42_1) rfl ?_
    exact kgo
  by_cases cc1 : (1 : Int32) < nw
  · skip
    refine og s₁ m 10 #[vR rr, vR ab1, vI nw, vI 1, vU, vU, vU] [(.int 47), (.int c2)] (fun tgt kgo => ?_) ?_
    · refine XS.icmpNo X0.here hx rfl (hb hby d42_2) rfl (tlt cc1).2.1 ?_
      refine XS.aloadN X0.here hx rfl (hb hby d42_5) rfl rfl ?_
      refine XS.iloadN X0.here hx rfl (hb hby d42_6) rfl ?_
      show OwnG p e below s₁ m 7 #[vR rr, vR ab1, vI nw, vI 1, vU, vU, vU] [(.int 1), (.ref ab1)] tgt
      obtain ⟨cl2, Ar2, q2, S2, M2, H2, G2⟩ := f0
      refine X0.caload hx (j := (1 : Int32)) (v := (.int c2)) (by rw [e0]; exact Ar2.1) (State.isArrayOf_alike hZ.alike Ar2.2.1) Ar2.2.2 (inb_of S2 ⟨by decide, by decide⟩) (Has.at H2 (inb_of S2 ⟨by decide, by decide⟩) rfl) (g := (mkF m 7 #[vR rr, vR ab1, vI nw, vI 1, vU, vU, vU] [(.int 1), (.ref ab1)])) rfl rfl (hb hby d42_7) _ ?_
      refine XS.bipush X0.here hx rfl (hb hby d42_8) ?_
      exact kgo
    by_cases cc3 : c2 = (47 : Int32)
    · skip
      refine og s₁ m 23 #[vR rr, vR ab1, vI nw, vI 1, vU, vU, vU] [(.int 1)] (fun tgt kgo => ?_) ?_
      · refine XS.icmpYes X0.here hx rfl (pc0 := 10) (pc' := 22) rfl (hb hby d42_10) rfl (teq cc3).1 (by decide) (by decide) ?_
        refine XS.iconst X0.here hx rfl (hb hby d42_22) ?_
        exact kgo
      refine own_leave X0 hlk (v := some (.int 1)) (fun h => by rw [Bd.returns] at h; cases h) (fun fs hr => retN X0 hx (t := .boolean) Bd.returns (by simp) (hb hby d42_23) (by rw [(by decide : nar .boolean (1 : Int32) = (1 : Int32))]; exact hr)) (by decide) (by decide) ?_
      show Q_cok_1 Z rr ab1 kc nw c1 c2 c3 c4 h0 n0 _ s₁.heap _
      rw [e0]
      exact ⟨rfl, N0, rfl⟩
    refine og s₁ m 16 #[vR rr, vR ab1, vI nw, vI 1, vU, vU, vU] [(.int 1), (.int nw), (.ref ab1)] (fun tgt kgo => ?_) ?_
    · refine XS.icmpNo X0.here hx rfl (hb hby d42_10) rfl (feq cc3).1 ?_
      refine XS.aloadN X0.here hx rfl (hb hby d42_13) rfl rfl ?_
      refine XS.iloadN X0.here hx rfl (hb hby d42_14) rfl ?_
      show OwnG p e below s₁ m 15 #[vR rr, vR ab1, vI nw, vI 1, vU, vU, vU] [(.int nw), (.ref ab1)] tgt
      refine XS.iloadN X0.here hx rfl (hb hby d42_15) rfl ?_
      exact kgo
    obtain ⟨_, _, ⟨T5, L5, k5, n5⟩, -, X5, ⟨Lc5, hQ5, l5, y5, z5⟩, st5⟩ := Jvm.LawKit.callS X0 hx (y := mN40) hown (mvT hZ (own_w hw 109 rfl)) (mvT hZ (own_w hw 110 rfl)) (mvT hZ (own_w hw 4 rfl)) (mvT hZ (own_w hw 111 rfl)) (by decide) (backOf (W := 0) (rm_cnt_1 l Z a0 hw [] wG1 wG3 wG5 wK5 cx hEL h0 n0 X00 ab1 kc nw c1 c2 c3 c4 f0) hZ (own_w hw 111 rfl) (own_w hw 4 rfl) (by decide) (by decide)) (g := (mkF m 16 #[vR rr, vR ab1, vI nw, vI 1, vU, vU, vU] [(.int 1), (.int nw), (.ref ab1)])) rfl (by rw [hml]; rfl) (argsL := [(.ref ab1), (.int nw), (.int 1)]) (rest := []) (lenOf pd_92517391 rfl) rfl (Nat.le_of_eq rfl) (hb hby d42_16) (fun _ _ => ⟨rfl, e0, (by decide : 0 + 0 ≤ _), (by decide : 0 + 0 ≤ _)⟩)
    dsimp only [Pt.U, Pt.locs, Pt.cells, Pt.slots] at X5 l5 y5 z5 st5 hQ5
    subst l5 y5 z5
    obtain ⟨rfl, Nq5, eq5⟩ := hQ5
    refine og T5 m 19 #[vR rr, vR ab1, vI nw, vI 1, vU, vU, vU] [(.int (oc nw (0 : Int32) c1 (0 : Int32)))] st5 ?_
    have N5 := Fr.app N0 Nq5
    by_cases cc6 : (oc nw (0 : Int32) c1 (0 : Int32)) = (0 : Int32)
    · skip
      refine og T5 m 23 #[vR rr, vR ab1, vI nw, vI 1, vU, vU, vU] [(.int 1)] (fun tgt kgo => ?_) ?_
      · refine XS.ifNo X5.here hx rfl (hb hby d42_19) rfl ((if0 _ _).trans (teq cc6).2) ?_
        refine XS.iconst X5.here hx rfl (hb hby d42_22) ?_
        exact kgo
      refine own_leave X5 hlk (v := some (.int 1)) (fun h => by rw [Bd.returns] at h; cases h) (fun fs hr => retN X5 hx (t := .boolean) Bd.returns (by simp) (hb hby d42_23) (by rw [(by decide : nar .boolean (1 : Int32) = (1 : Int32))]; exact hr)) (by decide) (by decide) ?_
      show Q_cok_1 Z rr ab1 kc nw c1 c2 c3 c4 h0 n0 _ T5.heap _
      rw [eq5]
      exact ⟨rfl, N5, rfl⟩
    refine og T5 m 24 #[vR rr, vR ab1, vI nw, vI 1, vU, vU, vU] [] (fun tgt kgo => ?_) ?_
    · refine XS.ifYes X5.here hx rfl (pc0 := 19) (pc' := 24) rfl (hb hby d42_19) rfl ((if0 _ _).trans (feq cc6).2) (by decide) (by decide) ?_
      exact kgo
    obtain ⟨kq, jq, hk1, hj1, hk2, hj2, hj3⟩ := own_p1 (c1 := c1) (c2 := c2) (c3 := c3) (c4 := c4) hN cc1 cc3 cc6
    obtain ⟨⟨xx, tx, kx, Nx, vx, hxx, xX1, xV1, xC1, xT1, hox⟩, hb1, hb2⟩ := hall kq hk2
    refine og T5 m 27 #[vR rr, vR ab1, vI nw, vI 1, vU, vU, vU] [(.int 1), (.int nw), (.ref ab1)] (fun tgt kgo => ?_) ?_
    · refine XS.aloadN X5.here hx rfl (hb hby d42_24) rfl rfl ?_
      refine XS.iloadN X5.here hx rfl (hb hby d42_25) rfl ?_
      refine XS.iloadN X5.here hx rfl (hb hby d42_26) rfl ?_
      exact kgo
    obtain ⟨_, _, ⟨T8, L8, k8, n8⟩, -, X8, ⟨Lc8, hQ8, l8, y8, z8⟩, st8⟩ := Jvm.LawKit.callS X5 hx (y := mN40) hown (mvT hZ (own_w hw 109 rfl)) (mvT hZ (own_w hw 110 rfl)) (mvT hZ (own_w hw 4 rfl)) (mvT hZ (own_w hw 111 rfl)) (by decide) (backOf (W := 0) (rm_cnt_1 l Z a0 hw [] wG1 wG3 wG5 wK5 cx hEL h0 n0 X00 ab1 kc nw c1 c2 c3 c4 f0) hZ (own_w hw 111 rfl) (own_w hw 4 rfl) (by decide) (by decide)) (g := (mkF m 27 #[vR rr, vR ab1, vI nw, vI 1, vU, vU, vU] [(.int 1), (.int nw), (.ref ab1)])) rfl (by rw [hml]; rfl) (argsL := [(.ref ab1), (.int nw), (.int 1)]) (rest := []) (lenOf pd_92517391 rfl) rfl (Nat.le_of_eq rfl) (hb hby d42_27) (fun _ _ => ⟨rfl, eq5, (by decide : 0 + 0 ≤ _), (by decide : 0 + 0 ≤ _)⟩)
    dsimp only [Pt.U, Pt.locs, Pt.cells, Pt.slots] at X8 l8 y8 z8 st8 hQ8
    subst l8 y8 z8
    obtain ⟨rfl, Nq8, eq8⟩ := hQ8
    refine og T8 m 30 #[vR rr, vR ab1, vI nw, vI 1, vU, vU, vU] [(.int (oc nw (0 : Int32) c1 (0 : Int32)))] st8 ?_
    have N8 := Fr.app N5 Nq8
    refine og T8 m 32 #[vR rr, vR ab1, vI nw, vI 1, vU, vU, vU] [(.int ((oc nw (0 : Int32) c1 (0 : Int32)) - (1 : Int32)))] (fun tgt kgo => ?_) ?_
    · refine XS.iconst X8.here hx rfl (hb hby d42_30) ?_
      refine XS.isub X8.here hx rfl (hb hby d42_31) rfl ?_
      exact kgo
    refine og T8 m 32 #[vR rr, vR ab1, vI nw, vI 1, vU, vU, vU] [(.int (Int32.ofNat kq))] (fun tgt kgo => castTop (by rw [hk1]) kgo) ?_
    refine og T8 m 38 #[vR rr, vR ab1, vI nw, vI 1, vI (Int32.ofNat kq), vU, vU] [(.int 1), (.int nw), (.ref ab1), (.int 1)] (fun tgt kgo => ?_) ?_
    · refine XS.istore X8.here hx rfl (hb hby d42_32) rfl (l' := #[vR rr, vR ab1, vI nw, vI 1, vI (Int32.ofNat kq), vU, vU]) rfl ?_
      refine XS.iloadN X8.here hx rfl (hb hby d42_34) rfl ?_
      refine XS.aloadN X8.here hx rfl (hb hby d42_35) rfl rfl ?_
      show OwnG p e below T8 m 36 #[vR rr, vR ab1, vI nw, vI 1, vI (Int32.ofNat kq), vU, vU] [(.ref ab1), (.int 1)] tgt
      refine XS.iloadN X8.here hx rfl (hb hby d42_36) rfl ?_
      refine XS.iloadN X8.here hx rfl (hb hby d42_37) rfl ?_
      exact kgo
    obtain ⟨_, _, ⟨T9, L9, k9, n9⟩, -, X9, ⟨Lc9, hQ9, l9, y9, z9⟩, st9⟩ := Jvm.LawKit.callS X8 hx (y := mN41) hown (mvT hZ (own_w hw 200 rfl)) (mvT hZ (own_w hw 201 rfl)) (mvT hZ (own_w hw 4 rfl)) (mvT hZ (own_w hw 202 rfl)) (by decide) (backOf (W := 1) (rm_last_1 l Z a0 hw [] wG1 wG3 wG5 wK5 cx hEL h0 n0 X00 ab1 kc nw c1 c2 c3 c4 f0) hZ (own_w hw 202 rfl) (own_w hw 4 rfl) (by decide) (by decide)) (g := (mkF m 38 #[vR rr, vR ab1, vI nw, vI 1, vI (Int32.ofNat kq), vU, vU] [(.int 1), (.int nw), (.ref ab1), (.int 1)])) rfl (by rw [hml]; rfl) (argsL := [(.ref ab1), (.int nw), (.int 1)]) (rest := [(.int 1)]) (lenOf pd_92517391 rfl) rfl (Nat.le_of_eq rfl) (hb hby d42_38) (fun _ _ => ⟨rfl, eq8, (by decide : 0 + 0 ≤ _), (by decide : 0 + 0 ≤ _)⟩)
    dsimp only [Pt.U, Pt.locs, Pt.cells, Pt.slots] at X9 l9 y9 z9 st9 hQ9
    subst l9 y9 z9
    obtain ⟨r_9, rfl, Nq9, eq9, pq9_0⟩ := hQ9
    refine og T9 m 41 #[vR rr, vR ab1, vI nw, vI 1, vI (Int32.ofNat kq), vU, vU] [(.int r_9), (.int 1)] st9 ?_
    have N9 := Fr.app N8 Nq9
    refine og T9 m 41 #[vR rr, vR ab1, vI nw, vI 1, vI (Int32.ofNat kq), vU, vU] [(.int (if (0 : Int32) < nw ∧ c1 = 47 then (0 : Int32) else (-1 : Int32))), (.int 1)] (fun tgt kgo => castTop (by rw [pq9_0]) kgo) ?_
    refine og T9 m 44 #[vR rr, vR ab1, vI nw, vI 1, vI (Int32.ofNat kq), vU, vU] [(.int (((1 : Int32) - (if (0 : Int32) < nw ∧ c1 = 47 then (0 : Int32) else (-1 : Int32))) - (1 : Int32)))] (fun tgt kgo => ?_) ?_
    · refine XS.isub X9.here hx rfl (hb hby d42_41) rfl ?_
      refine XS.iconst X9.here hx rfl (hb hby d42_42) ?_
      refine XS.isub X9.here hx rfl (hb hby d42_43) rfl ?_
      exact kgo
    refine og T9 m 44 #[vR rr, vR ab1, vI nw, vI 1, vI (Int32.ofNat kq), vU, vU] [(.int (Int32.ofNat jq))] (fun tgt kgo => castTop (by rw [hj1]) kgo) ?_
    refine og T9 m 49 #[vR rr, vR ab1, vI nw, vI 1, vI (Int32.ofNat kq), vI (Int32.ofNat jq), vU] [(.ref rr), (.int (Int32.ofNat kq))] (fun tgt kgo => ?_) ?_
    · refine XS.istore X9.here hx rfl (hb hby d42_44) rfl (l' := #[vR rr, vR ab1, vI nw, vI 1, vI (Int32.ofNat kq), vI (Int32.ofNat jq), vU]) rfl ?_
      refine XS.iload X9.here hx rfl (hb hby d42_46) rfl ?_
      refine XS.aloadN X9.here hx rfl (hb hby d42_48) rfl rfl ?_
      exact kgo
    obtain ⟨cq10, kq10, q10a, q10b, q10c⟩ := isOf (s := s) hZ eq9 xE1
    obtain ⟨_, _, ⟨T10, L10, k10, n10⟩, -, X10, ⟨Lc10, hQ10, l10, y10, z10⟩, st10⟩ := X9.interfaceBack hx (xi := mN44) (y := mN34) hown (mvT hZ (own_w hw 98 rfl)) (mvT hZ (own_w hw 99 rfl)) (mvT hZ (own_w hw 100 rfl)) (mvT hZ (own_w hw 101 rfl)) (mvT hZ (own_w hw 102 rfl)) (mvT hZ (own_w hw 103 rfl)) (mvT hZ (own_w hw 104 rfl)) (mvT hZ (own_w hw 105 rfl)) (by decide) (backOf (W := 1) (rm_size l Z a0 hw [] wG1 wG3 wG5 wK5 cx hEL h0 n0 X00 rr (Int32.ofNat (own_segs (oT nw c1 c2 c3 c4)).length) xE1 xG1) hZ (own_w hw 106 rfl) (own_w hw 36 rfl) (by decide) (by decide)) q10a q10b q10c (g := (mkF m 49 #[vR rr, vR ab1, vI nw, vI 1, vI (Int32.ofNat kq), vI (Int32.ofNat jq), vU] [(.ref rr), (.int (Int32.ofNat kq))])) rfl (by rw [hml]; rfl) (Steps.refl _) (argsL := []) (rest := [(.int (Int32.ofNat kq))]) (lenOf pd_86913941 rfl) rfl (Nat.le_of_eq rfl) (hb hby d42_49) (fun _ _ => ⟨rfl, eq9, (by decide : 0 + 0 ≤ _), (by decide : 0 + 0 ≤ _)⟩)
    dsimp only [Pt.U, Pt.locs, Pt.cells, Pt.slots] at X10 l10 y10 z10 st10 hQ10
    subst l10 y10 z10
    obtain ⟨rfl, Nq10, eq10⟩ := hQ10
    refine OwnGoes.tr (T' := T10) (g' := (mkF m 54 #[vR rr, vR ab1, vI nw, vI 1, vI (Int32.ofNat kq), vI (Int32.ofNat jq), vU] [(.int (Int32.ofNat (own_segs (oT nw c1 c2 c3 c4)).length)), (.int (Int32.ofNat kq))])) st10 ?_
    have N10 := Fr.app N9 Nq10
    refine og T10 m 62 #[vR rr, vR ab1, vI nw, vI 1, vI (Int32.ofNat kq), vI (Int32.ofNat jq), vU] [(.int (Int32.ofNat kq)), (.ref rr)] (fun tgt kgo => ?_) ?_
    · refine XS.icmpYes X10.here hx rfl (pc0 := 54) (pc' := 59) rfl (hb hby d42_54) rfl (tlt ((own_ltN (by omega) (by omega)).mpr hk2)).1 (by decide) (by decide) ?_
      refine XS.aloadN X10.here hx rfl (hb hby d42_59) rfl rfl ?_
      refine XS.iload X10.here hx rfl (hb hby d42_60) rfl ?_
      exact kgo
    obtain ⟨cq11, kq11, q11a, q11b, q11c⟩ := isOf (s := s) hZ eq10 xE1
    obtain ⟨_, _, ⟨T11, L11, k11, n11⟩, -, X11, ⟨Lc11, hQ11, l11, y11, z11⟩, st11⟩ := X10.interfaceBack hx (xi := mN45) (y := mN36) hown (mvT hZ (own_w hw 203 rfl)) (mvT hZ (own_w hw 204 rfl)) (mvT hZ (own_w hw 205 rfl)) (mvT hZ (own_w hw 206 rfl)) (mvT hZ (own_w hw 207 rfl)) (mvT hZ (own_w hw 208 rfl)) (mvT hZ (own_w hw 209 rfl)) (mvT hZ (own_w hw 105 rfl)) (by decide) (backOf (W := 0) (rm_get l Z a0 hw [] wG1 wG3 wG5 wK5 cx hEL h0 n0 X00 rr edx kex nEx esx kq xx (Int32.ofNat (own_segs (oT nw c1 c2 c3 c4)).length) xE1 xG2 xA1 xG1 hb1 hb2 hxx (by omega) ((own_ltN (by omega) (by omega)).mpr hk2)) hZ (own_w hw 210 rfl) (own_w hw 36 rfl) (by decide) (by decide)) q11a q11b q11c (g := (mkF m 62 #[vR rr, vR ab1, vI nw, vI 1, vI (Int32.ofNat kq), vI (Int32.ofNat jq), vU] [(.int (Int32.ofNat kq)), (.ref rr)])) rfl (by rw [hml]; rfl) (Steps.refl _) (argsL := [(.int (Int32.ofNat kq))]) (rest := []) (lenOf pd_40348018 rfl) rfl (Nat.le_of_eq rfl) (hb hby d42_62) (fun _ _ => ⟨rfl, eq10, (by decide : 0 + 0 ≤ _), (by decide : 0 + 0 ≤ _)⟩)
    dsimp only [Pt.U, Pt.locs, Pt.cells, Pt.slots] at X11 l11 y11 z11 st11 hQ11
    subst l11 y11 z11
    obtain ⟨rfl, Nq11, eq11⟩ := hQ11
    refine OwnGoes.tr (T' := T11) (g' := (mkF m 67 #[vR rr, vR ab1, vI nw, vI 1, vI (Int32.ofNat kq), vI (Int32.ofNat jq), vU] [(.ref xx)])) st11 ?_
    have N11 := Fr.app N10 Nq11
    obtain ⟨T12, X12, e12, st12⟩ := castY X11 hx hZ hown (own_w hw 9 rfl) eq11 (Ins.self xX1) (g := (mkF m 67 #[vR rr, vR ab1, vI nw, vI 1, vI (Int32.ofNat kq), vI (Int32.ofNat jq), vU] [(.ref xx)])) rfl rfl (hb hby d42_67)
    refine og T12 m 70 #[vR rr, vR ab1, vI nw, vI 1, vI (Int32.ofNat kq), vI (Int32.ofNat jq), vU] [(.ref xx)] st12 ?_
    refine og T12 m 76 #[vR rr, vR ab1, vI nw, vI 1, vI (Int32.ofNat kq), vI (Int32.ofNat jq), vR xx] [(.ref xx), (.int (Int32.ofNat jq))] (fun tgt kgo => ?_) ?_
    · refine XS.astore X12.here hx rfl (hb hby d42_70) rfl rfl (l' := #[vR rr, vR ab1, vI nw, vI 1, vI (Int32.ofNat kq), vI (Int32.ofNat jq), vR xx]) rfl ?_
      refine XS.iload X12.here hx rfl (hb hby d42_72) rfl ?_
      refine XS.aload X12.here hx rfl (hb hby d42_74) rfl rfl ?_
      exact kgo
    obtain ⟨cq13, kq13, q13a, q13b, q13c⟩ := isOf (s := s) hZ e12 xX1
    obtain ⟨_, _, ⟨T13, L13, k13, n13⟩, -, X13, ⟨Lc13, hQ13, l13, y13, z13⟩, st13⟩ := X12.virtualBack hx (y := mN3) (z := mN3) hown (mvT hZ (own_w hw 223 rfl)) (mvT hZ (own_w hw 75 rfl)) (notFace_of_selects (args := #[]) (mvT hZ (own_w hw 77 rfl))) (mvT hZ (own_w hw 77 rfl)) (mvT hZ (own_w hw 76 rfl)) (by decide) (backOf (W := 1) (rm_len l Z a0 hw [] wG1 wG3 wG5 wK5 cx hEL h0 n0 X00 xx tx kx Nx vx xX1 xV1 xC1 xT1) hZ (own_w hw 78 rfl) (own_w hw 11 rfl) (by decide) (by decide)) q13a q13c (g := (mkF m 76 #[vR rr, vR ab1, vI nw, vI 1, vI (Int32.ofNat kq), vI (Int32.ofNat jq), vR xx] [(.ref xx), (.int (Int32.ofNat jq))])) rfl (by rw [hml]; rfl) (Steps.refl _) (argsL := []) (rest := [(.int (Int32.ofNat jq))]) (lenOf pd_86913941 rfl) rfl (Nat.le_of_eq rfl) (hb hby d42_76) (fun _ _ => ⟨rfl, e12, (by decide : 0 + 0 ≤ _), (by decide : 0 + 0 ≤ _)⟩)
    dsimp only [Pt.U, Pt.locs, Pt.cells, Pt.slots] at X13 l13 y13 z13 st13 hQ13
    subst l13 y13 z13
    obtain ⟨rfl, Nq13, eq13⟩ := hQ13
    refine OwnGoes.tr (T' := T13) (g' := (mkF m 79 #[vR rr, vR ab1, vI nw, vI 1, vI (Int32.ofNat kq), vI (Int32.ofNat jq), vR xx] [(.int Nx), (.int (Int32.ofNat jq))])) st13 ?_
    have N13 := Fr.app N11 Nq13
    refine og T13 m 86 #[vR rr, vR ab1, vI nw, vI 1, vI (Int32.ofNat kq), vI (Int32.ofNat jq), vR xx] [(.int (Int32.ofNat jq)), (.ref xx)] (fun tgt kgo => ?_) ?_
    · refine XS.icmpNo X13.here hx rfl (hb hby d42_79) rfl (tlt ((own_na hox (by have := hox.2.2; omega)).1.mpr hj2)).2.1 ?_
      refine XS.aload X13.here hx rfl (hb hby d42_82) rfl rfl ?_
      refine XS.iload X13.here hx rfl (hb hby d42_84) rfl ?_
      exact kgo
    obtain ⟨cq14, kq14, q14a, q14b, q14c⟩ := isOf (s := s) hZ eq13 xX1
    obtain ⟨_, _, ⟨T14, L14, k14, n14⟩, -, X14, ⟨Lc14, hQ14, l14, y14, z14⟩, st14⟩ := X13.virtualBack hx (y := mN9) (z := mN9) hown (mvT hZ (own_w hw 224 rfl)) (mvT hZ (own_w hw 225 rfl)) (notFace_of_selects (args := #[]) (mvT hZ (own_w hw 227 rfl))) (mvT hZ (own_w hw 227 rfl)) (mvT hZ (own_w hw 226 rfl)) (by decide) (backOf (W := 0) (rm_chL l Z a0 hw [] wG1 wG3 wG5 wK5 cx hEL h0 n0 X00 xx tx kx Nx vx (Int32.ofNat jq) (((own_segs (oT nw c1 c2 c3 c4)).getD kq []).getD jq 0) xX1 xV1 xC1 xT1 (own_chL hox hj2)) hZ (own_w hw 228 rfl) (own_w hw 11 rfl) (by decide) (by decide)) q14a q14c (g := (mkF m 86 #[vR rr, vR ab1, vI nw, vI 1, vI (Int32.ofNat kq), vI (Int32.ofNat jq), vR xx] [(.int (Int32.ofNat jq)), (.ref xx)])) rfl (by rw [hml]; rfl) (Steps.refl _) (argsL := [(.int (Int32.ofNat jq))]) (rest := []) (lenOf pd_17647939 rfl) rfl (Nat.le_of_eq rfl) (hb hby d42_86) (fun _ _ => ⟨rfl, eq13, (by decide : 0 + 0 ≤ _), (by decide : 0 + 0 ≤ _)⟩)
    dsimp only [Pt.U, Pt.locs, Pt.cells, Pt.slots] at X14 l14 y14 z14 st14 hQ14
    subst l14 y14 z14
    obtain ⟨rfl, Nq14, eq14⟩ := hQ14
    refine OwnGoes.tr (T' := T14) (g' := (mkF m 89 #[vR rr, vR ab1, vI nw, vI 1, vI (Int32.ofNat kq), vI (Int32.ofNat jq), vR xx] [(.int (((own_segs (oT nw c1 c2 c3 c4)).getD kq []).getD jq 0))])) st14 ?_
    have N14 := Fr.app N13 Nq14
    refine og T14 m 100 #[vR rr, vR ab1, vI nw, vI 1, vI (Int32.ofNat kq), vI (Int32.ofNat jq), vR xx] [(.int 1)] (fun tgt kgo => ?_) ?_
    · refine XS.aloadN X14.here hx rfl (hb hby d42_89) rfl rfl ?_
      refine XS.iloadN X14.here hx rfl (hb hby d42_90) rfl ?_
      show OwnG p e below T14 m 91 #[vR rr, vR ab1, vI nw, vI 1, vI (Int32.ofNat kq), vI (Int32.ofNat jq), vR xx] [(.int 1), (.ref ab1), (.int (((own_segs (oT nw c1 c2 c3 c4)).getD kq []).getD jq 0))] tgt
      obtain ⟨cl15, Ar15, q15, S15, M15, H15, G15⟩ := f0
      refine X14.caload hx (j := (1 : Int32)) (v := (.int c2)) (by rw [eq14]; exact Ar15.1) (State.isArrayOf_alike hZ.alike Ar15.2.1) Ar15.2.2 (inb_of S15 ⟨by decide, by decide⟩) (Has.at H15 (inb_of S15 ⟨by decide, by decide⟩) rfl) (g := (mkF m 91 #[vR rr, vR ab1, vI nw, vI 1, vI (Int32.ofNat kq), vI (Int32.ofNat jq), vR xx] [(.int 1), (.ref ab1), (.int (((own_segs (oT nw c1 c2 c3 c4)).getD kq []).getD jq 0))])) rfl rfl (hb hby d42_91) _ ?_
      show OwnG p e below T14 m 92 #[vR rr, vR ab1, vI nw, vI 1, vI (Int32.ofNat kq), vI (Int32.ofNat jq), vR xx] [(.int c2), (.int (((own_segs (oT nw c1 c2 c3 c4)).getD kq []).getD jq 0))] tgt
      refine XS.icmpNo X14.here hx rfl (hb hby d42_92) rfl (teq hj3).2 ?_
      refine XS.iconst X14.here hx rfl (hb hby d42_95) ?_
      refine XS.goto X14.here hx rfl (pc0 := 96) (pc' := 100) rfl (hb hby d42_96) (by decide) (by decide) ?_
      exact kgo
    refine own_leave X14 hlk (v := some (.int 1)) (fun h => by rw [Bd.returns] at h; cases h) (fun fs hr => retN X14 hx (t := .boolean) Bd.returns (by simp) (hb hby d42_100) (by rw [(by decide : nar .boolean (1 : Int32) = (1 : Int32))]; exact hr)) (by decide) (by decide) ?_
    show Q_cok_1 Z rr ab1 kc nw c1 c2 c3 c4 h0 n0 _ T14.heap _
    rw [eq14]
    exact ⟨rfl, N14, rfl⟩
  refine og s₁ m 23 #[vR rr, vR ab1, vI nw, vI 1, vU, vU, vU] [(.int 1)] (fun tgt kgo => ?_) ?_
  · refine XS.icmpYes X0.here hx rfl (pc0 := 2) (pc' := 22) rfl (hb hby d42_2) rfl (flt cc1).2.1 (by decide) (by decide) ?_
    refine XS.iconst X0.here hx rfl (hb hby d42_22) ?_
    exact kgo
  refine own_leave X0 hlk (v := some (.int 1)) (fun h => by rw [Bd.returns] at h; cases h) (fun fs hr => retN X0 hx (t := .boolean) Bd.returns (by simp) (hb hby d42_23) (by rw [(by decide : nar .boolean (1 : Int32) = (1 : Int32))]; exact hr)) (by decide) (by decide) ?_
  show Q_cok_1 Z rr ab1 kc nw c1 c2 c3 c4 h0 n0 _ s₁.heap _
  rw [e0]
  exact ⟨rfl, N0, rfl⟩
theorem ef_cok_2 (m : MethodId) (x0 : Addr) (x1 : Addr) (x2 : Int32) : entryFrame m #[(.ref x0), (.ref x1), (.int x2), (.int 2)] 7 = mkF m 0 #[vR x0, vR x1, vI x2, vI 2, vU, vU, vU] [] := by
  first | (simp [entryFrame, mkF, argsToLocals, Value.category]; done) | rfl
def Q_cok_2 (Z : State) (rr : Addr) (ab1 : Addr) (kc : ClassId) (nw : Int32) (c1 : Int32) (c2 : Int32) (c3 : Int32) (c4 : Int32) (h0 : Heap) (n0 : Nat) (v : Option Value) (h : Heap) (L : List Loc) : Prop := v = some (.int 1) ∧ Fr n0 L ∧ h = h0
set_option maxRecDepth 65536 in
set_option maxHeartbeats 40000000 in
theorem rm_cok_2 (l : Launch) (Z : State) (a0 : Array Value) (hw : ∀ d ∈ tables_1, d.before a0 Z = true) (ws : List Jvm.Cond) (wG1 : Int32) (wG3 : Value) (wG5 : Addr) (wK5 : ClassId) (cx : OwnCx Z a0 wG1 wG3 wG5 wK5) (hEL : EW Z a0 consts_1) (h0 : Heap) (n0 : Nat) (X00 : Old Z n0 h0) (rr : Addr) (ab1 : Addr) (kc : ClassId) (nw : Int32) (c1 : Int32) (c2 : Int32) (c3 : Int32) (c4 : Int32) (f0 : Arv Z h0 ab1 kc .char (4 : Int32) [(.int c1), (.int c2), (.int c3), (.int c4)] (.int 0)) (hN : OwnN nw) (hS : OwnSegs Z h0 rr (own_segs (oT nw c1 c2 c3 c4))) :
    MetFree l mN43 (head1 (Jvm.Cond.code mN43 method_7_code 7 (some .boolean) :: ws) (oR 4 0 0 53)) (fun a U => a = #[(.ref rr), (.ref ab1), (.int nw), (.int 2)] ∧ Z.Warmed39 U.vm ∧ U.heap = h0) (fun _ _ _ _ _ => True) (fun _ U o U' => ∃ v L, o = .returned v ∧ Q_cok_2 Z rr ab1 kc nw c1 c2 c3 c4 h0 n0 v U'.heap L ∧ FrameEnd U o U' L (oR 4 0 0 53).cells (oR 4 0 0 53).slots) := by
  refine MetFree.of_bodySF (plainFor_of_name pn_43637772) hisR ?_
  intro p e s m args below meth c s₁ Bd hml0 hP hK
  obtain ⟨rfl, hZ, hh⟩ := hP
  obtain ⟨wO2, wP5, wO4, wrG3, hstr, wO5, wV5⟩ := id cx
  have hx := Bd.exec
  have hby := Bd.bytes
  have hlk := Bd.notSynchronized
  have hml : c.maxLocals = 7 := hml0
  have hown : s.vm.findClass "com/example/kindling/kindling/web/PathTemplateSegmentsPinLaw" = some m.cls := findClass_of_methodNamed Bd.named
  have hnm := (name_of_methodNamed Bd.named Bd.method).1
  have X0 : Stand p l e (oR 4 0 0 53) s m #[(.ref rr), (.ref ab1), (.int nw), (.int 2)] below meth c s₁ [] 0 0 := Stand.of_body Bd
  have e0 : s₁.heap = h0 := by rw [← hh, Bd.state]; rfl
  have N0 := Fr.nil n0
  have Z0 : n0 ≤ h0.size := X00.1 ▸ X00.2.1
  have K0 : Keep h0 h0 ([] : List Addr) := Keep.refl _ _
  show OwnGoes p e below _ s₁ (entryFrame m _ _)
  refine og s₁ m 0 #[vR rr, vR ab1, vI nw, vI 2, vU, vU, vU] [] (fun tgt kgo => castTop (ef_cok_2 m rr ab1 nw) kgo) ?_
  obtain ⟨edx, kex, nEx, esx, xE1, xG1, xG2, xA1, hl4, hall⟩ := id hS
  refine og s₁ m 2 #[vR rr, vR ab1, vI nw, vI 2, vU, vU, vU] [(.int nw), (.int 2)] (fun tgt kgo => ?_) ?_
  · refine XS.iloadN X0.here hx rfl (hb hby d42_0) rfl ?_
    refine XS.iloadN X0.here hx rfl (hb hby d42_1) rfl ?_
    exact kgo
  by_cases cc1 : (2 : Int32) < nw
  · skip
    refine og s₁ m 10 #[vR rr, vR ab1, vI nw, vI 2, vU, vU, vU] [(.int 47), (.int c3)] (fun tgt kgo => ?_) ?_
    · refine XS.icmpNo X0.here hx rfl (hb hby d42_2) rfl (tlt cc1).2.1 ?_
      refine XS.aloadN X0.here hx rfl (hb hby d42_5) rfl rfl ?_
      refine XS.iloadN X0.here hx rfl (hb hby d42_6) rfl ?_
      show OwnG p e below s₁ m 7 #[vR rr, vR ab1, vI nw, vI 2, vU, vU, vU] [(.int 2), (.ref ab1)] tgt
      obtain ⟨cl2, Ar2, q2, S2, M2, H2, G2⟩ := f0
      refine X0.caload hx (j := (2 : Int32)) (v := (.int c3)) (by rw [e0]; exact Ar2.1) (State.isArrayOf_alike hZ.alike Ar2.2.1) Ar2.2.2 (inb_of S2 ⟨by decide, by decide⟩) (Has.at H2 (inb_of S2 ⟨by decide, by decide⟩) rfl) (g := (mkF m 7 #[vR rr, vR ab1, vI nw, vI 2, vU, vU, vU] [(.int 2), (.ref ab1)])) rfl rfl (hb hby d42_7) _ ?_
      refine XS.bipush X0.here hx rfl (hb hby d42_8) ?_
      exact kgo
    by_cases cc3 : c3 = (47 : Int32)
    · skip
      refine og s₁ m 23 #[vR rr, vR ab1, vI nw, vI 2, vU, vU, vU] [(.int 1)] (fun tgt kgo => ?_) ?_
      · refine XS.icmpYes X0.here hx rfl (pc0 := 10) (pc' := 22) rfl (hb hby d42_10) rfl (teq cc3).1 (by decide) (by decide) ?_
        refine XS.iconst X0.here hx rfl (hb hby d42_22) ?_
        exact kgo
      refine own_leave X0 hlk (v := some (.int 1)) (fun h => by rw [Bd.returns] at h; cases h) (fun fs hr => retN X0 hx (t := .boolean) Bd.returns (by simp) (hb hby d42_23) (by rw [(by decide : nar .boolean (1 : Int32) = (1 : Int32))]; exact hr)) (by decide) (by decide) ?_
      show Q_cok_2 Z rr ab1 kc nw c1 c2 c3 c4 h0 n0 _ s₁.heap _
      rw [e0]
      exact ⟨rfl, N0, rfl⟩
    refine og s₁ m 16 #[vR rr, vR ab1, vI nw, vI 2, vU, vU, vU] [(.int 2), (.int nw), (.ref ab1)] (fun tgt kgo => ?_) ?_
    · refine XS.icmpNo X0.here hx rfl (hb hby d42_10) rfl (feq cc3).1 ?_
      refine XS.aloadN X0.here hx rfl (hb hby d42_13) rfl rfl ?_
      refine XS.iloadN X0.here hx rfl (hb hby d42_14) rfl ?_
      show OwnG p e below s₁ m 15 #[vR rr, vR ab1, vI nw, vI 2, vU, vU, vU] [(.int nw), (.ref ab1)] tgt
      refine XS.iloadN X0.here hx rfl (hb hby d42_15) rfl ?_
      exact kgo
    obtain ⟨_, _, ⟨T5, L5, k5, n5⟩, -, X5, ⟨Lc5, hQ5, l5, y5, z5⟩, st5⟩ := Jvm.LawKit.callS X0 hx (y := mN40) hown (mvT hZ (own_w hw 109 rfl)) (mvT hZ (own_w hw 110 rfl)) (mvT hZ (own_w hw 4 rfl)) (mvT hZ (own_w hw 111 rfl)) (by decide) (backOf (W := 0) (rm_cnt_2 l Z a0 hw [] wG1 wG3 wG5 wK5 cx hEL h0 n0 X00 ab1 kc nw c1 c2 c3 c4 f0) hZ (own_w hw 111 rfl) (own_w hw 4 rfl) (by decide) (by decide)) (g := (mkF m 16 #[vR rr, vR ab1, vI nw, vI 2, vU, vU, vU] [(.int 2), (.int nw), (.ref ab1)])) rfl (by rw [hml]; rfl) (argsL := [(.ref ab1), (.int nw), (.int 2)]) (rest := []) (lenOf pd_92517391 rfl) rfl (Nat.le_of_eq rfl) (hb hby d42_16) (fun _ _ => ⟨rfl, e0, (by decide : 0 + 0 ≤ _), (by decide : 0 + 0 ≤ _)⟩)
    dsimp only [Pt.U, Pt.locs, Pt.cells, Pt.slots] at X5 l5 y5 z5 st5 hQ5
    subst l5 y5 z5
    obtain ⟨rfl, Nq5, eq5⟩ := hQ5
    refine og T5 m 19 #[vR rr, vR ab1, vI nw, vI 2, vU, vU, vU] [(.int (oc nw (1 : Int32) c2 (oc nw (0 : Int32) c1 (0 : Int32))))] st5 ?_
    have N5 := Fr.app N0 Nq5
    by_cases cc6 : (oc nw (1 : Int32) c2 (oc nw (0 : Int32) c1 (0 : Int32))) = (0 : Int32)
    · skip
      refine og T5 m 23 #[vR rr, vR ab1, vI nw, vI 2, vU, vU, vU] [(.int 1)] (fun tgt kgo => ?_) ?_
      · refine XS.ifNo X5.here hx rfl (hb hby d42_19) rfl ((if0 _ _).trans (teq cc6).2) ?_
        refine XS.iconst X5.here hx rfl (hb hby d42_22) ?_
        exact kgo
      refine own_leave X5 hlk (v := some (.int 1)) (fun h => by rw [Bd.returns] at h; cases h) (fun fs hr => retN X5 hx (t := .boolean) Bd.returns (by simp) (hb hby d42_23) (by rw [(by decide : nar .boolean (1 : Int32) = (1 : Int32))]; exact hr)) (by decide) (by decide) ?_
      show Q_cok_2 Z rr ab1 kc nw c1 c2 c3 c4 h0 n0 _ T5.heap _
      rw [eq5]
      exact ⟨rfl, N5, rfl⟩
    refine og T5 m 24 #[vR rr, vR ab1, vI nw, vI 2, vU, vU, vU] [] (fun tgt kgo => ?_) ?_
    · refine XS.ifYes X5.here hx rfl (pc0 := 19) (pc' := 24) rfl (hb hby d42_19) rfl ((if0 _ _).trans (feq cc6).2) (by decide) (by decide) ?_
      exact kgo
    obtain ⟨kq, jq, hk1, hj1, hk2, hj2, hj3⟩ := own_p2 (c1 := c1) (c2 := c2) (c3 := c3) (c4 := c4) hN cc1 cc3 cc6
    obtain ⟨⟨xx, tx, kx, Nx, vx, hxx, xX1, xV1, xC1, xT1, hox⟩, hb1, hb2⟩ := hall kq hk2
    refine og T5 m 27 #[vR rr, vR ab1, vI nw, vI 2, vU, vU, vU] [(.int 2), (.int nw), (.ref ab1)] (fun tgt kgo => ?_) ?_
    · refine XS.aloadN X5.here hx rfl (hb hby d42_24) rfl rfl ?_
      refine XS.iloadN X5.here hx rfl (hb hby d42_25) rfl ?_
      refine XS.iloadN X5.here hx rfl (hb hby d42_26) rfl ?_
      exact kgo
    obtain ⟨_, _, ⟨T8, L8, k8, n8⟩, -, X8, ⟨Lc8, hQ8, l8, y8, z8⟩, st8⟩ := Jvm.LawKit.callS X5 hx (y := mN40) hown (mvT hZ (own_w hw 109 rfl)) (mvT hZ (own_w hw 110 rfl)) (mvT hZ (own_w hw 4 rfl)) (mvT hZ (own_w hw 111 rfl)) (by decide) (backOf (W := 0) (rm_cnt_2 l Z a0 hw [] wG1 wG3 wG5 wK5 cx hEL h0 n0 X00 ab1 kc nw c1 c2 c3 c4 f0) hZ (own_w hw 111 rfl) (own_w hw 4 rfl) (by decide) (by decide)) (g := (mkF m 27 #[vR rr, vR ab1, vI nw, vI 2, vU, vU, vU] [(.int 2), (.int nw), (.ref ab1)])) rfl (by rw [hml]; rfl) (argsL := [(.ref ab1), (.int nw), (.int 2)]) (rest := []) (lenOf pd_92517391 rfl) rfl (Nat.le_of_eq rfl) (hb hby d42_27) (fun _ _ => ⟨rfl, eq5, (by decide : 0 + 0 ≤ _), (by decide : 0 + 0 ≤ _)⟩)
    dsimp only [Pt.U, Pt.locs, Pt.cells, Pt.slots] at X8 l8 y8 z8 st8 hQ8
    subst l8 y8 z8
    obtain ⟨rfl, Nq8, eq8⟩ := hQ8
    refine og T8 m 30 #[vR rr, vR ab1, vI nw, vI 2, vU, vU, vU] [(.int (oc nw (1 : Int32) c2 (oc nw (0 : Int32) c1 (0 : Int32))))] st8 ?_
    have N8 := Fr.app N5 Nq8
    refine og T8 m 32 #[vR rr, vR ab1, vI nw, vI 2, vU, vU, vU] [(.int ((oc nw (1 : Int32) c2 (oc nw (0 : Int32) c1 (0 : Int32))) - (1 : Int32)))] (fun tgt kgo => ?_) ?_
    · refine XS.iconst X8.here hx rfl (hb hby d42_30) ?_
      refine XS.isub X8.here hx rfl (hb hby d42_31) rfl ?_
      exact kgo
    refine og T8 m 32 #[vR rr, vR ab1, vI nw, vI 2, vU, vU, vU] [(.int (Int32.ofNat kq))] (fun tgt kgo => castTop (by rw [hk1]) kgo) ?_
    refine og T8 m 38 #[vR rr, vR ab1, vI nw, vI 2, vI (Int32.ofNat kq), vU, vU] [(.int 2), (.int nw), (.ref ab1), (.int 2)] (fun tgt kgo => ?_) ?_
    · refine XS.istore X8.here hx rfl (hb hby d42_32) rfl (l' := #[vR rr, vR ab1, vI nw, vI 2, vI (Int32.ofNat kq), vU, vU]) rfl ?_
      refine XS.iloadN X8.here hx rfl (hb hby d42_34) rfl ?_
      refine XS.aloadN X8.here hx rfl (hb hby d42_35) rfl rfl ?_
      show OwnG p e below T8 m 36 #[vR rr, vR ab1, vI nw, vI 2, vI (Int32.ofNat kq), vU, vU] [(.ref ab1), (.int 2)] tgt
      refine XS.iloadN X8.here hx rfl (hb hby d42_36) rfl ?_
      refine XS.iloadN X8.here hx rfl (hb hby d42_37) rfl ?_
      exact kgo
    obtain ⟨_, _, ⟨T9, L9, k9, n9⟩, -, X9, ⟨Lc9, hQ9, l9, y9, z9⟩, st9⟩ := Jvm.LawKit.callS X8 hx (y := mN41) hown (mvT hZ (own_w hw 200 rfl)) (mvT hZ (own_w hw 201 rfl)) (mvT hZ (own_w hw 4 rfl)) (mvT hZ (own_w hw 202 rfl)) (by decide) (backOf (W := 1) (rm_last_2 l Z a0 hw [] wG1 wG3 wG5 wK5 cx hEL h0 n0 X00 ab1 kc nw c1 c2 c3 c4 f0) hZ (own_w hw 202 rfl) (own_w hw 4 rfl) (by decide) (by decide)) (g := (mkF m 38 #[vR rr, vR ab1, vI nw, vI 2, vI (Int32.ofNat kq), vU, vU] [(.int 2), (.int nw), (.ref ab1), (.int 2)])) rfl (by rw [hml]; rfl) (argsL := [(.ref ab1), (.int nw), (.int 2)]) (rest := [(.int 2)]) (lenOf pd_92517391 rfl) rfl (Nat.le_of_eq rfl) (hb hby d42_38) (fun _ _ => ⟨rfl, eq8, (by decide : 0 + 0 ≤ _), (by decide : 0 + 0 ≤ _)⟩)
    dsimp only [Pt.U, Pt.locs, Pt.cells, Pt.slots] at X9 l9 y9 z9 st9 hQ9
    subst l9 y9 z9
    obtain ⟨r_9, rfl, Nq9, eq9, pq9_0⟩ := hQ9
    refine og T9 m 41 #[vR rr, vR ab1, vI nw, vI 2, vI (Int32.ofNat kq), vU, vU] [(.int r_9), (.int 2)] st9 ?_
    have N9 := Fr.app N8 Nq9
    refine og T9 m 41 #[vR rr, vR ab1, vI nw, vI 2, vI (Int32.ofNat kq), vU, vU] [(.int (if (1 : Int32) < nw ∧ c2 = 47 then (1 : Int32) else (if (0 : Int32) < nw ∧ c1 = 47 then (0 : Int32) else (-1 : Int32)))), (.int 2)] (fun tgt kgo => castTop (by rw [pq9_0]) kgo) ?_
    refine og T9 m 44 #[vR rr, vR ab1, vI nw, vI 2, vI (Int32.ofNat kq), vU, vU] [(.int (((2 : Int32) - (if (1 : Int32) < nw ∧ c2 = 47 then (1 : Int32) else (if (0 : Int32) < nw ∧ c1 = 47 then (0 : Int32) else (-1 : Int32)))) - (1 : Int32)))] (fun tgt kgo => ?_) ?_
    · refine XS.isub X9.here hx rfl (hb hby d42_41) rfl ?_
      refine XS.iconst X9.here hx rfl (hb hby d42_42) ?_
      refine XS.isub X9.here hx rfl (hb hby d42_43) rfl ?_
      exact kgo
    refine og T9 m 44 #[vR rr, vR ab1, vI nw, vI 2, vI (Int32.ofNat kq), vU, vU] [(.int (Int32.ofNat jq))] (fun tgt kgo => castTop (by rw [hj1]) kgo) ?_
    refine og T9 m 49 #[vR rr, vR ab1, vI nw, vI 2, vI (Int32.ofNat kq), vI (Int32.ofNat jq), vU] [(.ref rr), (.int (Int32.ofNat kq))] (fun tgt kgo => ?_) ?_
    · refine XS.istore X9.here hx rfl (hb hby d42_44) rfl (l' := #[vR rr, vR ab1, vI nw, vI 2, vI (Int32.ofNat kq), vI (Int32.ofNat jq), vU]) rfl ?_
      refine XS.iload X9.here hx rfl (hb hby d42_46) rfl ?_
      refine XS.aloadN X9.here hx rfl (hb hby d42_48) rfl rfl ?_
      exact kgo
    obtain ⟨cq10, kq10, q10a, q10b, q10c⟩ := isOf (s := s) hZ eq9 xE1
    obtain ⟨_, _, ⟨T10, L10, k10, n10⟩, -, X10, ⟨Lc10, hQ10, l10, y10, z10⟩, st10⟩ := X9.interfaceBack hx (xi := mN44) (y := mN34) hown (mvT hZ (own_w hw 98 rfl)) (mvT hZ (own_w hw 99 rfl)) (mvT hZ (own_w hw 100 rfl)) (mvT hZ (own_w hw 101 rfl)) (mvT hZ (own_w hw 102 rfl)) (mvT hZ (own_w hw 103 rfl)) (mvT hZ (own_w hw 104 rfl)) (mvT hZ (own_w hw 105 rfl)) (by decide) (backOf (W := 1) (rm_size l Z a0 hw [] wG1 wG3 wG5 wK5 cx hEL h0 n0 X00 rr (Int32.ofNat (own_segs (oT nw c1 c2 c3 c4)).length) xE1 xG1) hZ (own_w hw 106 rfl) (own_w hw 36 rfl) (by decide) (by decide)) q10a q10b q10c (g := (mkF m 49 #[vR rr, vR ab1, vI nw, vI 2, vI (Int32.ofNat kq), vI (Int32.ofNat jq), vU] [(.ref rr), (.int (Int32.ofNat kq))])) rfl (by rw [hml]; rfl) (Steps.refl _) (argsL := []) (rest := [(.int (Int32.ofNat kq))]) (lenOf pd_86913941 rfl) rfl (Nat.le_of_eq rfl) (hb hby d42_49) (fun _ _ => ⟨rfl, eq9, (by decide : 0 + 0 ≤ _), (by decide : 0 + 0 ≤ _)⟩)
    dsimp only [Pt.U, Pt.locs, Pt.cells, Pt.slots] at X10 l10 y10 z10 st10 hQ10
    subst l10 y10 z10
    obtain ⟨rfl, Nq10, eq10⟩ := hQ10
    refine OwnGoes.tr (T' := T10) (g' := (mkF m 54 #[vR rr, vR ab1, vI nw, vI 2, vI (Int32.ofNat kq), vI (Int32.ofNat jq), vU] [(.int (Int32.ofNat (own_segs (oT nw c1 c2 c3 c4)).length)), (.int (Int32.ofNat kq))])) st10 ?_
    have N10 := Fr.app N9 Nq10
    refine og T10 m 62 #[vR rr, vR ab1, vI nw, vI 2, vI (Int32.ofNat kq), vI (Int32.ofNat jq), vU] [(.int (Int32.ofNat kq)), (.ref rr)] (fun tgt kgo => ?_) ?_
    · refine XS.icmpYes X10.here hx rfl (pc0 := 54) (pc' := 59) rfl (hb hby d42_54) rfl (tlt ((own_ltN (by omega) (by omega)).mpr hk2)).1 (by decide) (by decide) ?_
      refine XS.aloadN X10.here hx rfl (hb hby d42_59) rfl rfl ?_
      refine XS.iload X10.here hx rfl (hb hby d42_60) rfl ?_
      exact kgo
    obtain ⟨cq11, kq11, q11a, q11b, q11c⟩ := isOf (s := s) hZ eq10 xE1
    obtain ⟨_, _, ⟨T11, L11, k11, n11⟩, -, X11, ⟨Lc11, hQ11, l11, y11, z11⟩, st11⟩ := X10.interfaceBack hx (xi := mN45) (y := mN36) hown (mvT hZ (own_w hw 203 rfl)) (mvT hZ (own_w hw 204 rfl)) (mvT hZ (own_w hw 205 rfl)) (mvT hZ (own_w hw 206 rfl)) (mvT hZ (own_w hw 207 rfl)) (mvT hZ (own_w hw 208 rfl)) (mvT hZ (own_w hw 209 rfl)) (mvT hZ (own_w hw 105 rfl)) (by decide) (backOf (W := 0) (rm_get l Z a0 hw [] wG1 wG3 wG5 wK5 cx hEL h0 n0 X00 rr edx kex nEx esx kq xx (Int32.ofNat (own_segs (oT nw c1 c2 c3 c4)).length) xE1 xG2 xA1 xG1 hb1 hb2 hxx (by omega) ((own_ltN (by omega) (by omega)).mpr hk2)) hZ (own_w hw 210 rfl) (own_w hw 36 rfl) (by decide) (by decide)) q11a q11b q11c (g := (mkF m 62 #[vR rr, vR ab1, vI nw, vI 2, vI (Int32.ofNat kq), vI (Int32.ofNat jq), vU] [(.int (Int32.ofNat kq)), (.ref rr)])) rfl (by rw [hml]; rfl) (Steps.refl _) (argsL := [(.int (Int32.ofNat kq))]) (rest := []) (lenOf pd_40348018 rfl) rfl (Nat.le_of_eq rfl) (hb hby d42_62) (fun _ _ => ⟨rfl, eq10, (by decide : 0 + 0 ≤ _), (by decide : 0 + 0 ≤ _)⟩)
    dsimp only [Pt.U, Pt.locs, Pt.cells, Pt.slots] at X11 l11 y11 z11 st11 hQ11
    subst l11 y11 z11
    obtain ⟨rfl, Nq11, eq11⟩ := hQ11
    refine OwnGoes.tr (T' := T11) (g' := (mkF m 67 #[vR rr, vR ab1, vI nw, vI 2, vI (Int32.ofNat kq), vI (Int32.ofNat jq), vU] [(.ref xx)])) st11 ?_
    have N11 := Fr.app N10 Nq11
    obtain ⟨T12, X12, e12, st12⟩ := castY X11 hx hZ hown (own_w hw 9 rfl) eq11 (Ins.self xX1) (g := (mkF m 67 #[vR rr, vR ab1, vI nw, vI 2, vI (Int32.ofNat kq), vI (Int32.ofNat jq), vU] [(.ref xx)])) rfl rfl (hb hby d42_67)
    refine og T12 m 70 #[vR rr, vR ab1, vI nw, vI 2, vI (Int32.ofNat kq), vI (Int32.ofNat jq), vU] [(.ref xx)] st12 ?_
    refine og T12 m 76 #[vR rr, vR ab1, vI nw, vI 2, vI (Int32.ofNat kq), vI (Int32.ofNat jq), vR xx] [(.ref xx), (.int (Int32.ofNat jq))] (fun tgt kgo => ?_) ?_
    · refine XS.astore X12.here hx rfl (hb hby d42_70) rfl rfl (l' := #[vR rr, vR ab1, vI nw, vI 2, vI (Int32.ofNat kq), vI (Int32.ofNat jq), vR xx]) rfl ?_
      refine XS.iload X12.here hx rfl (hb hby d42_72) rfl ?_
      refine XS.aload X12.here hx rfl (hb hby d42_74) rfl rfl ?_
      exact kgo
    obtain ⟨cq13, kq13, q13a, q13b, q13c⟩ := isOf (s := s) hZ e12 xX1
    obtain ⟨_, _, ⟨T13, L13, k13, n13⟩, -, X13, ⟨Lc13, hQ13, l13, y13, z13⟩, st13⟩ := X12.virtualBack hx (y := mN3) (z := mN3) hown (mvT hZ (own_w hw 223 rfl)) (mvT hZ (own_w hw 75 rfl)) (notFace_of_selects (args := #[]) (mvT hZ (own_w hw 77 rfl))) (mvT hZ (own_w hw 77 rfl)) (mvT hZ (own_w hw 76 rfl)) (by decide) (backOf (W := 1) (rm_len l Z a0 hw [] wG1 wG3 wG5 wK5 cx hEL h0 n0 X00 xx tx kx Nx vx xX1 xV1 xC1 xT1) hZ (own_w hw 78 rfl) (own_w hw 11 rfl) (by decide) (by decide)) q13a q13c (g := (mkF m 76 #[vR rr, vR ab1, vI nw, vI 2, vI (Int32.ofNat kq), vI (Int32.ofNat jq), vR xx] [(.ref xx), (.int (Int32.ofNat jq))])) rfl (by rw [hml]; rfl) (Steps.refl _) (argsL := []) (rest := [(.int (Int32.ofNat jq))]) (lenOf pd_86913941 rfl) rfl (Nat.le_of_eq rfl) (hb hby d42_76) (fun _ _ => ⟨rfl, e12, (by decide : 0 + 0 ≤ _), (by decide : 0 + 0 ≤ _)⟩)
    dsimp only [Pt.U, Pt.locs, Pt.cells, Pt.slots] at X13 l13 y13 z13 st13 hQ13
    subst l13 y13 z13
    obtain ⟨rfl, Nq13, eq13⟩ := hQ13
    refine OwnGoes.tr (T' := T13) (g' := (mkF m 79 #[vR rr, vR ab1, vI nw, vI 2, vI (Int32.ofNat kq), vI (Int32.ofNat jq), vR xx] [(.int Nx), (.int (Int32.ofNat jq))])) st13 ?_
    have N13 := Fr.app N11 Nq13
    refine og T13 m 86 #[vR rr, vR ab1, vI nw, vI 2, vI (Int32.ofNat kq), vI (Int32.ofNat jq), vR xx] [(.int (Int32.ofNat jq)), (.ref xx)] (fun tgt kgo => ?_) ?_
    · refine XS.icmpNo X13.here hx rfl (hb hby d42_79) rfl (tlt ((own_na hox (by have := hox.2.2; omega)).1.mpr hj2)).2.1 ?_
      refine XS.aload X13.here hx rfl (hb hby d42_82) rfl rfl ?_
      refine XS.iload X13.here hx rfl (hb hby d42_84) rfl ?_
      exact kgo
    obtain ⟨cq14, kq14, q14a, q14b, q14c⟩ := isOf (s := s) hZ eq13 xX1
    obtain ⟨_, _, ⟨T14, L14, k14, n14⟩, -, X14, ⟨Lc14, hQ14, l14, y14, z14⟩, st14⟩ := X13.virtualBack hx (y := mN9) (z := mN9) hown (mvT hZ (own_w hw 224 rfl)) (mvT hZ (own_w hw 225 rfl)) (notFace_of_selects (args := #[]) (mvT hZ (own_w hw 227 rfl))) (mvT hZ (own_w hw 227 rfl)) (mvT hZ (own_w hw 226 rfl)) (by decide) (backOf (W := 0) (rm_chL l Z a0 hw [] wG1 wG3 wG5 wK5 cx hEL h0 n0 X00 xx tx kx Nx vx (Int32.ofNat jq) (((own_segs (oT nw c1 c2 c3 c4)).getD kq []).getD jq 0) xX1 xV1 xC1 xT1 (own_chL hox hj2)) hZ (own_w hw 228 rfl) (own_w hw 11 rfl) (by decide) (by decide)) q14a q14c (g := (mkF m 86 #[vR rr, vR ab1, vI nw, vI 2, vI (Int32.ofNat kq), vI (Int32.ofNat jq), vR xx] [(.int (Int32.ofNat jq)), (.ref xx)])) rfl (by rw [hml]; rfl) (Steps.refl _) (argsL := [(.int (Int32.ofNat jq))]) (rest := []) (lenOf pd_17647939 rfl) rfl (Nat.le_of_eq rfl) (hb hby d42_86) (fun _ _ => ⟨rfl, eq13, (by decide : 0 + 0 ≤ _), (by decide : 0 + 0 ≤ _)⟩)
    dsimp only [Pt.U, Pt.locs, Pt.cells, Pt.slots] at X14 l14 y14 z14 st14 hQ14
    subst l14 y14 z14
    obtain ⟨rfl, Nq14, eq14⟩ := hQ14
    refine OwnGoes.tr (T' := T14) (g' := (mkF m 89 #[vR rr, vR ab1, vI nw, vI 2, vI (Int32.ofNat kq), vI (Int32.ofNat jq), vR xx] [(.int (((own_segs (oT nw c1 c2 c3 c4)).getD kq []).getD jq 0))])) st14 ?_
    have N14 := Fr.app N13 Nq14
    refine og T14 m 100 #[vR rr, vR ab1, vI nw, vI 2, vI (Int32.ofNat kq), vI (Int32.ofNat jq), vR xx] [(.int 1)] (fun tgt kgo => ?_) ?_
    · refine XS.aloadN X14.here hx rfl (hb hby d42_89) rfl rfl ?_
      refine XS.iloadN X14.here hx rfl (hb hby d42_90) rfl ?_
      show OwnG p e below T14 m 91 #[vR rr, vR ab1, vI nw, vI 2, vI (Int32.ofNat kq), vI (Int32.ofNat jq), vR xx] [(.int 2), (.ref ab1), (.int (((own_segs (oT nw c1 c2 c3 c4)).getD kq []).getD jq 0))] tgt
      obtain ⟨cl15, Ar15, q15, S15, M15, H15, G15⟩ := f0
      refine X14.caload hx (j := (2 : Int32)) (v := (.int c3)) (by rw [eq14]; exact Ar15.1) (State.isArrayOf_alike hZ.alike Ar15.2.1) Ar15.2.2 (inb_of S15 ⟨by decide, by decide⟩) (Has.at H15 (inb_of S15 ⟨by decide, by decide⟩) rfl) (g := (mkF m 91 #[vR rr, vR ab1, vI nw, vI 2, vI (Int32.ofNat kq), vI (Int32.ofNat jq), vR xx] [(.int 2), (.ref ab1), (.int (((own_segs (oT nw c1 c2 c3 c4)).getD kq []).getD jq 0))])) rfl rfl (hb hby d42_91) _ ?_
      show OwnG p e below T14 m 92 #[vR rr, vR ab1, vI nw, vI 2, vI (Int32.ofNat kq), vI (Int32.ofNat jq), vR xx] [(.int c3), (.int (((own_segs (oT nw c1 c2 c3 c4)).getD kq []).getD jq 0))] tgt
      refine XS.icmpNo X14.here hx rfl (hb hby d42_92) rfl (teq hj3).2 ?_
      refine XS.iconst X14.here hx rfl (hb hby d42_95) ?_
      refine XS.goto X14.here hx rfl (pc0 := 96) (pc' := 100) rfl (hb hby d42_96) (by decide) (by decide) ?_
      exact kgo
    refine own_leave X14 hlk (v := some (.int 1)) (fun h => by rw [Bd.returns] at h; cases h) (fun fs hr => retN X14 hx (t := .boolean) Bd.returns (by simp) (hb hby d42_100) (by rw [(by decide : nar .boolean (1 : Int32) = (1 : Int32))]; exact hr)) (by decide) (by decide) ?_
    show Q_cok_2 Z rr ab1 kc nw c1 c2 c3 c4 h0 n0 _ T14.heap _
    rw [eq14]
    exact ⟨rfl, N14, rfl⟩
  refine og s₁ m 23 #[vR rr, vR ab1, vI nw, vI 2, vU, vU, vU] [(.int 1)] (fun tgt kgo => ?_) ?_
  · refine XS.icmpYes X0.here hx rfl (pc0 := 2) (pc' := 22) rfl (hb hby d42_2) rfl (flt cc1).2.1 (by decide) (by decide) ?_
    refine XS.iconst X0.here hx rfl (hb hby d42_22) ?_
    exact kgo
  refine own_leave X0 hlk (v := some (.int 1)) (fun h => by rw [Bd.returns] at h; cases h) (fun fs hr => retN X0 hx (t := .boolean) Bd.returns (by simp) (hb hby d42_23) (by rw [(by decide : nar .boolean (1 : Int32) = (1 : Int32))]; exact hr)) (by decide) (by decide) ?_
  show Q_cok_2 Z rr ab1 kc nw c1 c2 c3 c4 h0 n0 _ s₁.heap _
  rw [e0]
  exact ⟨rfl, N0, rfl⟩
theorem ef_cok_3 (m : MethodId) (x0 : Addr) (x1 : Addr) (x2 : Int32) : entryFrame m #[(.ref x0), (.ref x1), (.int x2), (.int 3)] 7 = mkF m 0 #[vR x0, vR x1, vI x2, vI 3, vU, vU, vU] [] := by
  first | (simp [entryFrame, mkF, argsToLocals, Value.category]; done) | rfl
def Q_cok_3 (Z : State) (rr : Addr) (ab1 : Addr) (kc : ClassId) (nw : Int32) (c1 : Int32) (c2 : Int32) (c3 : Int32) (c4 : Int32) (h0 : Heap) (n0 : Nat) (v : Option Value) (h : Heap) (L : List Loc) : Prop := v = some (.int 1) ∧ Fr n0 L ∧ h = h0
set_option maxRecDepth 65536 in
set_option maxHeartbeats 40000000 in
theorem rm_cok_3 (l : Launch) (Z : State) (a0 : Array Value) (hw : ∀ d ∈ tables_1, d.before a0 Z = true) (ws : List Jvm.Cond) (wG1 : Int32) (wG3 : Value) (wG5 : Addr) (wK5 : ClassId) (cx : OwnCx Z a0 wG1 wG3 wG5 wK5) (hEL : EW Z a0 consts_1) (h0 : Heap) (n0 : Nat) (X00 : Old Z n0 h0) (rr : Addr) (ab1 : Addr) (kc : ClassId) (nw : Int32) (c1 : Int32) (c2 : Int32) (c3 : Int32) (c4 : Int32) (f0 : Arv Z h0 ab1 kc .char (4 : Int32) [(.int c1), (.int c2), (.int c3), (.int c4)] (.int 0)) (hN : OwnN nw) (hS : OwnSegs Z h0 rr (own_segs (oT nw c1 c2 c3 c4))) :
    MetFree l mN43 (head1 (Jvm.Cond.code mN43 method_7_code 7 (some .boolean) :: ws) (oR 4 0 0 53)) (fun a U => a = #[(.ref rr), (.ref ab1), (.int nw), (.int 3)] ∧ Z.Warmed39 U.vm ∧ U.heap = h0) (fun _ _ _ _ _ => True) (fun _ U o U' => ∃ v L, o = .returned v ∧ Q_cok_3 Z rr ab1 kc nw c1 c2 c3 c4 h0 n0 v U'.heap L ∧ FrameEnd U o U' L (oR 4 0 0 53).cells (oR 4 0 0 53).slots) := by
  refine MetFree.of_bodySF (plainFor_of_name pn_43637772) hisR ?_
  intro p e s m args below meth c s₁ Bd hml0 hP hK
  obtain ⟨rfl, hZ, hh⟩ := hP
  obtain ⟨wO2, wP5, wO4, wrG3, hstr, wO5, wV5⟩ := id cx
  have hx := Bd.exec
  have hby := Bd.bytes
  have hlk := Bd.notSynchronized
  have hml : c.maxLocals = 7 := hml0
  have hown : s.vm.findClass "com/example/kindling/kindling/web/PathTemplateSegmentsPinLaw" = some m.cls := findClass_of_methodNamed Bd.named
  have hnm := (name_of_methodNamed Bd.named Bd.method).1
  have X0 : Stand p l e (oR 4 0 0 53) s m #[(.ref rr), (.ref ab1), (.int nw), (.int 3)] below meth c s₁ [] 0 0 := Stand.of_body Bd
  have e0 : s₁.heap = h0 := by rw [← hh, Bd.state]; rfl
  have N0 := Fr.nil n0
  have Z0 : n0 ≤ h0.size := X00.1 ▸ X00.2.1
  have K0 : Keep h0 h0 ([] : List Addr) := Keep.refl _ _
  show OwnGoes p e below _ s₁ (entryFrame m _ _)
  refine og s₁ m 0 #[vR rr, vR ab1, vI nw, vI 3, vU, vU, vU] [] (fun tgt kgo => castTop (ef_cok_3 m rr ab1 nw) kgo) ?_
  obtain ⟨edx, kex, nEx, esx, xE1, xG1, xG2, xA1, hl4, hall⟩ := id hS
  refine og s₁ m 2 #[vR rr, vR ab1, vI nw, vI 3, vU, vU, vU] [(.int nw), (.int 3)] (fun tgt kgo => ?_) ?_
  · refine XS.iloadN X0.here hx rfl (hb hby d42_0) rfl ?_
    refine XS.iloadN X0.here hx rfl (hb hby d42_1) rfl ?_
    exact kgo
  by_cases cc1 : (3 : Int32) < nw
  · skip
    refine og s₁ m 10 #[vR rr, vR ab1, vI nw, vI 3, vU, vU, vU] [(.int 47), (.int c4)] (fun tgt kgo => ?_) ?_
    · refine XS.icmpNo X0.here hx rfl (hb hby d42_2) rfl (tlt cc1).2.1 ?_
      refine XS.aloadN X0.here hx rfl (hb hby d42_5) rfl rfl ?_
      refine XS.iloadN X0.here hx rfl (hb hby d42_6) rfl ?_
      show OwnG p e below s₁ m 7 #[vR rr, vR ab1, vI nw, vI 3, vU, vU, vU] [(.int 3), (.ref ab1)] tgt
      obtain ⟨cl2, Ar2, q2, S2, M2, H2, G2⟩ := f0
      refine X0.caload hx (j := (3 : Int32)) (v := (.int c4)) (by rw [e0]; exact Ar2.1) (State.isArrayOf_alike hZ.alike Ar2.2.1) Ar2.2.2 (inb_of S2 ⟨by decide, by decide⟩) (Has.at H2 (inb_of S2 ⟨by decide, by decide⟩) rfl) (g := (mkF m 7 #[vR rr, vR ab1, vI nw, vI 3, vU, vU, vU] [(.int 3), (.ref ab1)])) rfl rfl (hb hby d42_7) _ ?_
      refine XS.bipush X0.here hx rfl (hb hby d42_8) ?_
      exact kgo
    by_cases cc3 : c4 = (47 : Int32)
    · skip
      refine og s₁ m 23 #[vR rr, vR ab1, vI nw, vI 3, vU, vU, vU] [(.int 1)] (fun tgt kgo => ?_) ?_
      · refine XS.icmpYes X0.here hx rfl (pc0 := 10) (pc' := 22) rfl (hb hby d42_10) rfl (teq cc3).1 (by decide) (by decide) ?_
        refine XS.iconst X0.here hx rfl (hb hby d42_22) ?_
        exact kgo
      refine own_leave X0 hlk (v := some (.int 1)) (fun h => by rw [Bd.returns] at h; cases h) (fun fs hr => retN X0 hx (t := .boolean) Bd.returns (by simp) (hb hby d42_23) (by rw [(by decide : nar .boolean (1 : Int32) = (1 : Int32))]; exact hr)) (by decide) (by decide) ?_
      show Q_cok_3 Z rr ab1 kc nw c1 c2 c3 c4 h0 n0 _ s₁.heap _
      rw [e0]
      exact ⟨rfl, N0, rfl⟩
    refine og s₁ m 16 #[vR rr, vR ab1, vI nw, vI 3, vU, vU, vU] [(.int 3), (.int nw), (.ref ab1)] (fun tgt kgo => ?_) ?_
    · refine XS.icmpNo X0.here hx rfl (hb hby d42_10) rfl (feq cc3).1 ?_
      refine XS.aloadN X0.here hx rfl (hb hby d42_13) rfl rfl ?_
      refine XS.iloadN X0.here hx rfl (hb hby d42_14) rfl ?_
      show OwnG p e below s₁ m 15 #[vR rr, vR ab1, vI nw, vI 3, vU, vU, vU] [(.int nw), (.ref ab1)] tgt
      refine XS.iloadN X0.here hx rfl (hb hby d42_15) rfl ?_
      exact kgo
    obtain ⟨_, _, ⟨T5, L5, k5, n5⟩, -, X5, ⟨Lc5, hQ5, l5, y5, z5⟩, st5⟩ := Jvm.LawKit.callS X0 hx (y := mN40) hown (mvT hZ (own_w hw 109 rfl)) (mvT hZ (own_w hw 110 rfl)) (mvT hZ (own_w hw 4 rfl)) (mvT hZ (own_w hw 111 rfl)) (by decide) (backOf (W := 0) (rm_cnt_3 l Z a0 hw [] wG1 wG3 wG5 wK5 cx hEL h0 n0 X00 ab1 kc nw c1 c2 c3 c4 f0) hZ (own_w hw 111 rfl) (own_w hw 4 rfl) (by decide) (by decide)) (g := (mkF m 16 #[vR rr, vR ab1, vI nw, vI 3, vU, vU, vU] [(.int 3), (.int nw), (.ref ab1)])) rfl (by rw [hml]; rfl) (argsL := [(.ref ab1), (.int nw), (.int 3)]) (rest := []) (lenOf pd_92517391 rfl) rfl (Nat.le_of_eq rfl) (hb hby d42_16) (fun _ _ => ⟨rfl, e0, (by decide : 0 + 0 ≤ _), (by decide : 0 + 0 ≤ _)⟩)
    dsimp only [Pt.U, Pt.locs, Pt.cells, Pt.slots] at X5 l5 y5 z5 st5 hQ5
    subst l5 y5 z5
    obtain ⟨rfl, Nq5, eq5⟩ := hQ5
    refine og T5 m 19 #[vR rr, vR ab1, vI nw, vI 3, vU, vU, vU] [(.int (oc nw (2 : Int32) c3 (oc nw (1 : Int32) c2 (oc nw (0 : Int32) c1 (0 : Int32)))))] st5 ?_
    have N5 := Fr.app N0 Nq5
    by_cases cc6 : (oc nw (2 : Int32) c3 (oc nw (1 : Int32) c2 (oc nw (0 : Int32) c1 (0 : Int32)))) = (0 : Int32)
    · skip
      refine og T5 m 23 #[vR rr, vR ab1, vI nw, vI 3, vU, vU, vU] [(.int 1)] (fun tgt kgo => ?_) ?_
      · refine XS.ifNo X5.here hx rfl (hb hby d42_19) rfl ((if0 _ _).trans (teq cc6).2) ?_
        refine XS.iconst X5.here hx rfl (hb hby d42_22) ?_
        exact kgo
      refine own_leave X5 hlk (v := some (.int 1)) (fun h => by rw [Bd.returns] at h; cases h) (fun fs hr => retN X5 hx (t := .boolean) Bd.returns (by simp) (hb hby d42_23) (by rw [(by decide : nar .boolean (1 : Int32) = (1 : Int32))]; exact hr)) (by decide) (by decide) ?_
      show Q_cok_3 Z rr ab1 kc nw c1 c2 c3 c4 h0 n0 _ T5.heap _
      rw [eq5]
      exact ⟨rfl, N5, rfl⟩
    refine og T5 m 24 #[vR rr, vR ab1, vI nw, vI 3, vU, vU, vU] [] (fun tgt kgo => ?_) ?_
    · refine XS.ifYes X5.here hx rfl (pc0 := 19) (pc' := 24) rfl (hb hby d42_19) rfl ((if0 _ _).trans (feq cc6).2) (by decide) (by decide) ?_
      exact kgo
    obtain ⟨kq, jq, hk1, hj1, hk2, hj2, hj3⟩ := own_p3 (c1 := c1) (c2 := c2) (c3 := c3) (c4 := c4) hN cc1 cc3 cc6
    obtain ⟨⟨xx, tx, kx, Nx, vx, hxx, xX1, xV1, xC1, xT1, hox⟩, hb1, hb2⟩ := hall kq hk2
    refine og T5 m 27 #[vR rr, vR ab1, vI nw, vI 3, vU, vU, vU] [(.int 3), (.int nw), (.ref ab1)] (fun tgt kgo => ?_) ?_
    · refine XS.aloadN X5.here hx rfl (hb hby d42_24) rfl rfl ?_
      refine XS.iloadN X5.here hx rfl (hb hby d42_25) rfl ?_
      refine XS.iloadN X5.here hx rfl (hb hby d42_26) rfl ?_
      exact kgo
    obtain ⟨_, _, ⟨T8, L8, k8, n8⟩, -, X8, ⟨Lc8, hQ8, l8, y8, z8⟩, st8⟩ := Jvm.LawKit.callS X5 hx (y := mN40) hown (mvT hZ (own_w hw 109 rfl)) (mvT hZ (own_w hw 110 rfl)) (mvT hZ (own_w hw 4 rfl)) (mvT hZ (own_w hw 111 rfl)) (by decide) (backOf (W := 0) (rm_cnt_3 l Z a0 hw [] wG1 wG3 wG5 wK5 cx hEL h0 n0 X00 ab1 kc nw c1 c2 c3 c4 f0) hZ (own_w hw 111 rfl) (own_w hw 4 rfl) (by decide) (by decide)) (g := (mkF m 27 #[vR rr, vR ab1, vI nw, vI 3, vU, vU, vU] [(.int 3), (.int nw), (.ref ab1)])) rfl (by rw [hml]; rfl) (argsL := [(.ref ab1), (.int nw), (.int 3)]) (rest := []) (lenOf pd_92517391 rfl) rfl (Nat.le_of_eq rfl) (hb hby d42_27) (fun _ _ => ⟨rfl, eq5, (by decide : 0 + 0 ≤ _), (by decide : 0 + 0 ≤ _)⟩)
    dsimp only [Pt.U, Pt.locs, Pt.cells, Pt.slots] at X8 l8 y8 z8 st8 hQ8
    subst l8 y8 z8
    obtain ⟨rfl, Nq8, eq8⟩ := hQ8
    refine og T8 m 30 #[vR rr, vR ab1, vI nw, vI 3, vU, vU, vU] [(.int (oc nw (2 : Int32) c3 (oc nw (1 : Int32) c2 (oc nw (0 : Int32) c1 (0 : Int32)))))] st8 ?_
    have N8 := Fr.app N5 Nq8
    refine og T8 m 32 #[vR rr, vR ab1, vI nw, vI 3, vU, vU, vU] [(.int ((oc nw (2 : Int32) c3 (oc nw (1 : Int32) c2 (oc nw (0 : Int32) c1 (0 : Int32)))) - (1 : Int32)))] (fun tgt kgo => ?_) ?_
    · refine XS.iconst X8.here hx rfl (hb hby d42_30) ?_
      refine XS.isub X8.here hx rfl (hb hby d42_31) rfl ?_
      exact kgo
    refine og T8 m 32 #[vR rr, vR ab1, vI nw, vI 3, vU, vU, vU] [(.int (Int32.ofNat kq))] (fun tgt kgo => castTop (by rw [hk1]) kgo) ?_
    refine og T8 m 38 #[vR rr, vR ab1, vI nw, vI 3, vI (Int32.ofNat kq), vU, vU] [(.int 3), (.int nw), (.ref ab1), (.int 3)] (fun tgt kgo => ?_) ?_
    · refine XS.istore X8.here hx rfl (hb hby d42_32) rfl (l' := #[vR rr, vR ab1, vI nw, vI 3, vI (Int32.ofNat kq), vU, vU]) rfl ?_
      refine XS.iloadN X8.here hx rfl (hb hby d42_34) rfl ?_
      refine XS.aloadN X8.here hx rfl (hb hby d42_35) rfl rfl ?_
      show OwnG p e below T8 m 36 #[vR rr, vR ab1, vI nw, vI 3, vI (Int32.ofNat kq), vU, vU] [(.ref ab1), (.int 3)] tgt
      refine XS.iloadN X8.here hx rfl (hb hby d42_36) rfl ?_
      refine XS.iloadN X8.here hx rfl (hb hby d42_37) rfl ?_
      exact kgo
    obtain ⟨_, _, ⟨T9, L9, k9, n9⟩, -, X9, ⟨Lc9, hQ9, l9, y9, z9⟩, st9⟩ := Jvm.LawKit.callS X8 hx (y := mN41) hown (mvT hZ (own_w hw 200 rfl)) (mvT hZ (own_w hw 201 rfl)) (mvT hZ (own_w hw 4 rfl)) (mvT hZ (own_w hw 202 rfl)) (by decide) (backOf (W := 1) (rm_last_3 l Z a0 hw [] wG1 wG3 wG5 wK5 cx hEL h0 n0 X00 ab1 kc nw c1 c2 c3 c4 f0) hZ (own_w hw 202 rfl) (own_w hw 4 rfl) (by decide) (by decide)) (g := (mkF m 38 #[vR rr, vR ab1, vI nw, vI 3, vI (Int32.ofNat kq), vU, vU] [(.int 3), (.int nw), (.ref ab1), (.int 3)])) rfl (by rw [hml]; rfl) (argsL := [(.ref ab1), (.int nw), (.int 3)]) (rest := [(.int 3)]) (lenOf pd_92517391 rfl) rfl (Nat.le_of_eq rfl) (hb hby d42_38) (fun _ _ => ⟨rfl, eq8, (by decide : 0 + 0 ≤ _), (by decide : 0 + 0 ≤ _)⟩)
    dsimp only [Pt.U, Pt.locs, Pt.cells, Pt.slots] at X9 l9 y9 z9 st9 hQ9
    subst l9 y9 z9
    obtain ⟨r_9, rfl, Nq9, eq9, pq9_0⟩ := hQ9
    refine og T9 m 41 #[vR rr, vR ab1, vI nw, vI 3, vI (Int32.ofNat kq), vU, vU] [(.int r_9), (.int 3)] st9 ?_
    have N9 := Fr.app N8 Nq9
    refine og T9 m 41 #[vR rr, vR ab1, vI nw, vI 3, vI (Int32.ofNat kq), vU, vU] [(.int (if (2 : Int32) < nw ∧ c3 = 47 then (2 : Int32) else (if (1 : Int32) < nw ∧ c2 = 47 then (1 : Int32) else (if (0 : Int32) < nw ∧ c1 = 47 then (0 : Int32) else (-1 : Int32))))), (.int 3)] (fun tgt kgo => castTop (by rw [pq9_0]) kgo) ?_
    refine og T9 m 44 #[vR rr, vR ab1, vI nw, vI 3, vI (Int32.ofNat kq), vU, vU] [(.int (((3 : Int32) - (if (2 : Int32) < nw ∧ c3 = 47 then (2 : Int32) else (if (1 : Int32) < nw ∧ c2 = 47 then (1 : Int32) else (if (0 : Int32) < nw ∧ c1 = 47 then (0 : Int32) else (-1 : Int32))))) - (1 : Int32)))] (fun tgt kgo => ?_) ?_
    · refine XS.isub X9.here hx rfl (hb hby d42_41) rfl ?_
      refine XS.iconst X9.here hx rfl (hb hby d42_42) ?_
      refine XS.isub X9.here hx rfl (hb hby d42_43) rfl ?_
      exact kgo
    refine og T9 m 44 #[vR rr, vR ab1, vI nw, vI 3, vI (Int32.ofNat kq), vU, vU] [(.int (Int32.ofNat jq))] (fun tgt kgo => castTop (by rw [hj1]) kgo) ?_
    refine og T9 m 49 #[vR rr, vR ab1, vI nw, vI 3, vI (Int32.ofNat kq), vI (Int32.ofNat jq), vU] [(.ref rr), (.int (Int32.ofNat kq))] (fun tgt kgo => ?_) ?_
    · refine XS.istore X9.here hx rfl (hb hby d42_44) rfl (l' := #[vR rr, vR ab1, vI nw, vI 3, vI (Int32.ofNat kq), vI (Int32.ofNat jq), vU]) rfl ?_
      refine XS.iload X9.here hx rfl (hb hby d42_46) rfl ?_
      refine XS.aloadN X9.here hx rfl (hb hby d42_48) rfl rfl ?_
      exact kgo
    obtain ⟨cq10, kq10, q10a, q10b, q10c⟩ := isOf (s := s) hZ eq9 xE1
    obtain ⟨_, _, ⟨T10, L10, k10, n10⟩, -, X10, ⟨Lc10, hQ10, l10, y10, z10⟩, st10⟩ := X9.interfaceBack hx (xi := mN44) (y := mN34) hown (mvT hZ (own_w hw 98 rfl)) (mvT hZ (own_w hw 99 rfl)) (mvT hZ (own_w hw 100 rfl)) (mvT hZ (own_w hw 101 rfl)) (mvT hZ (own_w hw 102 rfl)) (mvT hZ (own_w hw 103 rfl)) (mvT hZ (own_w hw 104 rfl)) (mvT hZ (own_w hw 105 rfl)) (by decide) (backOf (W := 1) (rm_size l Z a0 hw [] wG1 wG3 wG5 wK5 cx hEL h0 n0 X00 rr (Int32.ofNat (own_segs (oT nw c1 c2 c3 c4)).length) xE1 xG1) hZ (own_w hw 106 rfl) (own_w hw 36 rfl) (by decide) (by decide)) q10a q10b q10c (g := (mkF m 49 #[vR rr, vR ab1, vI nw, vI 3, vI (Int32.ofNat kq), vI (Int32.ofNat jq), vU] [(.ref rr), (.int (Int32.ofNat kq))])) rfl (by rw [hml]; rfl) (Steps.refl _) (argsL := []) (rest := [(.int (Int32.ofNat kq))]) (lenOf pd_86913941 rfl) rfl (Nat.le_of_eq rfl) (hb hby d42_49) (fun _ _ => ⟨rfl, eq9, (by decide : 0 + 0 ≤ _), (by decide : 0 + 0 ≤ _)⟩)
    dsimp only [Pt.U, Pt.locs, Pt.cells, Pt.slots] at X10 l10 y10 z10 st10 hQ10
    subst l10 y10 z10
    obtain ⟨rfl, Nq10, eq10⟩ := hQ10
    refine OwnGoes.tr (T' := T10) (g' := (mkF m 54 #[vR rr, vR ab1, vI nw, vI 3, vI (Int32.ofNat kq), vI (Int32.ofNat jq), vU] [(.int (Int32.ofNat (own_segs (oT nw c1 c2 c3 c4)).length)), (.int (Int32.ofNat kq))])) st10 ?_
    have N10 := Fr.app N9 Nq10
    refine og T10 m 62 #[vR rr, vR ab1, vI nw, vI 3, vI (Int32.ofNat kq), vI (Int32.ofNat jq), vU] [(.int (Int32.ofNat kq)), (.ref rr)] (fun tgt kgo => ?_) ?_
    · refine XS.icmpYes X10.here hx rfl (pc0 := 54) (pc' := 59) rfl (hb hby d42_54) rfl (tlt ((own_ltN (by omega) (by omega)).mpr hk2)).1 (by decide) (by decide) ?_
      refine XS.aloadN X10.here hx rfl (hb hby d42_59) rfl rfl ?_
      refine XS.iload X10.here hx rfl (hb hby d42_60) rfl ?_
      exact kgo
    obtain ⟨cq11, kq11, q11a, q11b, q11c⟩ := isOf (s := s) hZ eq10 xE1
    obtain ⟨_, _, ⟨T11, L11, k11, n11⟩, -, X11, ⟨Lc11, hQ11, l11, y11, z11⟩, st11⟩ := X10.interfaceBack hx (xi := mN45) (y := mN36) hown (mvT hZ (own_w hw 203 rfl)) (mvT hZ (own_w hw 204 rfl)) (mvT hZ (own_w hw 205 rfl)) (mvT hZ (own_w hw 206 rfl)) (mvT hZ (own_w hw 207 rfl)) (mvT hZ (own_w hw 208 rfl)) (mvT hZ (own_w hw 209 rfl)) (mvT hZ (own_w hw 105 rfl)) (by decide) (backOf (W := 0) (rm_get l Z a0 hw [] wG1 wG3 wG5 wK5 cx hEL h0 n0 X00 rr edx kex nEx esx kq xx (Int32.ofNat (own_segs (oT nw c1 c2 c3 c4)).length) xE1 xG2 xA1 xG1 hb1 hb2 hxx (by omega) ((own_ltN (by omega) (by omega)).mpr hk2)) hZ (own_w hw 210 rfl) (own_w hw 36 rfl) (by decide) (by decide)) q11a q11b q11c (g := (mkF m 62 #[vR rr, vR ab1, vI nw, vI 3, vI (Int32.ofNat kq), vI (Int32.ofNat jq), vU] [(.int (Int32.ofNat kq)), (.ref rr)])) rfl (by rw [hml]; rfl) (Steps.refl _) (argsL := [(.int (Int32.ofNat kq))]) (rest := []) (lenOf pd_40348018 rfl) rfl (Nat.le_of_eq rfl) (hb hby d42_62) (fun _ _ => ⟨rfl, eq10, (by decide : 0 + 0 ≤ _), (by decide : 0 + 0 ≤ _)⟩)
    dsimp only [Pt.U, Pt.locs, Pt.cells, Pt.slots] at X11 l11 y11 z11 st11 hQ11
    subst l11 y11 z11
    obtain ⟨rfl, Nq11, eq11⟩ := hQ11
    refine OwnGoes.tr (T' := T11) (g' := (mkF m 67 #[vR rr, vR ab1, vI nw, vI 3, vI (Int32.ofNat kq), vI (Int32.ofNat jq), vU] [(.ref xx)])) st11 ?_
    have N11 := Fr.app N10 Nq11
    obtain ⟨T12, X12, e12, st12⟩ := castY X11 hx hZ hown (own_w hw 9 rfl) eq11 (Ins.self xX1) (g := (mkF m 67 #[vR rr, vR ab1, vI nw, vI 3, vI (Int32.ofNat kq), vI (Int32.ofNat jq), vU] [(.ref xx)])) rfl rfl (hb hby d42_67)
    refine og T12 m 70 #[vR rr, vR ab1, vI nw, vI 3, vI (Int32.ofNat kq), vI (Int32.ofNat jq), vU] [(.ref xx)] st12 ?_
    refine og T12 m 76 #[vR rr, vR ab1, vI nw, vI 3, vI (Int32.ofNat kq), vI (Int32.ofNat jq), vR xx] [(.ref xx), (.int (Int32.ofNat jq))] (fun tgt kgo => ?_) ?_
    · refine XS.astore X12.here hx rfl (hb hby d42_70) rfl rfl (l' := #[vR rr, vR ab1, vI nw, vI 3, vI (Int32.ofNat kq), vI (Int32.ofNat jq), vR xx]) rfl ?_
      refine XS.iload X12.here hx rfl (hb hby d42_72) rfl ?_
      refine XS.aload X12.here hx rfl (hb hby d42_74) rfl rfl ?_
      exact kgo
    obtain ⟨cq13, kq13, q13a, q13b, q13c⟩ := isOf (s := s) hZ e12 xX1
    obtain ⟨_, _, ⟨T13, L13, k13, n13⟩, -, X13, ⟨Lc13, hQ13, l13, y13, z13⟩, st13⟩ := X12.virtualBack hx (y := mN3) (z := mN3) hown (mvT hZ (own_w hw 223 rfl)) (mvT hZ (own_w hw 75 rfl)) (notFace_of_selects (args := #[]) (mvT hZ (own_w hw 77 rfl))) (mvT hZ (own_w hw 77 rfl)) (mvT hZ (own_w hw 76 rfl)) (by decide) (backOf (W := 1) (rm_len l Z a0 hw [] wG1 wG3 wG5 wK5 cx hEL h0 n0 X00 xx tx kx Nx vx xX1 xV1 xC1 xT1) hZ (own_w hw 78 rfl) (own_w hw 11 rfl) (by decide) (by decide)) q13a q13c (g := (mkF m 76 #[vR rr, vR ab1, vI nw, vI 3, vI (Int32.ofNat kq), vI (Int32.ofNat jq), vR xx] [(.ref xx), (.int (Int32.ofNat jq))])) rfl (by rw [hml]; rfl) (Steps.refl _) (argsL := []) (rest := [(.int (Int32.ofNat jq))]) (lenOf pd_86913941 rfl) rfl (Nat.le_of_eq rfl) (hb hby d42_76) (fun _ _ => ⟨rfl, e12, (by decide : 0 + 0 ≤ _), (by decide : 0 + 0 ≤ _)⟩)
    dsimp only [Pt.U, Pt.locs, Pt.cells, Pt.slots] at X13 l13 y13 z13 st13 hQ13
    subst l13 y13 z13
    obtain ⟨rfl, Nq13, eq13⟩ := hQ13
    refine OwnGoes.tr (T' := T13) (g' := (mkF m 79 #[vR rr, vR ab1, vI nw, vI 3, vI (Int32.ofNat kq), vI (Int32.ofNat jq), vR xx] [(.int Nx), (.int (Int32.ofNat jq))])) st13 ?_
    have N13 := Fr.app N11 Nq13
    refine og T13 m 86 #[vR rr, vR ab1, vI nw, vI 3, vI (Int32.ofNat kq), vI (Int32.ofNat jq), vR xx] [(.int (Int32.ofNat jq)), (.ref xx)] (fun tgt kgo => ?_) ?_
    · refine XS.icmpNo X13.here hx rfl (hb hby d42_79) rfl (tlt ((own_na hox (by have := hox.2.2; omega)).1.mpr hj2)).2.1 ?_
      refine XS.aload X13.here hx rfl (hb hby d42_82) rfl rfl ?_
      refine XS.iload X13.here hx rfl (hb hby d42_84) rfl ?_
      exact kgo
    obtain ⟨cq14, kq14, q14a, q14b, q14c⟩ := isOf (s := s) hZ eq13 xX1
    obtain ⟨_, _, ⟨T14, L14, k14, n14⟩, -, X14, ⟨Lc14, hQ14, l14, y14, z14⟩, st14⟩ := X13.virtualBack hx (y := mN9) (z := mN9) hown (mvT hZ (own_w hw 224 rfl)) (mvT hZ (own_w hw 225 rfl)) (notFace_of_selects (args := #[]) (mvT hZ (own_w hw 227 rfl))) (mvT hZ (own_w hw 227 rfl)) (mvT hZ (own_w hw 226 rfl)) (by decide) (backOf (W := 0) (rm_chL l Z a0 hw [] wG1 wG3 wG5 wK5 cx hEL h0 n0 X00 xx tx kx Nx vx (Int32.ofNat jq) (((own_segs (oT nw c1 c2 c3 c4)).getD kq []).getD jq 0) xX1 xV1 xC1 xT1 (own_chL hox hj2)) hZ (own_w hw 228 rfl) (own_w hw 11 rfl) (by decide) (by decide)) q14a q14c (g := (mkF m 86 #[vR rr, vR ab1, vI nw, vI 3, vI (Int32.ofNat kq), vI (Int32.ofNat jq), vR xx] [(.int (Int32.ofNat jq)), (.ref xx)])) rfl (by rw [hml]; rfl) (Steps.refl _) (argsL := [(.int (Int32.ofNat jq))]) (rest := []) (lenOf pd_17647939 rfl) rfl (Nat.le_of_eq rfl) (hb hby d42_86) (fun _ _ => ⟨rfl, eq13, (by decide : 0 + 0 ≤ _), (by decide : 0 + 0 ≤ _)⟩)
    dsimp only [Pt.U, Pt.locs, Pt.cells, Pt.slots] at X14 l14 y14 z14 st14 hQ14
    subst l14 y14 z14
    obtain ⟨rfl, Nq14, eq14⟩ := hQ14
    refine OwnGoes.tr (T' := T14) (g' := (mkF m 89 #[vR rr, vR ab1, vI nw, vI 3, vI (Int32.ofNat kq), vI (Int32.ofNat jq), vR xx] [(.int (((own_segs (oT nw c1 c2 c3 c4)).getD kq []).getD jq 0))])) st14 ?_
    have N14 := Fr.app N13 Nq14
    refine og T14 m 100 #[vR rr, vR ab1, vI nw, vI 3, vI (Int32.ofNat kq), vI (Int32.ofNat jq), vR xx] [(.int 1)] (fun tgt kgo => ?_) ?_
    · refine XS.aloadN X14.here hx rfl (hb hby d42_89) rfl rfl ?_
      refine XS.iloadN X14.here hx rfl (hb hby d42_90) rfl ?_
      show OwnG p e below T14 m 91 #[vR rr, vR ab1, vI nw, vI 3, vI (Int32.ofNat kq), vI (Int32.ofNat jq), vR xx] [(.int 3), (.ref ab1), (.int (((own_segs (oT nw c1 c2 c3 c4)).getD kq []).getD jq 0))] tgt
      obtain ⟨cl15, Ar15, q15, S15, M15, H15, G15⟩ := f0
      refine X14.caload hx (j := (3 : Int32)) (v := (.int c4)) (by rw [eq14]; exact Ar15.1) (State.isArrayOf_alike hZ.alike Ar15.2.1) Ar15.2.2 (inb_of S15 ⟨by decide, by decide⟩) (Has.at H15 (inb_of S15 ⟨by decide, by decide⟩) rfl) (g := (mkF m 91 #[vR rr, vR ab1, vI nw, vI 3, vI (Int32.ofNat kq), vI (Int32.ofNat jq), vR xx] [(.int 3), (.ref ab1), (.int (((own_segs (oT nw c1 c2 c3 c4)).getD kq []).getD jq 0))])) rfl rfl (hb hby d42_91) _ ?_
      show OwnG p e below T14 m 92 #[vR rr, vR ab1, vI nw, vI 3, vI (Int32.ofNat kq), vI (Int32.ofNat jq), vR xx] [(.int c4), (.int (((own_segs (oT nw c1 c2 c3 c4)).getD kq []).getD jq 0))] tgt
      refine XS.icmpNo X14.here hx rfl (hb hby d42_92) rfl (teq hj3).2 ?_
      refine XS.iconst X14.here hx rfl (hb hby d42_95) ?_
      refine XS.goto X14.here hx rfl (pc0 := 96) (pc' := 100) rfl (hb hby d42_96) (by decide) (by decide) ?_
      exact kgo
    refine own_leave X14 hlk (v := some (.int 1)) (fun h => by rw [Bd.returns] at h; cases h) (fun fs hr => retN X14 hx (t := .boolean) Bd.returns (by simp) (hb hby d42_100) (by rw [(by decide : nar .boolean (1 : Int32) = (1 : Int32))]; exact hr)) (by decide) (by decide) ?_
    show Q_cok_3 Z rr ab1 kc nw c1 c2 c3 c4 h0 n0 _ T14.heap _
    rw [eq14]
    exact ⟨rfl, N14, rfl⟩
  refine og s₁ m 23 #[vR rr, vR ab1, vI nw, vI 3, vU, vU, vU] [(.int 1)] (fun tgt kgo => ?_) ?_
  · refine XS.icmpYes X0.here hx rfl (pc0 := 2) (pc' := 22) rfl (hb hby d42_2) rfl (flt cc1).2.1 (by decide) (by decide) ?_
    refine XS.iconst X0.here hx rfl (hb hby d42_22) ?_
    exact kgo
  refine own_leave X0 hlk (v := some (.int 1)) (fun h => by rw [Bd.returns] at h; cases h) (fun fs hr => retN X0 hx (t := .boolean) Bd.returns (by simp) (hb hby d42_23) (by rw [(by decide : nar .boolean (1 : Int32) = (1 : Int32))]; exact hr)) (by decide) (by decide) ?_
  show Q_cok_3 Z rr ab1 kc nw c1 c2 c3 c4 h0 n0 _ s₁.heap _
  rw [e0]
  exact ⟨rfl, N0, rfl⟩
theorem ef_lok (m : MethodId) (x0 : Addr) (x1 : Addr) (x2 : Int32) (x3 : Int32) : entryFrame m #[(.ref x0), (.ref x1), (.int x2), (.int x3)] 4 = mkF m 0 #[vR x0, vR x1, vI x2, vI x3] [] := by
  first | (simp [entryFrame, mkF, argsToLocals, Value.category]; done) | rfl
def Q_lok (Z : State) (rr : Addr) (jw : Nat) (ab1 : Addr) (kc : ClassId) (nw : Int32) (c1 : Int32) (c2 : Int32) (c3 : Int32) (c4 : Int32) (h0 : Heap) (n0 : Nat) (v : Option Value) (h : Heap) (L : List Loc) : Prop := v = some (.int 1) ∧ Fr n0 L ∧ h = h0
theorem d43_0 : decode method_8_code 0 = .ok (.iload_n 3, 1) := by decide +kernel
theorem d43_1 : decode method_8_code 1 = .ok (.aload_n 0, 1) := by decide +kernel
theorem d43_2 : decode method_8_code 2 = .ok (.invokeinterface 20 1, 5) := by decide +kernel
theorem d43_7 : decode method_8_code 7 = .ok (.if_icmp .lt 5, 3) := by decide +kernel
theorem d43_12 : decode method_8_code 12 = .ok (.aload_n 0, 1) := by decide +kernel
theorem d43_13 : decode method_8_code 13 = .ok (.iload_n 3, 1) := by decide +kernel
theorem d43_14 : decode method_8_code 14 = .ok (.invokeinterface 26 2, 5) := by decide +kernel
theorem d43_19 : decode method_8_code 19 = .ok (.checkcast 30, 3) := by decide +kernel
theorem d43_22 : decode method_8_code 22 = .ok (.invokevirtual 32, 3) := by decide +kernel
theorem d43_25 : decode method_8_code 25 = .ok (.aload_n 1, 1) := by decide +kernel
theorem d43_26 : decode method_8_code 26 = .ok (.iload_n 2, 1) := by decide +kernel
theorem d43_27 : decode method_8_code 27 = .ok (.iconst 0, 1) := by decide +kernel
theorem d43_28 : decode method_8_code 28 = .ok (.iload_n 3, 1) := by decide +kernel
theorem d43_29 : decode method_8_code 29 = .ok (.invokestatic 39, 3) := by decide +kernel
theorem pd_16748058 : parseMethodDescriptor "([CIII)I" = some ⟨[(.array .char), .int, .int, .int], some .int⟩ := by decide +kernel
theorem d43_32 : decode method_8_code 32 = .ok (.aload_n 1, 1) := by decide +kernel
theorem d43_33 : decode method_8_code 33 = .ok (.iload_n 2, 1) := by decide +kernel
theorem d43_34 : decode method_8_code 34 = .ok (.iconst 1, 1) := by decide +kernel
theorem d43_35 : decode method_8_code 35 = .ok (.iload_n 3, 1) := by decide +kernel
theorem d43_36 : decode method_8_code 36 = .ok (.invokestatic 39, 3) := by decide +kernel
theorem d43_39 : decode method_8_code 39 = .ok (.iadd, 1) := by decide +kernel
theorem d43_40 : decode method_8_code 40 = .ok (.aload_n 1, 1) := by decide +kernel
theorem d43_41 : decode method_8_code 41 = .ok (.iload_n 2, 1) := by decide +kernel
theorem d43_42 : decode method_8_code 42 = .ok (.iconst 2, 1) := by decide +kernel
theorem d43_43 : decode method_8_code 43 = .ok (.iload_n 3, 1) := by decide +kernel
theorem d43_44 : decode method_8_code 44 = .ok (.invokestatic 39, 3) := by decide +kernel
theorem d43_47 : decode method_8_code 47 = .ok (.iadd, 1) := by decide +kernel
theorem d43_48 : decode method_8_code 48 = .ok (.aload_n 1, 1) := by decide +kernel
theorem d43_49 : decode method_8_code 49 = .ok (.iload_n 2, 1) := by decide +kernel
theorem d43_50 : decode method_8_code 50 = .ok (.iconst 3, 1) := by decide +kernel
theorem d43_51 : decode method_8_code 51 = .ok (.iload_n 3, 1) := by decide +kernel
theorem d43_52 : decode method_8_code 52 = .ok (.invokestatic 39, 3) := by decide +kernel
theorem d43_55 : decode method_8_code 55 = .ok (.iadd, 1) := by decide +kernel
theorem d43_56 : decode method_8_code 56 = .ok (.if_icmp .ne 7, 3) := by decide +kernel
theorem d43_59 : decode method_8_code 59 = .ok (.iconst 1, 1) := by decide +kernel
theorem d43_60 : decode method_8_code 60 = .ok (.goto 4, 3) := by decide +kernel
theorem d43_64 : decode method_8_code 64 = .ok (.ireturn, 1) := by decide +kernel
theorem d43_10 : decode method_8_code 10 = .ok (.iconst 1, 1) := by decide +kernel
theorem d43_11 : decode method_8_code 11 = .ok (.ireturn, 1) := by decide +kernel
set_option maxRecDepth 65536 in
set_option maxHeartbeats 40000000 in
theorem rm_lok (l : Launch) (Z : State) (a0 : Array Value) (hw : ∀ d ∈ tables_1, d.before a0 Z = true) (ws : List Jvm.Cond) (wG1 : Int32) (wG3 : Value) (wG5 : Addr) (wK5 : ClassId) (cx : OwnCx Z a0 wG1 wG3 wG5 wK5) (hEL : EW Z a0 consts_1) (h0 : Heap) (n0 : Nat) (X00 : Old Z n0 h0) (rr : Addr) (jw : Nat) (ab1 : Addr) (kc : ClassId) (nw : Int32) (c1 : Int32) (c2 : Int32) (c3 : Int32) (c4 : Int32) (f0 : Arv Z h0 ab1 kc .char (4 : Int32) [(.int c1), (.int c2), (.int c3), (.int c4)] (.int 0)) (hN : OwnN nw) (hS : OwnSegs Z h0 rr (own_segs (oT nw c1 c2 c3 c4))) (hjw : jw ≤ 3) :
    MetFree l mN46 (head1 (Jvm.Cond.code mN46 method_8_code 4 (some .boolean) :: ws) (oR 3 0 0 46)) (fun a U => a = #[(.ref rr), (.ref ab1), (.int nw), (.int (Int32.ofNat jw))] ∧ Z.Warmed39 U.vm ∧ U.heap = h0) (fun _ _ _ _ _ => True) (fun _ U o U' => ∃ v L, o = .returned v ∧ Q_lok Z rr jw ab1 kc nw c1 c2 c3 c4 h0 n0 v U'.heap L ∧ FrameEnd U o U' L (oR 3 0 0 46).cells (oR 3 0 0 46).slots) := by
  refine MetFree.of_bodySF (plainFor_of_name pn_43637772) hisR ?_
  intro p e s m args below meth c s₁ Bd hml0 hP hK
  obtain ⟨rfl, hZ, hh⟩ := hP
  obtain ⟨wO2, wP5, wO4, wrG3, hstr, wO5, wV5⟩ := id cx
  have hx := Bd.exec
  have hby := Bd.bytes
  have hlk := Bd.notSynchronized
  have hml : c.maxLocals = 4 := hml0
  have hown : s.vm.findClass "com/example/kindling/kindling/web/PathTemplateSegmentsPinLaw" = some m.cls := findClass_of_methodNamed Bd.named
  have hnm := (name_of_methodNamed Bd.named Bd.method).1
  have X0 : Stand p l e (oR 3 0 0 46) s m #[(.ref rr), (.ref ab1), (.int nw), (.int (Int32.ofNat jw))] below meth c s₁ [] 0 0 := Stand.of_body Bd
  have e0 : s₁.heap = h0 := by rw [← hh, Bd.state]; rfl
  have N0 := Fr.nil n0
  have Z0 : n0 ≤ h0.size := X00.1 ▸ X00.2.1
  have K0 : Keep h0 h0 ([] : List Addr) := Keep.refl _ _
  show OwnGoes p e below _ s₁ (entryFrame m _ _)
  refine og s₁ m 0 #[vR rr, vR ab1, vI nw, vI (Int32.ofNat jw)] [] (fun tgt kgo => castTop (ef_lok m rr ab1 nw (Int32.ofNat jw)) kgo) ?_
  obtain ⟨edx, kex, nEx, esx, xE1, xG1, xG2, xA1, hl4, hall⟩ := id hS
  refine og s₁ m 2 #[vR rr, vR ab1, vI nw, vI (Int32.ofNat jw)] [(.ref rr), (.int (Int32.ofNat jw))] (fun tgt kgo => ?_) ?_
  · refine XS.iloadN X0.here hx rfl (hb hby d43_0) rfl ?_
    refine XS.aloadN X0.here hx rfl (hb hby d43_1) rfl rfl ?_
    exact kgo
  obtain ⟨cq1, kq1, q1a, q1b, q1c⟩ := isOf (s := s) hZ e0 xE1
  obtain ⟨_, _, ⟨T1, L1, k1, n1⟩, -, X1, ⟨Lc1, hQ1, l1, y1, z1⟩, st1⟩ := X0.interfaceBack hx (xi := mN44) (y := mN34) hown (mvT hZ (own_w hw 98 rfl)) (mvT hZ (own_w hw 99 rfl)) (mvT hZ (own_w hw 100 rfl)) (mvT hZ (own_w hw 101 rfl)) (mvT hZ (own_w hw 102 rfl)) (mvT hZ (own_w hw 103 rfl)) (mvT hZ (own_w hw 104 rfl)) (mvT hZ (own_w hw 105 rfl)) (by decide) (backOf (W := 1) (rm_size l Z a0 hw [] wG1 wG3 wG5 wK5 cx hEL h0 n0 X00 rr (Int32.ofNat (own_segs (oT nw c1 c2 c3 c4)).length) xE1 xG1) hZ (own_w hw 106 rfl) (own_w hw 36 rfl) (by decide) (by decide)) q1a q1b q1c (g := (mkF m 2 #[vR rr, vR ab1, vI nw, vI (Int32.ofNat jw)] [(.ref rr), (.int (Int32.ofNat jw))])) rfl (by rw [hml]; rfl) (Steps.refl _) (argsL := []) (rest := [(.int (Int32.ofNat jw))]) (lenOf pd_86913941 rfl) rfl (Nat.le_of_eq rfl) (hb hby d43_2) (fun _ _ => ⟨rfl, e0, (by decide : 0 + 0 ≤ _), (by decide : 0 + 0 ≤ _)⟩)
  dsimp only [Pt.U, Pt.locs, Pt.cells, Pt.slots] at X1 l1 y1 z1 st1 hQ1
  subst l1 y1 z1
  obtain ⟨rfl, Nq1, eq1⟩ := hQ1
  refine OwnGoes.tr (T' := T1) (g' := (mkF m 7 #[vR rr, vR ab1, vI nw, vI (Int32.ofNat jw)] [(.int (Int32.ofNat (own_segs (oT nw c1 c2 c3 c4)).length)), (.int (Int32.ofNat jw))])) st1 ?_
  have N1 := Fr.app N0 Nq1
  by_cases cc2 : (Int32.ofNat jw) < (Int32.ofNat (own_segs (oT nw c1 c2 c3 c4)).length)
  · skip
    refine og T1 m 12 #[vR rr, vR ab1, vI nw, vI (Int32.ofNat jw)] [] (fun tgt kgo => ?_) ?_
    · refine XS.icmpYes X1.here hx rfl (pc0 := 7) (pc' := 12) rfl (hb hby d43_7) rfl (tlt cc2).1 (by decide) (by decide) ?_
      exact kgo
    have hkj : jw < (own_segs (oT nw c1 c2 c3 c4)).length := (own_ltN (by omega) (by omega)).mp cc2
    obtain ⟨⟨xx, tx, kx, Nx, vx, hxx, xX1, xV1, xC1, xT1, hox⟩, hb1, hb2⟩ := hall jw hkj
    refine og T1 m 14 #[vR rr, vR ab1, vI nw, vI (Int32.ofNat jw)] [(.int (Int32.ofNat jw)), (.ref rr)] (fun tgt kgo => ?_) ?_
    · refine XS.aloadN X1.here hx rfl (hb hby d43_12) rfl rfl ?_
      refine XS.iloadN X1.here hx rfl (hb hby d43_13) rfl ?_
      exact kgo
    obtain ⟨cq3, kq3, q3a, q3b, q3c⟩ := isOf (s := s) hZ eq1 xE1
    obtain ⟨_, _, ⟨T3, L3, k3, n3⟩, -, X3, ⟨Lc3, hQ3, l3, y3, z3⟩, st3⟩ := X1.interfaceBack hx (xi := mN45) (y := mN36) hown (mvT hZ (own_w hw 203 rfl)) (mvT hZ (own_w hw 204 rfl)) (mvT hZ (own_w hw 205 rfl)) (mvT hZ (own_w hw 206 rfl)) (mvT hZ (own_w hw 207 rfl)) (mvT hZ (own_w hw 208 rfl)) (mvT hZ (own_w hw 209 rfl)) (mvT hZ (own_w hw 105 rfl)) (by decide) (backOf (W := 0) (rm_get l Z a0 hw [] wG1 wG3 wG5 wK5 cx hEL h0 n0 X00 rr edx kex nEx esx jw xx (Int32.ofNat (own_segs (oT nw c1 c2 c3 c4)).length) xE1 xG2 xA1 xG1 hb1 hb2 hxx (by omega) cc2) hZ (own_w hw 210 rfl) (own_w hw 36 rfl) (by decide) (by decide)) q3a q3b q3c (g := (mkF m 14 #[vR rr, vR ab1, vI nw, vI (Int32.ofNat jw)] [(.int (Int32.ofNat jw)), (.ref rr)])) rfl (by rw [hml]; rfl) (Steps.refl _) (argsL := [(.int (Int32.ofNat jw))]) (rest := []) (lenOf pd_40348018 rfl) rfl (Nat.le_of_eq rfl) (hb hby d43_14) (fun _ _ => ⟨rfl, eq1, (by decide : 0 + 0 ≤ _), (by decide : 0 + 0 ≤ _)⟩)
    dsimp only [Pt.U, Pt.locs, Pt.cells, Pt.slots] at X3 l3 y3 z3 st3 hQ3
    subst l3 y3 z3
    obtain ⟨rfl, Nq3, eq3⟩ := hQ3
    refine OwnGoes.tr (T' := T3) (g' := (mkF m 19 #[vR rr, vR ab1, vI nw, vI (Int32.ofNat jw)] [(.ref xx)])) st3 ?_
    have N3 := Fr.app N1 Nq3
    obtain ⟨T4, X4, e4, st4⟩ := castY X3 hx hZ hown (own_w hw 9 rfl) eq3 (Ins.self xX1) (g := (mkF m 19 #[vR rr, vR ab1, vI nw, vI (Int32.ofNat jw)] [(.ref xx)])) rfl rfl (hb hby d43_19)
    refine og T4 m 22 #[vR rr, vR ab1, vI nw, vI (Int32.ofNat jw)] [(.ref xx)] st4 ?_
    obtain ⟨cq5, kq5, q5a, q5b, q5c⟩ := isOf (s := s) hZ e4 xX1
    obtain ⟨_, _, ⟨T5, L5, k5, n5⟩, -, X5, ⟨Lc5, hQ5, l5, y5, z5⟩, st5⟩ := X4.virtualBack hx (y := mN3) (z := mN3) hown (mvT hZ (own_w hw 223 rfl)) (mvT hZ (own_w hw 75 rfl)) (notFace_of_selects (args := #[]) (mvT hZ (own_w hw 77 rfl))) (mvT hZ (own_w hw 77 rfl)) (mvT hZ (own_w hw 76 rfl)) (by decide) (backOf (W := 0) (rm_len l Z a0 hw [] wG1 wG3 wG5 wK5 cx hEL h0 n0 X00 xx tx kx Nx vx xX1 xV1 xC1 xT1) hZ (own_w hw 78 rfl) (own_w hw 11 rfl) (by decide) (by decide)) q5a q5c (g := (mkF m 22 #[vR rr, vR ab1, vI nw, vI (Int32.ofNat jw)] [(.ref xx)])) rfl (by rw [hml]; rfl) (Steps.refl _) (argsL := []) (rest := []) (lenOf pd_86913941 rfl) rfl (Nat.le_of_eq rfl) (hb hby d43_22) (fun _ _ => ⟨rfl, e4, (by decide : 0 + 0 ≤ _), (by decide : 0 + 0 ≤ _)⟩)
    dsimp only [Pt.U, Pt.locs, Pt.cells, Pt.slots] at X5 l5 y5 z5 st5 hQ5
    subst l5 y5 z5
    obtain ⟨rfl, Nq5, eq5⟩ := hQ5
    refine OwnGoes.tr (T' := T5) (g' := (mkF m 25 #[vR rr, vR ab1, vI nw, vI (Int32.ofNat jw)] [(.int Nx)])) st5 ?_
    have N5 := Fr.app N3 Nq5
    refine og T5 m 29 #[vR rr, vR ab1, vI nw, vI (Int32.ofNat jw)] [(.int (Int32.ofNat jw)), (.int 0), (.int nw), (.ref ab1), (.int Nx)] (fun tgt kgo => ?_) ?_
    · refine XS.aloadN X5.here hx rfl (hb hby d43_25) rfl rfl ?_
      refine XS.iloadN X5.here hx rfl (hb hby d43_26) rfl ?_
      refine XS.iconst X5.here hx rfl (hb hby d43_27) ?_
      show OwnG p e below T5 m 28 #[vR rr, vR ab1, vI nw, vI (Int32.ofNat jw)] [(.int 0), (.int nw), (.ref ab1), (.int Nx)] tgt
      refine XS.iloadN X5.here hx rfl (hb hby d43_28) rfl ?_
      exact kgo
    obtain ⟨_, _, ⟨T6, L6, k6, n6⟩, -, X6, ⟨Lc6, hQ6, l6, y6, z6⟩, st6⟩ := Jvm.LawKit.callS X5 hx (y := mN42) hown (mvT hZ (own_w hw 236 rfl)) (mvT hZ (own_w hw 237 rfl)) (mvT hZ (own_w hw 4 rfl)) (mvT hZ (own_w hw 238 rfl)) (by decide) (backOf (W := 1) (rm_in_0 l Z a0 hw [] wG1 wG3 wG5 wK5 cx hEL h0 n0 X00 ab1 kc nw c1 c2 c3 c4 (Int32.ofNat jw) f0) hZ (own_w hw 238 rfl) (own_w hw 4 rfl) (by decide) (by decide)) (g := (mkF m 29 #[vR rr, vR ab1, vI nw, vI (Int32.ofNat jw)] [(.int (Int32.ofNat jw)), (.int 0), (.int nw), (.ref ab1), (.int Nx)])) rfl (by rw [hml]; rfl) (argsL := [(.ref ab1), (.int nw), (.int 0), (.int (Int32.ofNat jw))]) (rest := [(.int Nx)]) (lenOf pd_16748058 rfl) rfl (Nat.le_of_eq rfl) (hb hby d43_29) (fun _ _ => ⟨rfl, eq5, (by decide : 0 + 0 ≤ _), (by decide : 0 + 0 ≤ _)⟩)
    dsimp only [Pt.U, Pt.locs, Pt.cells, Pt.slots] at X6 l6 y6 z6 st6 hQ6
    subst l6 y6 z6
    obtain ⟨r_6, rfl, Nq6, eq6, pq6_0⟩ := hQ6
    refine og T6 m 32 #[vR rr, vR ab1, vI nw, vI (Int32.ofNat jw)] [(.int r_6), (.int Nx)] st6 ?_
    have N6 := Fr.app N5 Nq6
    refine og T6 m 32 #[vR rr, vR ab1, vI nw, vI (Int32.ofNat jw)] [(.int (oi nw (0 : Int32) c1 (0 : Int32) (Int32.ofNat jw))), (.int Nx)] (fun tgt kgo => castTop (by rw [pq6_0]) kgo) ?_
    refine og T6 m 36 #[vR rr, vR ab1, vI nw, vI (Int32.ofNat jw)] [(.int (Int32.ofNat jw)), (.int 1), (.int nw), (.ref ab1), (.int (oi nw (0 : Int32) c1 (0 : Int32) (Int32.ofNat jw))), (.int Nx)] (fun tgt kgo => ?_) ?_
    · refine XS.aloadN X6.here hx rfl (hb hby d43_32) rfl rfl ?_
      refine XS.iloadN X6.here hx rfl (hb hby d43_33) rfl ?_
      refine XS.iconst X6.here hx rfl (hb hby d43_34) ?_
      show OwnG p e below T6 m 35 #[vR rr, vR ab1, vI nw, vI (Int32.ofNat jw)] [(.int 1), (.int nw), (.ref ab1), (.int (oi nw (0 : Int32) c1 (0 : Int32) (Int32.ofNat jw))), (.int Nx)] tgt
      refine XS.iloadN X6.here hx rfl (hb hby d43_35) rfl ?_
      exact kgo
    obtain ⟨_, _, ⟨T7, L7, k7, n7⟩, -, X7, ⟨Lc7, hQ7, l7, y7, z7⟩, st7⟩ := Jvm.LawKit.callS X6 hx (y := mN42) hown (mvT hZ (own_w hw 236 rfl)) (mvT hZ (own_w hw 237 rfl)) (mvT hZ (own_w hw 4 rfl)) (mvT hZ (own_w hw 238 rfl)) (by decide) (backOf (W := 2) (rm_in_1 l Z a0 hw [] wG1 wG3 wG5 wK5 cx hEL h0 n0 X00 ab1 kc nw c1 c2 c3 c4 (Int32.ofNat jw) f0) hZ (own_w hw 238 rfl) (own_w hw 4 rfl) (by decide) (by decide)) (g := (mkF m 36 #[vR rr, vR ab1, vI nw, vI (Int32.ofNat jw)] [(.int (Int32.ofNat jw)), (.int 1), (.int nw), (.ref ab1), (.int (oi nw (0 : Int32) c1 (0 : Int32) (Int32.ofNat jw))), (.int Nx)])) rfl (by rw [hml]; rfl) (argsL := [(.ref ab1), (.int nw), (.int 1), (.int (Int32.ofNat jw))]) (rest := [(.int (oi nw (0 : Int32) c1 (0 : Int32) (Int32.ofNat jw))), (.int Nx)]) (lenOf pd_16748058 rfl) rfl (Nat.le_of_eq rfl) (hb hby d43_36) (fun _ _ => ⟨rfl, eq6, (by decide : 0 + 0 ≤ _), (by decide : 0 + 0 ≤ _)⟩)
    dsimp only [Pt.U, Pt.locs, Pt.cells, Pt.slots] at X7 l7 y7 z7 st7 hQ7
    subst l7 y7 z7
    obtain ⟨r_7, rfl, Nq7, eq7, pq7_0⟩ := hQ7
    refine og T7 m 39 #[vR rr, vR ab1, vI nw, vI (Int32.ofNat jw)] [(.int r_7), (.int (oi nw (0 : Int32) c1 (0 : Int32) (Int32.ofNat jw))), (.int Nx)] st7 ?_
    have N7 := Fr.app N6 Nq7
    refine og T7 m 39 #[vR rr, vR ab1, vI nw, vI (Int32.ofNat jw)] [(.int (oi nw (1 : Int32) c2 (oc nw (0 : Int32) c1 (0 : Int32)) (Int32.ofNat jw))), (.int (oi nw (0 : Int32) c1 (0 : Int32) (Int32.ofNat jw))), (.int Nx)] (fun tgt kgo => castTop (by rw [pq7_0]) kgo) ?_
    refine og T7 m 44 #[vR rr, vR ab1, vI nw, vI (Int32.ofNat jw)] [(.int (Int32.ofNat jw)), (.int 2), (.int nw), (.ref ab1), (.int ((oi nw (0 : Int32) c1 (0 : Int32) (Int32.ofNat jw)) + (oi nw (1 : Int32) c2 (oc nw (0 : Int32) c1 (0 : Int32)) (Int32.ofNat jw)))), (.int Nx)] (fun tgt kgo => ?_) ?_
    · refine XS.iadd X7.here hx rfl (hb hby d43_39) rfl ?_
      refine XS.aloadN X7.here hx rfl (hb hby d43_40) rfl rfl ?_
      refine XS.iloadN X7.here hx rfl (hb hby d43_41) rfl ?_
      show OwnG p e below T7 m 42 #[vR rr, vR ab1, vI nw, vI (Int32.ofNat jw)] [(.int nw), (.ref ab1), (.int ((oi nw (0 : Int32) c1 (0 : Int32) (Int32.ofNat jw)) + (oi nw (1 : Int32) c2 (oc nw (0 : Int32) c1 (0 : Int32)) (Int32.ofNat jw)))), (.int Nx)] tgt
      refine XS.iconst X7.here hx rfl (hb hby d43_42) ?_
      refine XS.iloadN X7.here hx rfl (hb hby d43_43) rfl ?_
      exact kgo
    obtain ⟨_, _, ⟨T8, L8, k8, n8⟩, -, X8, ⟨Lc8, hQ8, l8, y8, z8⟩, st8⟩ := Jvm.LawKit.callS X7 hx (y := mN42) hown (mvT hZ (own_w hw 236 rfl)) (mvT hZ (own_w hw 237 rfl)) (mvT hZ (own_w hw 4 rfl)) (mvT hZ (own_w hw 238 rfl)) (by decide) (backOf (W := 2) (rm_in_2 l Z a0 hw [] wG1 wG3 wG5 wK5 cx hEL h0 n0 X00 ab1 kc nw c1 c2 c3 c4 (Int32.ofNat jw) f0) hZ (own_w hw 238 rfl) (own_w hw 4 rfl) (by decide) (by decide)) (g := (mkF m 44 #[vR rr, vR ab1, vI nw, vI (Int32.ofNat jw)] [(.int (Int32.ofNat jw)), (.int 2), (.int nw), (.ref ab1), (.int ((oi nw (0 : Int32) c1 (0 : Int32) (Int32.ofNat jw)) + (oi nw (1 : Int32) c2 (oc nw (0 : Int32) c1 (0 : Int32)) (Int32.ofNat jw)))), (.int Nx)])) rfl (by rw [hml]; rfl) (argsL := [(.ref ab1), (.int nw), (.int 2), (.int (Int32.ofNat jw))]) (rest := [(.int ((oi nw (0 : Int32) c1 (0 : Int32) (Int32.ofNat jw)) + (oi nw (1 : Int32) c2 (oc nw (0 : Int32) c1 (0 : Int32)) (Int32.ofNat jw)))), (.int Nx)]) (lenOf pd_16748058 rfl) rfl (Nat.le_of_eq rfl) (hb hby d43_44) (fun _ _ => ⟨rfl, eq7, (by decide : 0 + 0 ≤ _), (by decide : 0 + 0 ≤ _)⟩)
    dsimp only [Pt.U, Pt.locs, Pt.cells, Pt.slots] at X8 l8 y8 z8 st8 hQ8
    subst l8 y8 z8
    obtain ⟨r_8, rfl, Nq8, eq8, pq8_0⟩ := hQ8
    refine og T8 m 47 #[vR rr, vR ab1, vI nw, vI (Int32.ofNat jw)] [(.int r_8), (.int ((oi nw (0 : Int32) c1 (0 : Int32) (Int32.ofNat jw)) + (oi nw (1 : Int32) c2 (oc nw (0 : Int32) c1 (0 : Int32)) (Int32.ofNat jw)))), (.int Nx)] st8 ?_
    have N8 := Fr.app N7 Nq8
    refine og T8 m 47 #[vR rr, vR ab1, vI nw, vI (Int32.ofNat jw)] [(.int (oi nw (2 : Int32) c3 (oc nw (1 : Int32) c2 (oc nw (0 : Int32) c1 (0 : Int32))) (Int32.ofNat jw))), (.int ((oi nw (0 : Int32) c1 (0 : Int32) (Int32.ofNat jw)) + (oi nw (1 : Int32) c2 (oc nw (0 : Int32) c1 (0 : Int32)) (Int32.ofNat jw)))), (.int Nx)] (fun tgt kgo => castTop (by rw [pq8_0]) kgo) ?_
    refine og T8 m 52 #[vR rr, vR ab1, vI nw, vI (Int32.ofNat jw)] [(.int (Int32.ofNat jw)), (.int 3), (.int nw), (.ref ab1), (.int (((oi nw (0 : Int32) c1 (0 : Int32) (Int32.ofNat jw)) + (oi nw (1 : Int32) c2 (oc nw (0 : Int32) c1 (0 : Int32)) (Int32.ofNat jw))) + (oi nw (2 : Int32) c3 (oc nw (1 : Int32) c2 (oc nw (0 : Int32) c1 (0 : Int32))) (Int32.ofNat jw)))), (.int Nx)] (fun tgt kgo => ?_) ?_
    · refine XS.iadd X8.here hx rfl (hb hby d43_47) rfl ?_
      refine XS.aloadN X8.here hx rfl (hb hby d43_48) rfl rfl ?_
      refine XS.iloadN X8.here hx rfl (hb hby d43_49) rfl ?_
      show OwnG p e below T8 m 50 #[vR rr, vR ab1, vI nw, vI (Int32.ofNat jw)] [(.int nw), (.ref ab1), (.int (((oi nw (0 : Int32) c1 (0 : Int32) (Int32.ofNat jw)) + (oi nw (1 : Int32) c2 (oc nw (0 : Int32) c1 (0 : Int32)) (Int32.ofNat jw))) + (oi nw (2 : Int32) c3 (oc nw (1 : Int32) c2 (oc nw (0 : Int32) c1 (0 : Int32))) (Int32.ofNat jw)))), (.int Nx)] tgt
      refine XS.iconst X8.here hx rfl (hb hby d43_50) ?_
      refine XS.iloadN X8.here hx rfl (hb hby d43_51) rfl ?_
      exact kgo
    obtain ⟨_, _, ⟨T9, L9, k9, n9⟩, -, X9, ⟨Lc9, hQ9, l9, y9, z9⟩, st9⟩ := Jvm.LawKit.callS X8 hx (y := mN42) hown (mvT hZ (own_w hw 236 rfl)) (mvT hZ (own_w hw 237 rfl)) (mvT hZ (own_w hw 4 rfl)) (mvT hZ (own_w hw 238 rfl)) (by decide) (backOf (W := 2) (rm_in_3 l Z a0 hw [] wG1 wG3 wG5 wK5 cx hEL h0 n0 X00 ab1 kc nw c1 c2 c3 c4 (Int32.ofNat jw) f0) hZ (own_w hw 238 rfl) (own_w hw 4 rfl) (by decide) (by decide)) (g := (mkF m 52 #[vR rr, vR ab1, vI nw, vI (Int32.ofNat jw)] [(.int (Int32.ofNat jw)), (.int 3), (.int nw), (.ref ab1), (.int (((oi nw (0 : Int32) c1 (0 : Int32) (Int32.ofNat jw)) + (oi nw (1 : Int32) c2 (oc nw (0 : Int32) c1 (0 : Int32)) (Int32.ofNat jw))) + (oi nw (2 : Int32) c3 (oc nw (1 : Int32) c2 (oc nw (0 : Int32) c1 (0 : Int32))) (Int32.ofNat jw)))), (.int Nx)])) rfl (by rw [hml]; rfl) (argsL := [(.ref ab1), (.int nw), (.int 3), (.int (Int32.ofNat jw))]) (rest := [(.int (((oi nw (0 : Int32) c1 (0 : Int32) (Int32.ofNat jw)) + (oi nw (1 : Int32) c2 (oc nw (0 : Int32) c1 (0 : Int32)) (Int32.ofNat jw))) + (oi nw (2 : Int32) c3 (oc nw (1 : Int32) c2 (oc nw (0 : Int32) c1 (0 : Int32))) (Int32.ofNat jw)))), (.int Nx)]) (lenOf pd_16748058 rfl) rfl (Nat.le_of_eq rfl) (hb hby d43_52) (fun _ _ => ⟨rfl, eq8, (by decide : 0 + 0 ≤ _), (by decide : 0 + 0 ≤ _)⟩)
    dsimp only [Pt.U, Pt.locs, Pt.cells, Pt.slots] at X9 l9 y9 z9 st9 hQ9
    subst l9 y9 z9
    obtain ⟨r_9, rfl, Nq9, eq9, pq9_0⟩ := hQ9
    refine og T9 m 55 #[vR rr, vR ab1, vI nw, vI (Int32.ofNat jw)] [(.int r_9), (.int (((oi nw (0 : Int32) c1 (0 : Int32) (Int32.ofNat jw)) + (oi nw (1 : Int32) c2 (oc nw (0 : Int32) c1 (0 : Int32)) (Int32.ofNat jw))) + (oi nw (2 : Int32) c3 (oc nw (1 : Int32) c2 (oc nw (0 : Int32) c1 (0 : Int32))) (Int32.ofNat jw)))), (.int Nx)] st9 ?_
    have N9 := Fr.app N8 Nq9
    refine og T9 m 55 #[vR rr, vR ab1, vI nw, vI (Int32.ofNat jw)] [(.int (oi nw (3 : Int32) c4 (oc nw (2 : Int32) c3 (oc nw (1 : Int32) c2 (oc nw (0 : Int32) c1 (0 : Int32)))) (Int32.ofNat jw))), (.int (((oi nw (0 : Int32) c1 (0 : Int32) (Int32.ofNat jw)) + (oi nw (1 : Int32) c2 (oc nw (0 : Int32) c1 (0 : Int32)) (Int32.ofNat jw))) + (oi nw (2 : Int32) c3 (oc nw (1 : Int32) c2 (oc nw (0 : Int32) c1 (0 : Int32))) (Int32.ofNat jw)))), (.int Nx)] (fun tgt kgo => castTop (by rw [pq9_0]) kgo) ?_
    refine og T9 m 64 #[vR rr, vR ab1, vI nw, vI (Int32.ofNat jw)] [(.int 1)] (fun tgt kgo => ?_) ?_
    · refine XS.iadd X9.here hx rfl (hb hby d43_55) rfl ?_
      refine XS.icmpNo X9.here hx rfl (hb hby d43_56) rfl (teq ((own_l0 hox).1.trans (own_len0 hN hjw hkj))).2 ?_
      refine XS.iconst X9.here hx rfl (hb hby d43_59) ?_
      show OwnG p e below T9 m 60 #[vR rr, vR ab1, vI nw, vI (Int32.ofNat jw)] [(.int 1)] tgt
      refine XS.goto X9.here hx rfl (pc0 := 60) (pc' := 64) rfl (hb hby d43_60) (by decide) (by decide) ?_
      exact kgo
    refine own_leave X9 hlk (v := some (.int 1)) (fun h => by rw [Bd.returns] at h; cases h) (fun fs hr => retN X9 hx (t := .boolean) Bd.returns (by simp) (hb hby d43_64) (by rw [(by decide : nar .boolean (1 : Int32) = (1 : Int32))]; exact hr)) (by decide) (by decide) ?_
    show Q_lok Z rr jw ab1 kc nw c1 c2 c3 c4 h0 n0 _ T9.heap _
    rw [eq9]
    exact ⟨rfl, N9, rfl⟩
  refine og T1 m 11 #[vR rr, vR ab1, vI nw, vI (Int32.ofNat jw)] [(.int 1)] (fun tgt kgo => ?_) ?_
  · refine XS.icmpNo X1.here hx rfl (hb hby d43_7) rfl (flt cc2).1 ?_
    refine XS.iconst X1.here hx rfl (hb hby d43_10) ?_
    exact kgo
  refine own_leave X1 hlk (v := some (.int 1)) (fun h => by rw [Bd.returns] at h; cases h) (fun fs hr => retN X1 hx (t := .boolean) Bd.returns (by simp) (hb hby d43_11) (by rw [(by decide : nar .boolean (1 : Int32) = (1 : Int32))]; exact hr)) (by decide) (by decide) ?_
  show Q_lok Z rr jw ab1 kc nw c1 c2 c3 c4 h0 n0 _ T1.heap _
  rw [eq1]
  exact ⟨rfl, N1, rfl⟩
theorem ef_law (m : MethodId) (x0 : Int32) (x1 : Int32) (x2 : Int32) (x3 : Int32) (x4 : Int32) : entryFrame m #[(.int x0), (.int x1), (.int x2), (.int x3), (.int x4)] maxLocals = mkF m 0 #[vI x0, vI x1, vI x2, vI x3, vI x4, vU, vU, vU, vU] [] := by
  first | (simp [entryFrame, mkF, argsToLocals, Value.category, maxLocals]; done) | rfl
def Q_law (Z : State) (p1 : Int32) (p2 : Int32) (p3 : Int32) (p4 : Int32) (p5 : Int32) (h0 : Heap) (n0 : Nat) (v : Option Value) (h : Heap) (L : List Loc) : Prop := v = some (.int 1) ∧ Fr n0 L
theorem pd_32261247 : parseMethodDescriptor "([CI)Ljava/lang/String;" = some ⟨[(.array .char), .int], some (.object "java/lang/String")⟩ := by decide +kernel
theorem pd_75136394 : parseMethodDescriptor "(Ljava/lang/String;)Ljava/util/List;" = some ⟨[(.object "java/lang/String")], some (.object "java/util/List")⟩ := by decide +kernel
theorem pd_35498350 : parseMethodDescriptor "(Ljava/util/List;[CII)Z" = some ⟨[(.object "java/util/List"), (.array .char), .int, .int], some .boolean⟩ := by decide +kernel
set_option maxRecDepth 65536 in
set_option maxHeartbeats 40000000 in
theorem rm_law (l : Launch) (Z : State) (a0 : Array Value) (hw : ∀ d ∈ tables_1, d.before a0 Z = true) (ws : List Jvm.Cond) (wG1 : Int32) (wG3 : Value) (wG5 : Addr) (wK5 : ClassId) (cx : OwnCx Z a0 wG1 wG3 wG5 wK5) (hEL : EW Z a0 consts_1) (h0 : Heap) (n0 : Nat) (X00 : Old Z n0 h0) (p1 : Int32) (p2 : Int32) (p3 : Int32) (p4 : Int32) (p5 : Int32) :
    MetFree l x (head1 (Jvm.Cond.code x code maxLocals ret :: ws) room_1) (fun a U => a = #[(.int p1), (.int p2), (.int p3), (.int p4), (.int p5)] ∧ Z.Warmed39 U.vm ∧ U.heap = h0 ∧ CHv Z consts_1 U.vm h0) (fun _ _ _ _ _ => True) (fun _ U o U' => ∃ v L, o = .returned v ∧ Q_law Z p1 p2 p3 p4 p5 h0 n0 v U'.heap L ∧ CHr Z consts_1 U.vm U.heap U'.vm U'.heap ∧ ReturnedEndW U o U' L room_1.cells room_1.slots) := by
  refine MetFree.of_bodySF (plainFor_of_name pn_43637772) hisR ?_
  intro p e s m args below meth c s₁ Bd hml0 hP hK
  obtain ⟨rfl, hZ, hh, hH⟩ := hP
  obtain ⟨wO2, wP5, wO4, wrG3, hstr, wO5, wV5⟩ := id cx
  have hx := Bd.exec
  have hby := Bd.bytes
  have hlk := Bd.notSynchronized
  have hml : c.maxLocals = 9 := hml0
  have hown : s.vm.findClass "com/example/kindling/kindling/web/PathTemplateSegmentsPinLaw" = some m.cls := findClass_of_methodNamed Bd.named
  have hnm := (name_of_methodNamed Bd.named Bd.method).1
  have X0 : Stand p l e room_1 (s.setVm s.vm) m #[(.int p1), (.int p2), (.int p3), (.int p4), (.int p5)] below meth c s₁ [] 0 0 := Stand.of_body Bd
  have e0 : s₁.heap = h0 := by rw [← hh, Bd.state]; rfl
  have N0 := Fr.nil n0
  have Z0 : n0 ≤ h0.size := X00.1 ▸ X00.2.1
  have K0 : Keep h0 h0 ([] : List Addr) := Keep.refl _ _
  have R0 : CHr Z consts_1 s.vm h0 s.vm h0 := CHr.refl hH
  have hS0 : s.Since s.vm h0.size := State.WarmedH.since (State.WarmedH.refl s) _
  have hk0 : h0.size ≤ h0.size := Nat.le_refl _
  show OwnGoes p e below _ s₁ (entryFrame m _ _)
  refine og s₁ m 0 #[vI p1, vI p2, vI p3, vI p4, vI p5, vU, vU, vU, vU] [] (fun tgt kgo => castTop (ef_law m p1 p2 p3 p4 p5) kgo) ?_
  refine og s₁ m 7 #[vI p1, vI p2, vI p3, vI p4, vI p5, vU, vU, vU, vU] [(.int ((p5 &&& (2147483647 : Int32)) % (5 : Int32)))] (fun tgt kgo => ?_) ?_
  · refine XS.iload X0.here hx rfl (hb hby at_0) rfl ?_
    refine X0.ldcInt hx hown (mvT hZ (own_w hw 0 rfl)) (g := (mkF m 2 #[vI p1, vI p2, vI p3, vI p4, vI p5, vU, vU, vU, vU] [(.int p5)])) rfl (hb hby at_2) _ ?_
    refine XS.iand X0.here hx rfl (hb hby at_4) rfl ?_
    show OwnG p e below s₁ m 5 #[vI p1, vI p2, vI p3, vI p4, vI p5, vU, vU, vU, vU] [(.int (p5 &&& (2147483647 : Int32)))] tgt
    refine XS.iconst X0.here hx rfl (hb hby at_5) ?_
    refine iremM X0 hx rfl (hb hby at_6) rfl (by decide) ?_
    exact kgo
  have hN := own_mod5 p5
  obtain ⟨nw, hnw⟩ : ∃ z : Int32, ((p5 &&& (2147483647 : Int32)) % (5 : Int32)) = z := ⟨_, rfl⟩
  refine og s₁ m 7 #[vI p1, vI p2, vI p3, vI p4, vI p5, vU, vU, vU, vU] [(.int nw)] (fun tgt kgo => castTop (by rw [hnw]) kgo) ?_
  rw [hnw] at hN
  refine og s₁ m 10 #[vI p1, vI p2, vI p3, vI p4, vI p5, vI nw, vU, vU, vU] [(.int 4)] (fun tgt kgo => ?_) ?_
  · refine XS.istore X0.here hx rfl (hb hby at_7) rfl (l' := #[vI p1, vI p2, vI p3, vI p4, vI p5, vI nw, vU, vU, vU]) rfl ?_
    refine XS.iconst X0.here hx rfl (hb hby at_9) ?_
    exact kgo
  obtain ⟨T1, h1, k1, X1, e1, E1, A1, st1⟩ := newP X0 hx hZ (own_w hw 1 rfl) e0 (g := (mkF m 10 #[vI p1, vI p2, vI p3, vI p4, vI p5, vI nw, vU, vU, vU] [(.int 4)])) rfl (hb hby at_10) rfl (by decide) (cap := 4) (by decide) (by decide) (by decide) (by decide)
  obtain ⟨b1, g1⟩ : ∃ z, z = h0.size := ⟨_, rfl⟩
  rw [← g1] at A1 st1
  refine og T1 m 12 #[vI p1, vI p2, vI p3, vI p4, vI p5, vI nw, vU, vU, vU] [(.ref b1)] st1 ?_
  have V1 : Arv Z h1 b1 k1 .char (4 : Int32) [(.int 0), (.int 0), (.int 0), (.int 0)] (.int 0) := (Arv.new A1 (by decide)).pad (pad_rep [] (.int 0) 4)
  have g_b1 : n0 ≤ b1 := Nat.le_trans (Nat.le_trans Z0 K0.1) (Nat.le_of_eq g1.symm)
  have s_b1 : h0.size ≤ b1 := Nat.le_trans K0.1 (Nat.le_of_eq g1.symm)
  have Sf1 : Safe Z consts_1 s.vm h1 b1 := Safe.ext E1 R0.1 (Safe.new (Nat.le_of_eq g1.symm))
  have Ol1 := X00.ext E1
  have K1 : Keep h0 h1 ([] : List Addr) := K0.ext E1
  have R1 := R0.trans (CHr.ext E1 R0.1)
  have hk1 := Nat.le_trans hk0 E1.1
  refine og T1 m 15 #[vI p1, vI p2, vI p3, vI p4, vI p5, vI nw, vU, vU, vU] [(.int p1), (.int 0), (.ref b1), (.ref b1)] (fun tgt kgo => ?_) ?_
  · refine XS.dup X1.here hx rfl (hb hby at_12) rfl rfl ?_
    refine XS.iconst X1.here hx rfl (hb hby at_13) ?_
    refine XS.iloadN X1.here hx rfl (hb hby at_14) rfl ?_
    exact kgo
  obtain ⟨_, _, ⟨T2, L2, k2, n2⟩, -, X2, ⟨Lc2, hQ2, l2, y2, z2⟩, st2⟩ := Jvm.LawKit.callS X1 hx (y := mN37) hown (mvT hZ (own_w hw 2 rfl)) (mvT hZ (own_w hw 3 rfl)) (mvT hZ (own_w hw 4 rfl)) (mvT hZ (own_w hw 5 rfl)) (by decide) (backOf (W := 3) (rm_draw l Z a0 hw [] wG1 wG3 wG5 wK5 cx hEL h1 n0 Ol1 p1) hZ (own_w hw 5 rfl) (own_w hw 4 rfl) (by decide) (by decide)) (g := (mkF m 15 #[vI p1, vI p2, vI p3, vI p4, vI p5, vI nw, vU, vU, vU] [(.int p1), (.int 0), (.ref b1), (.ref b1)])) rfl (by rw [hml]; rfl) (argsL := [(.int p1)]) (rest := [(.int 0), (.ref b1), (.ref b1)]) (lenOf pd_17647939 rfl) rfl (Nat.le_of_eq rfl) (hb hby at_15) (fun _ _ => ⟨rfl, e1, (by decide : 1 + 0 ≤ _), (by decide : 4 + 0 ≤ _)⟩)
  dsimp only [Pt.U, Pt.locs, Pt.cells, Pt.slots] at X2 l2 y2 z2 st2 hQ2
  subst l2 y2 z2
  obtain ⟨c_2, rfl, Nq2, eq2, pq2_0⟩ := hQ2
  refine og T2 m 18 #[vI p1, vI p2, vI p3, vI p4, vI p5, vI nw, vU, vU, vU] [(.int c_2), (.int 0), (.ref b1), (.ref b1)] st2 ?_
  have N2 := Fr.app N0 Nq2
  obtain ⟨cl3, Ar3, q3, S3, M3, H3, G3⟩ := id V1
  obtain ⟨T3, h3, X3, e3, W3, st3⟩ := stC X2 hx hZ eq2 Ar3 (j := (0 : Int32)) (inb_of S3 ⟨by decide, by decide⟩) (g := (mkF m 18 #[vI p1, vI p2, vI p3, vI p4, vI p5, vI nw, vU, vU, vU] [(.int c_2), (.int 0), (.ref b1), (.ref b1)])) rfl rfl (hb hby at_18)
  refine og T3 m 19 #[vI p1, vI p2, vI p3, vI p4, vI p5, vI nw, vU, vU, vU] [(.ref b1)] st3 ?_
  have V3 : Arv Z h3 b1 k1 .char (4 : Int32) [(.int (nar .char c_2)), (.int 0), (.int 0), (.int 0)] (.int 0) := Arv.set Ar3 q3 S3 M3 H3 G3 (fits_nar_char _) W3 0 rfl (Nat.le_of_ble_eq_true rfl)
  rw [(own_nar_lat pq2_0)] at V3
  have V3' : Arv Z h3 b1 k1 .char (4 : Int32) [(.int c_2), (.int 0), (.int 0), (.int 0)] (.int 0) := V3
  have F3_1 := Safe.wr W3 Sf1 R1.1 Sf1
  have Ol3 := Ol1.wr W3 g_b1
  have K3 : Keep h0 h3 ([] : List Addr) := K1.wr W3 (Or.inr s_b1)
  have R3 := R1.trans (CHr.wr W3 Sf1 R1.1)
  have hk3 := Nat.le_trans hk1 (Keep.of_wr W3).1
  have N3 := Fr.snoc X3 N2 g_b1
  refine og T3 m 22 #[vI p1, vI p2, vI p3, vI p4, vI p5, vI nw, vU, vU, vU] [(.int p2), (.int 1), (.ref b1), (.ref b1)] (fun tgt kgo => ?_) ?_
  · refine XS.dup X3.here hx rfl (hb hby at_19) rfl rfl ?_
    refine XS.iconst X3.here hx rfl (hb hby at_20) ?_
    refine XS.iloadN X3.here hx rfl (hb hby at_21) rfl ?_
    exact kgo
  obtain ⟨_, _, ⟨T4, L4, k4, n4⟩, -, X4, ⟨Lc4, hQ4, l4, y4, z4⟩, st4⟩ := Jvm.LawKit.callS X3 hx (y := mN37) hown (mvT hZ (own_w hw 2 rfl)) (mvT hZ (own_w hw 3 rfl)) (mvT hZ (own_w hw 4 rfl)) (mvT hZ (own_w hw 5 rfl)) (by decide) (backOf (W := 3) (rm_draw l Z a0 hw [] wG1 wG3 wG5 wK5 cx hEL h3 n0 Ol3 p2) hZ (own_w hw 5 rfl) (own_w hw 4 rfl) (by decide) (by decide)) (g := (mkF m 22 #[vI p1, vI p2, vI p3, vI p4, vI p5, vI nw, vU, vU, vU] [(.int p2), (.int 1), (.ref b1), (.ref b1)])) rfl (by rw [hml]; rfl) (argsL := [(.int p2)]) (rest := [(.int 1), (.ref b1), (.ref b1)]) (lenOf pd_17647939 rfl) rfl (Nat.le_of_eq rfl) (hb hby at_22) (fun _ _ => ⟨rfl, e3, (by decide : 1 + 0 ≤ _), (by decide : 4 + 0 ≤ _)⟩)
  dsimp only [Pt.U, Pt.locs, Pt.cells, Pt.slots] at X4 l4 y4 z4 st4 hQ4
  subst l4 y4 z4
  obtain ⟨c_4, rfl, Nq4, eq4, pq4_0⟩ := hQ4
  refine og T4 m 25 #[vI p1, vI p2, vI p3, vI p4, vI p5, vI nw, vU, vU, vU] [(.int c_4), (.int 1), (.ref b1), (.ref b1)] st4 ?_
  have N4 := Fr.app N3 Nq4
  obtain ⟨cl5, Ar5, q5, S5, M5, H5, G5⟩ := id V3'
  obtain ⟨T5, h5, X5, e5, W5, st5⟩ := stC X4 hx hZ eq4 Ar5 (j := (1 : Int32)) (inb_of S5 ⟨by decide, by decide⟩) (g := (mkF m 25 #[vI p1, vI p2, vI p3, vI p4, vI p5, vI nw, vU, vU, vU] [(.int c_4), (.int 1), (.ref b1), (.ref b1)])) rfl rfl (hb hby at_25)
  refine og T5 m 26 #[vI p1, vI p2, vI p3, vI p4, vI p5, vI nw, vU, vU, vU] [(.ref b1)] st5 ?_
  have V5 : Arv Z h5 b1 k1 .char (4 : Int32) [(.int c_2), (.int (nar .char c_4)), (.int 0), (.int 0)] (.int 0) := Arv.set Ar5 q5 S5 M5 H5 G5 (fits_nar_char _) W5 1 rfl (Nat.le_of_ble_eq_true rfl)
  rw [(own_nar_lat pq4_0)] at V5
  have V5' : Arv Z h5 b1 k1 .char (4 : Int32) [(.int c_2), (.int c_4), (.int 0), (.int 0)] (.int 0) := V5
  have F5_2 := Safe.wr W5 F3_1 R3.1 F3_1
  have Ol5 := Ol3.wr W5 g_b1
  have K5 : Keep h0 h5 ([] : List Addr) := K3.wr W5 (Or.inr s_b1)
  have R5 := R3.trans (CHr.wr W5 F3_1 R3.1)
  have hk5 := Nat.le_trans hk3 (Keep.of_wr W5).1
  have N5 := Fr.snoc X5 N4 g_b1
  refine og T5 m 29 #[vI p1, vI p2, vI p3, vI p4, vI p5, vI nw, vU, vU, vU] [(.int p3), (.int 2), (.ref b1), (.ref b1)] (fun tgt kgo => ?_) ?_
  · refine XS.dup X5.here hx rfl (hb hby at_26) rfl rfl ?_
    refine XS.iconst X5.here hx rfl (hb hby at_27) ?_
    refine XS.iloadN X5.here hx rfl (hb hby at_28) rfl ?_
    exact kgo
  obtain ⟨_, _, ⟨T6, L6, k6, n6⟩, -, X6, ⟨Lc6, hQ6, l6, y6, z6⟩, st6⟩ := Jvm.LawKit.callS X5 hx (y := mN37) hown (mvT hZ (own_w hw 2 rfl)) (mvT hZ (own_w hw 3 rfl)) (mvT hZ (own_w hw 4 rfl)) (mvT hZ (own_w hw 5 rfl)) (by decide) (backOf (W := 3) (rm_draw l Z a0 hw [] wG1 wG3 wG5 wK5 cx hEL h5 n0 Ol5 p3) hZ (own_w hw 5 rfl) (own_w hw 4 rfl) (by decide) (by decide)) (g := (mkF m 29 #[vI p1, vI p2, vI p3, vI p4, vI p5, vI nw, vU, vU, vU] [(.int p3), (.int 2), (.ref b1), (.ref b1)])) rfl (by rw [hml]; rfl) (argsL := [(.int p3)]) (rest := [(.int 2), (.ref b1), (.ref b1)]) (lenOf pd_17647939 rfl) rfl (Nat.le_of_eq rfl) (hb hby at_29) (fun _ _ => ⟨rfl, e5, (by decide : 1 + 0 ≤ _), (by decide : 4 + 0 ≤ _)⟩)
  dsimp only [Pt.U, Pt.locs, Pt.cells, Pt.slots] at X6 l6 y6 z6 st6 hQ6
  subst l6 y6 z6
  obtain ⟨c_6, rfl, Nq6, eq6, pq6_0⟩ := hQ6
  refine og T6 m 32 #[vI p1, vI p2, vI p3, vI p4, vI p5, vI nw, vU, vU, vU] [(.int c_6), (.int 2), (.ref b1), (.ref b1)] st6 ?_
  have N6 := Fr.app N5 Nq6
  obtain ⟨cl7, Ar7, q7, S7, M7, H7, G7⟩ := id V5'
  obtain ⟨T7, h7, X7, e7, W7, st7⟩ := stC X6 hx hZ eq6 Ar7 (j := (2 : Int32)) (inb_of S7 ⟨by decide, by decide⟩) (g := (mkF m 32 #[vI p1, vI p2, vI p3, vI p4, vI p5, vI nw, vU, vU, vU] [(.int c_6), (.int 2), (.ref b1), (.ref b1)])) rfl rfl (hb hby at_32)
  refine og T7 m 33 #[vI p1, vI p2, vI p3, vI p4, vI p5, vI nw, vU, vU, vU] [(.ref b1)] st7 ?_
  have V7 : Arv Z h7 b1 k1 .char (4 : Int32) [(.int c_2), (.int c_4), (.int (nar .char c_6)), (.int 0)] (.int 0) := Arv.set Ar7 q7 S7 M7 H7 G7 (fits_nar_char _) W7 2 rfl (Nat.le_of_ble_eq_true rfl)
  rw [(own_nar_lat pq6_0)] at V7
  have V7' : Arv Z h7 b1 k1 .char (4 : Int32) [(.int c_2), (.int c_4), (.int c_6), (.int 0)] (.int 0) := V7
  have F7_3 := Safe.wr W7 F5_2 R5.1 F5_2
  have Ol7 := Ol5.wr W7 g_b1
  have K7 : Keep h0 h7 ([] : List Addr) := K5.wr W7 (Or.inr s_b1)
  have R7 := R5.trans (CHr.wr W7 F5_2 R5.1)
  have hk7 := Nat.le_trans hk5 (Keep.of_wr W7).1
  have N7 := Fr.snoc X7 N6 g_b1
  refine og T7 m 36 #[vI p1, vI p2, vI p3, vI p4, vI p5, vI nw, vU, vU, vU] [(.int p4), (.int 3), (.ref b1), (.ref b1)] (fun tgt kgo => ?_) ?_
  · refine XS.dup X7.here hx rfl (hb hby at_33) rfl rfl ?_
    refine XS.iconst X7.here hx rfl (hb hby at_34) ?_
    refine XS.iloadN X7.here hx rfl (hb hby at_35) rfl ?_
    exact kgo
  obtain ⟨_, _, ⟨T8, L8, k8, n8⟩, -, X8, ⟨Lc8, hQ8, l8, y8, z8⟩, st8⟩ := Jvm.LawKit.callS X7 hx (y := mN37) hown (mvT hZ (own_w hw 2 rfl)) (mvT hZ (own_w hw 3 rfl)) (mvT hZ (own_w hw 4 rfl)) (mvT hZ (own_w hw 5 rfl)) (by decide) (backOf (W := 3) (rm_draw l Z a0 hw [] wG1 wG3 wG5 wK5 cx hEL h7 n0 Ol7 p4) hZ (own_w hw 5 rfl) (own_w hw 4 rfl) (by decide) (by decide)) (g := (mkF m 36 #[vI p1, vI p2, vI p3, vI p4, vI p5, vI nw, vU, vU, vU] [(.int p4), (.int 3), (.ref b1), (.ref b1)])) rfl (by rw [hml]; rfl) (argsL := [(.int p4)]) (rest := [(.int 3), (.ref b1), (.ref b1)]) (lenOf pd_17647939 rfl) rfl (Nat.le_of_eq rfl) (hb hby at_36) (fun _ _ => ⟨rfl, e7, (by decide : 1 + 0 ≤ _), (by decide : 4 + 0 ≤ _)⟩)
  dsimp only [Pt.U, Pt.locs, Pt.cells, Pt.slots] at X8 l8 y8 z8 st8 hQ8
  subst l8 y8 z8
  obtain ⟨c_8, rfl, Nq8, eq8, pq8_0⟩ := hQ8
  refine og T8 m 39 #[vI p1, vI p2, vI p3, vI p4, vI p5, vI nw, vU, vU, vU] [(.int c_8), (.int 3), (.ref b1), (.ref b1)] st8 ?_
  have N8 := Fr.app N7 Nq8
  obtain ⟨cl9, Ar9, q9, S9, M9, H9, G9⟩ := id V7'
  obtain ⟨T9, h9, X9, e9, W9, st9⟩ := stC X8 hx hZ eq8 Ar9 (j := (3 : Int32)) (inb_of S9 ⟨by decide, by decide⟩) (g := (mkF m 39 #[vI p1, vI p2, vI p3, vI p4, vI p5, vI nw, vU, vU, vU] [(.int c_8), (.int 3), (.ref b1), (.ref b1)])) rfl rfl (hb hby at_39)
  refine og T9 m 40 #[vI p1, vI p2, vI p3, vI p4, vI p5, vI nw, vU, vU, vU] [(.ref b1)] st9 ?_
  have V9 : Arv Z h9 b1 k1 .char (4 : Int32) [(.int c_2), (.int c_4), (.int c_6), (.int (nar .char c_8))] (.int 0) := Arv.set Ar9 q9 S9 M9 H9 G9 (fits_nar_char _) W9 3 rfl (Nat.le_of_ble_eq_true rfl)
  rw [(own_nar_lat pq8_0)] at V9
  have V9' : Arv Z h9 b1 k1 .char (4 : Int32) [(.int c_2), (.int c_4), (.int c_6), (.int c_8)] (.int 0) := V9
  have F9_4 := Safe.wr W9 F7_3 R7.1 F7_3
  have Ol9 := Ol7.wr W9 g_b1
  have K9 : Keep h0 h9 ([] : List Addr) := K7.wr W9 (Or.inr s_b1)
  have R9 := R7.trans (CHr.wr W9 F7_3 R7.1)
  have hk9 := Nat.le_trans hk7 (Keep.of_wr W9).1
  have N9 := Fr.snoc X9 N8 g_b1
  refine og T9 m 46 #[vI p1, vI p2, vI p3, vI p4, vI p5, vI nw, vR b1, vU, vU] [(.int nw), (.ref b1)] (fun tgt kgo => ?_) ?_
  · refine XS.astore X9.here hx rfl (hb hby at_40) rfl rfl (l' := #[vI p1, vI p2, vI p3, vI p4, vI p5, vI nw, vR b1, vU, vU]) rfl ?_
    refine XS.aload X9.here hx rfl (hb hby at_42) rfl rfl ?_
    refine XS.iload X9.here hx rfl (hb hby at_44) rfl ?_
    exact kgo
  obtain ⟨_, _, ⟨T10, L10, k10, n10⟩, -, X10, Si10, Gr10, ⟨Lc10, hQ10, l10, y10, z10, Rc10⟩, st10⟩ := callSS X9 hx (y := mN38) hown (mvT hZ (own_w hw 6 rfl)) (mvT hZ (own_w hw 7 rfl)) (mvT hZ (own_w hw 4 rfl)) (mvT hZ (own_w hw 8 rfl)) (by decide) (backOfSH (W := 0) (rm_make l Z a0 hw [] wG1 wG3 wG5 wK5 cx hEL h9 n0 Ol9 b1 k1 nw c_2 c_4 c_6 c_8 V9' hN pq2_0 pq4_0 pq6_0 pq8_0) hZ (own_w hw 8 rfl) (own_w hw 4 rfl) (by decide) (by decide) hEL R9.1) (g := (mkF m 46 #[vI p1, vI p2, vI p3, vI p4, vI p5, vI nw, vR b1, vU, vU] [(.int nw), (.ref b1)])) rfl (by rw [hml]; rfl) (argsL := [(.ref b1), (.int nw)]) (rest := []) (lenOf pd_32261247 rfl) rfl (Nat.le_of_eq rfl) (hb hby at_46) (fun _ _ => ⟨rfl, e9, (by decide : 1 + 6 ≤ _), (by decide : 4 + 12 ≤ _)⟩)
  dsimp only [Pt.U, Pt.locs, Pt.cells, Pt.slots] at X10 l10 y10 z10 st10 hQ10 Si10 Gr10 Rc10
  subst l10 y10 z10
  obtain ⟨x_10, t_10, k_10, N_10, vs_10, rfl, Nq10, Kq10, fq10_0, fq10_1, fq10_2, fq10_3, pq10_0⟩ := hQ10
  refine OwnGoes.tr (T' := T10) (g' := (mkF m 49 #[vI p1, vI p2, vI p3, vI p4, vI p5, vI nw, vR b1, vU, vU] [(.ref x_10)])) st10 ?_
  have N10 := Fr.app N9 Nq10
  have gz10 : h9.size ≤ T10.heap.size := Rc10.2.1
  obtain ⟨X10, hS10, hZ10, ho10⟩ := rebS hS0 hk9 X10 Si10 gz10 hZ hown
  have F10_5 := Rc10.safe V9'.lt F9_4
  have F10_6 := V9'.keep Kq10 nin0
  have Ol10 := Ol9.keep Kq10 all0
  have K10 : Keep h0 T10.heap ([] : List Addr) := K9.trans Kq10 all0
  have R10 := R9.trans Rc10
  refine og T10 m 53 #[vI p1, vI p2, vI p3, vI p4, vI p5, vI nw, vR b1, vR x_10, vU] [(.ref x_10)] (fun tgt kgo => ?_) ?_
  · refine XS.astore X10.here hx rfl (hb hby at_49) rfl rfl (l' := #[vI p1, vI p2, vI p3, vI p4, vI p5, vI nw, vR b1, vR x_10, vU]) rfl ?_
    refine XS.aload X10.here hx rfl (hb hby at_51) rfl rfl ?_
    exact kgo
  obtain ⟨_, _, ⟨T11, L11, k11, n11⟩, -, X11, Si11, Gr11, ⟨Lc11, hQ11, l11, y11, z11, Rc11⟩, st11⟩ := callSS X10 hx (y := mN32) ho10 (mvT hZ10 (own_w hw 30 rfl)) (mvT hZ10 (own_w hw 31 rfl)) (mvT hZ10 (own_w hw 32 rfl)) (mvT hZ10 (own_w hw 33 rfl)) (by decide) (backOfSH (W := 0) (rm_segm l Z a0 hw [] wG1 wG3 wG5 wK5 cx hEL T10.heap n0 Ol10 x_10 t_10 k_10 N_10 vs_10 (oT nw c_2 c_4 c_6 c_8) fq10_0 fq10_1 fq10_2 fq10_3 pq10_0 (own_tl hN)) hZ10 (own_w hw 33 rfl) (own_w hw 32 rfl) (by decide) (by decide) hEL R10.1) (g := (mkF m 53 #[vI p1, vI p2, vI p3, vI p4, vI p5, vI nw, vR b1, vR x_10, vU] [(.ref x_10)])) rfl (by rw [hml]; rfl) (argsL := [(.ref x_10)]) (rest := []) (lenOf pd_75136394 rfl) rfl (Nat.le_of_eq rfl) (hb hby at_53) (fun _ _ => ⟨rfl, rfl, (by decide : 7 + 10 ≤ _), (by decide : 16 + 45 ≤ _)⟩)
  dsimp only [Pt.U, Pt.locs, Pt.cells, Pt.slots] at X11 l11 y11 z11 st11 hQ11 Si11 Gr11 Rc11
  subst l11 y11 z11
  obtain ⟨x_11, rfl, Nq11, Kq11, pq11_0⟩ := hQ11
  refine OwnGoes.tr (T' := T11) (g' := (mkF m 56 #[vI p1, vI p2, vI p3, vI p4, vI p5, vI nw, vR b1, vR x_10, vU] [(.ref x_11)])) st11 ?_
  have N11 := Fr.app N10 Nq11
  have gz11 : T10.heap.size ≤ T11.heap.size := Rc11.2.1
  obtain ⟨X11, hS11, hZ11, ho11⟩ := rebS hS10 (Nat.le_refl _) X11 Si11 gz11 hZ10 ho10
  have F11_7 := Rc11.safe F10_6.lt F10_5
  have F11_8 := F10_6.keep Kq11 nin0
  have F11_9 := fq10_0.keep Kq11
  have F11_10 := fq10_1.keep Kq11 nin0
  have F11_11 := fq10_2.keep Kq11 nin0
  have F11_12 := fq10_3.keep Kq11 nin0
  have Ol11 := Ol10.keep Kq11 all0
  have K11 : Keep h0 T11.heap ([] : List Addr) := K10.trans Kq11 all0
  have R11 := R10.trans Rc11
  refine og T11 m 58 #[vI p1, vI p2, vI p3, vI p4, vI p5, vI nw, vR b1, vR x_10, vR x_11] [] (fun tgt kgo => ?_) ?_
  · refine XS.astore X11.here hx rfl (hb hby at_56) rfl rfl (l' := #[vI p1, vI p2, vI p3, vI p4, vI p5, vI nw, vR b1, vR x_10, vR x_11]) rfl ?_
    exact kgo
  obtain ⟨edx, kex, nEx, esx, xE1, xG1, xG2, xA1, hl4, hall⟩ := id pq11_0
  refine og T11 m 60 #[vI p1, vI p2, vI p3, vI p4, vI p5, vI nw, vR b1, vR x_10, vR x_11] [(.ref x_11)] (fun tgt kgo => ?_) ?_
  · refine XS.aload X11.here hx rfl (hb hby at_58) rfl rfl ?_
    exact kgo
  obtain ⟨cq12, kq12, q12a, q12b, q12c⟩ := isOf (s := (s.setVm T11.vm)) hZ11 rfl xE1
  obtain ⟨_, _, ⟨T12, L12, k12, n12⟩, -, X12, ⟨Lc12, hQ12, l12, y12, z12⟩, st12⟩ := X11.interfaceBack hx (xi := mN44) (y := mN34) ho11 (mvT hZ11 (own_w hw 98 rfl)) (mvT hZ11 (own_w hw 99 rfl)) (mvT hZ11 (own_w hw 100 rfl)) (mvT hZ11 (own_w hw 101 rfl)) (mvT hZ11 (own_w hw 102 rfl)) (mvT hZ11 (own_w hw 103 rfl)) (mvT hZ11 (own_w hw 104 rfl)) (mvT hZ11 (own_w hw 105 rfl)) (by decide) (backOf (W := 0) (rm_size l Z a0 hw [] wG1 wG3 wG5 wK5 cx hEL T11.heap n0 Ol11 x_11 (Int32.ofNat (own_segs (oT nw c_2 c_4 c_6 c_8)).length) xE1 xG1) hZ11 (own_w hw 106 rfl) (own_w hw 36 rfl) (by decide) (by decide)) q12a q12b q12c (g := (mkF m 60 #[vI p1, vI p2, vI p3, vI p4, vI p5, vI nw, vR b1, vR x_10, vR x_11] [(.ref x_11)])) rfl (by rw [hml]; rfl) (Steps.refl _) (argsL := []) (rest := []) (lenOf pd_86913941 rfl) rfl (Nat.le_of_eq rfl) (hb hby at_60) (fun _ _ => ⟨rfl, rfl, (by decide : 17 + 0 ≤ _), (by decide : 61 + 0 ≤ _)⟩)
  dsimp only [Pt.U, Pt.locs, Pt.cells, Pt.slots] at X12 l12 y12 z12 st12 hQ12
  subst l12 y12 z12
  obtain ⟨rfl, Nq12, eq12⟩ := hQ12
  refine OwnGoes.tr (T' := T12) (g' := (mkF m 65 #[vI p1, vI p2, vI p3, vI p4, vI p5, vI nw, vR b1, vR x_10, vR x_11] [(.int (Int32.ofNat (own_segs (oT nw c_2 c_4 c_6 c_8)).length))])) st12 ?_
  have N12 := Fr.app N11 Nq12
  refine og T12 m 70 #[vI p1, vI p2, vI p3, vI p4, vI p5, vI nw, vR b1, vR x_10, vR x_11] [(.int 4), (.int nw), (.ref b1), (.int (Int32.ofNat (own_segs (oT nw c_2 c_4 c_6 c_8)).length))] (fun tgt kgo => ?_) ?_
  · refine XS.aload X12.here hx rfl (hb hby at_65) rfl rfl ?_
    refine XS.iload X12.here hx rfl (hb hby at_67) rfl ?_
    refine XS.iconst X12.here hx rfl (hb hby at_69) ?_
    exact kgo
  obtain ⟨_, _, ⟨T13, L13, k13, n13⟩, -, X13, ⟨Lc13, hQ13, l13, y13, z13⟩, st13⟩ := Jvm.LawKit.callS X12 hx (y := mN40) ho11 (mvT hZ11 (own_w hw 109 rfl)) (mvT hZ11 (own_w hw 110 rfl)) (mvT hZ11 (own_w hw 4 rfl)) (mvT hZ11 (own_w hw 111 rfl)) (by decide) (backOf (W := 1) (rm_cnt_4 l Z a0 hw [] wG1 wG3 wG5 wK5 cx hEL T11.heap n0 Ol11 b1 k1 nw c_2 c_4 c_6 c_8 F11_8) hZ11 (own_w hw 111 rfl) (own_w hw 4 rfl) (by decide) (by decide)) (g := (mkF m 70 #[vI p1, vI p2, vI p3, vI p4, vI p5, vI nw, vR b1, vR x_10, vR x_11] [(.int 4), (.int nw), (.ref b1), (.int (Int32.ofNat (own_segs (oT nw c_2 c_4 c_6 c_8)).length))])) rfl (by rw [hml]; rfl) (argsL := [(.ref b1), (.int nw), (.int 4)]) (rest := [(.int (Int32.ofNat (own_segs (oT nw c_2 c_4 c_6 c_8)).length))]) (lenOf pd_92517391 rfl) rfl (Nat.le_of_eq rfl) (hb hby at_70) (fun _ _ => ⟨rfl, eq12, (by decide : 17 + 0 ≤ _), (by decide : 61 + 0 ≤ _)⟩)
  dsimp only [Pt.U, Pt.locs, Pt.cells, Pt.slots] at X13 l13 y13 z13 st13 hQ13
  subst l13 y13 z13
  obtain ⟨rfl, Nq13, eq13⟩ := hQ13
  refine og T13 m 73 #[vI p1, vI p2, vI p3, vI p4, vI p5, vI nw, vR b1, vR x_10, vR x_11] [(.int (oc nw (3 : Int32) c_8 (oc nw (2 : Int32) c_6 (oc nw (1 : Int32) c_4 (oc nw (0 : Int32) c_2 (0 : Int32)))))), (.int (Int32.ofNat (own_segs (oT nw c_2 c_4 c_6 c_8)).length))] st13 ?_
  have N13 := Fr.app N12 Nq13
  refine og T13 m 83 #[vI p1, vI p2, vI p3, vI p4, vI p5, vI nw, vR b1, vR x_10, vR x_11] [(.int 0), (.int nw), (.ref b1), (.ref x_11)] (fun tgt kgo => ?_) ?_
  · refine XS.icmpNo X13.here hx rfl (hb hby at_73) rfl (teq (own_size hN)).2 ?_
    refine XS.aload X13.here hx rfl (hb hby at_76) rfl rfl ?_
    refine XS.aload X13.here hx rfl (hb hby at_78) rfl rfl ?_
    show OwnG p e below T13 m 80 #[vI p1, vI p2, vI p3, vI p4, vI p5, vI nw, vR b1, vR x_10, vR x_11] [(.ref b1), (.ref x_11)] tgt
    refine XS.iload X13.here hx rfl (hb hby at_80) rfl ?_
    refine XS.iconst X13.here hx rfl (hb hby at_82) ?_
    exact kgo
  obtain ⟨_, _, ⟨T14, L14, k14, n14⟩, -, X14, ⟨Lc14, hQ14, l14, y14, z14⟩, st14⟩ := Jvm.LawKit.callS X13 hx (y := mN43) ho11 (mvT hZ11 (own_w hw 115 rfl)) (mvT hZ11 (own_w hw 116 rfl)) (mvT hZ11 (own_w hw 4 rfl)) (mvT hZ11 (own_w hw 117 rfl)) (by decide) (backOf (W := 0) (rm_cok_0 l Z a0 hw [] wG1 wG3 wG5 wK5 cx hEL T11.heap n0 Ol11 x_11 b1 k1 nw c_2 c_4 c_6 c_8 F11_8 hN pq11_0) hZ11 (own_w hw 117 rfl) (own_w hw 4 rfl) (by decide) (by decide)) (g := (mkF m 83 #[vI p1, vI p2, vI p3, vI p4, vI p5, vI nw, vR b1, vR x_10, vR x_11] [(.int 0), (.int nw), (.ref b1), (.ref x_11)])) rfl (by rw [hml]; rfl) (argsL := [(.ref x_11), (.ref b1), (.int nw), (.int 0)]) (rest := []) (lenOf pd_35498350 rfl) rfl (Nat.le_of_eq rfl) (hb hby at_83) (fun _ _ => ⟨rfl, eq13, (by decide : 17 + 0 ≤ _), (by decide : 61 + 0 ≤ _)⟩)
  dsimp only [Pt.U, Pt.locs, Pt.cells, Pt.slots] at X14 l14 y14 z14 st14 hQ14
  subst l14 y14 z14
  obtain ⟨rfl, Nq14, eq14⟩ := hQ14
  refine og T14 m 86 #[vI p1, vI p2, vI p3, vI p4, vI p5, vI nw, vR b1, vR x_10, vR x_11] [(.int 1)] st14 ?_
  have N14 := Fr.app N13 Nq14
  refine og T14 m 96 #[vI p1, vI p2, vI p3, vI p4, vI p5, vI nw, vR b1, vR x_10, vR x_11] [(.int 1), (.int nw), (.ref b1), (.ref x_11)] (fun tgt kgo => ?_) ?_
  · refine XS.ifNo X14.here hx rfl (hb hby at_86) rfl ((if0 _ _).trans (feq (by decide : ¬ ((1 : Int32) = (0 : Int32)))).1) ?_
    refine XS.aload X14.here hx rfl (hb hby at_89) rfl rfl ?_
    refine XS.aload X14.here hx rfl (hb hby at_91) rfl rfl ?_
    show OwnG p e below T14 m 93 #[vI p1, vI p2, vI p3, vI p4, vI p5, vI nw, vR b1, vR x_10, vR x_11] [(.ref b1), (.ref x_11)] tgt
    refine XS.iload X14.here hx rfl (hb hby at_93) rfl ?_
    refine XS.iconst X14.here hx rfl (hb hby at_95) ?_
    exact kgo
  obtain ⟨_, _, ⟨T15, L15, k15, n15⟩, -, X15, ⟨Lc15, hQ15, l15, y15, z15⟩, st15⟩ := Jvm.LawKit.callS X14 hx (y := mN43) ho11 (mvT hZ11 (own_w hw 115 rfl)) (mvT hZ11 (own_w hw 116 rfl)) (mvT hZ11 (own_w hw 4 rfl)) (mvT hZ11 (own_w hw 117 rfl)) (by decide) (backOf (W := 0) (rm_cok_1 l Z a0 hw [] wG1 wG3 wG5 wK5 cx hEL T11.heap n0 Ol11 x_11 b1 k1 nw c_2 c_4 c_6 c_8 F11_8 hN pq11_0) hZ11 (own_w hw 117 rfl) (own_w hw 4 rfl) (by decide) (by decide)) (g := (mkF m 96 #[vI p1, vI p2, vI p3, vI p4, vI p5, vI nw, vR b1, vR x_10, vR x_11] [(.int 1), (.int nw), (.ref b1), (.ref x_11)])) rfl (by rw [hml]; rfl) (argsL := [(.ref x_11), (.ref b1), (.int nw), (.int 1)]) (rest := []) (lenOf pd_35498350 rfl) rfl (Nat.le_of_eq rfl) (hb hby at_96) (fun _ _ => ⟨rfl, eq14, (by decide : 17 + 0 ≤ _), (by decide : 61 + 0 ≤ _)⟩)
  dsimp only [Pt.U, Pt.locs, Pt.cells, Pt.slots] at X15 l15 y15 z15 st15 hQ15
  subst l15 y15 z15
  obtain ⟨rfl, Nq15, eq15⟩ := hQ15
  refine og T15 m 99 #[vI p1, vI p2, vI p3, vI p4, vI p5, vI nw, vR b1, vR x_10, vR x_11] [(.int 1)] st15 ?_
  have N15 := Fr.app N14 Nq15
  refine og T15 m 109 #[vI p1, vI p2, vI p3, vI p4, vI p5, vI nw, vR b1, vR x_10, vR x_11] [(.int 2), (.int nw), (.ref b1), (.ref x_11)] (fun tgt kgo => ?_) ?_
  · refine XS.ifNo X15.here hx rfl (hb hby at_99) rfl ((if0 _ _).trans (feq (by decide : ¬ ((1 : Int32) = (0 : Int32)))).1) ?_
    refine XS.aload X15.here hx rfl (hb hby at_102) rfl rfl ?_
    refine XS.aload X15.here hx rfl (hb hby at_104) rfl rfl ?_
    show OwnG p e below T15 m 106 #[vI p1, vI p2, vI p3, vI p4, vI p5, vI nw, vR b1, vR x_10, vR x_11] [(.ref b1), (.ref x_11)] tgt
    refine XS.iload X15.here hx rfl (hb hby at_106) rfl ?_
    refine XS.iconst X15.here hx rfl (hb hby at_108) ?_
    exact kgo
  obtain ⟨_, _, ⟨T16, L16, k16, n16⟩, -, X16, ⟨Lc16, hQ16, l16, y16, z16⟩, st16⟩ := Jvm.LawKit.callS X15 hx (y := mN43) ho11 (mvT hZ11 (own_w hw 115 rfl)) (mvT hZ11 (own_w hw 116 rfl)) (mvT hZ11 (own_w hw 4 rfl)) (mvT hZ11 (own_w hw 117 rfl)) (by decide) (backOf (W := 0) (rm_cok_2 l Z a0 hw [] wG1 wG3 wG5 wK5 cx hEL T11.heap n0 Ol11 x_11 b1 k1 nw c_2 c_4 c_6 c_8 F11_8 hN pq11_0) hZ11 (own_w hw 117 rfl) (own_w hw 4 rfl) (by decide) (by decide)) (g := (mkF m 109 #[vI p1, vI p2, vI p3, vI p4, vI p5, vI nw, vR b1, vR x_10, vR x_11] [(.int 2), (.int nw), (.ref b1), (.ref x_11)])) rfl (by rw [hml]; rfl) (argsL := [(.ref x_11), (.ref b1), (.int nw), (.int 2)]) (rest := []) (lenOf pd_35498350 rfl) rfl (Nat.le_of_eq rfl) (hb hby at_109) (fun _ _ => ⟨rfl, eq15, (by decide : 17 + 0 ≤ _), (by decide : 61 + 0 ≤ _)⟩)
  dsimp only [Pt.U, Pt.locs, Pt.cells, Pt.slots] at X16 l16 y16 z16 st16 hQ16
  subst l16 y16 z16
  obtain ⟨rfl, Nq16, eq16⟩ := hQ16
  refine og T16 m 112 #[vI p1, vI p2, vI p3, vI p4, vI p5, vI nw, vR b1, vR x_10, vR x_11] [(.int 1)] st16 ?_
  have N16 := Fr.app N15 Nq16
  refine og T16 m 122 #[vI p1, vI p2, vI p3, vI p4, vI p5, vI nw, vR b1, vR x_10, vR x_11] [(.int 3), (.int nw), (.ref b1), (.ref x_11)] (fun tgt kgo => ?_) ?_
  · refine XS.ifNo X16.here hx rfl (hb hby at_112) rfl ((if0 _ _).trans (feq (by decide : ¬ ((1 : Int32) = (0 : Int32)))).1) ?_
    refine XS.aload X16.here hx rfl (hb hby at_115) rfl rfl ?_
    refine XS.aload X16.here hx rfl (hb hby at_117) rfl rfl ?_
    show OwnG p e below T16 m 119 #[vI p1, vI p2, vI p3, vI p4, vI p5, vI nw, vR b1, vR x_10, vR x_11] [(.ref b1), (.ref x_11)] tgt
    refine XS.iload X16.here hx rfl (hb hby at_119) rfl ?_
    refine XS.iconst X16.here hx rfl (hb hby at_121) ?_
    exact kgo
  obtain ⟨_, _, ⟨T17, L17, k17, n17⟩, -, X17, ⟨Lc17, hQ17, l17, y17, z17⟩, st17⟩ := Jvm.LawKit.callS X16 hx (y := mN43) ho11 (mvT hZ11 (own_w hw 115 rfl)) (mvT hZ11 (own_w hw 116 rfl)) (mvT hZ11 (own_w hw 4 rfl)) (mvT hZ11 (own_w hw 117 rfl)) (by decide) (backOf (W := 0) (rm_cok_3 l Z a0 hw [] wG1 wG3 wG5 wK5 cx hEL T11.heap n0 Ol11 x_11 b1 k1 nw c_2 c_4 c_6 c_8 F11_8 hN pq11_0) hZ11 (own_w hw 117 rfl) (own_w hw 4 rfl) (by decide) (by decide)) (g := (mkF m 122 #[vI p1, vI p2, vI p3, vI p4, vI p5, vI nw, vR b1, vR x_10, vR x_11] [(.int 3), (.int nw), (.ref b1), (.ref x_11)])) rfl (by rw [hml]; rfl) (argsL := [(.ref x_11), (.ref b1), (.int nw), (.int 3)]) (rest := []) (lenOf pd_35498350 rfl) rfl (Nat.le_of_eq rfl) (hb hby at_122) (fun _ _ => ⟨rfl, eq16, (by decide : 17 + 0 ≤ _), (by decide : 61 + 0 ≤ _)⟩)
  dsimp only [Pt.U, Pt.locs, Pt.cells, Pt.slots] at X17 l17 y17 z17 st17 hQ17
  subst l17 y17 z17
  obtain ⟨rfl, Nq17, eq17⟩ := hQ17
  refine og T17 m 125 #[vI p1, vI p2, vI p3, vI p4, vI p5, vI nw, vR b1, vR x_10, vR x_11] [(.int 1)] st17 ?_
  have N17 := Fr.app N16 Nq17
  refine og T17 m 135 #[vI p1, vI p2, vI p3, vI p4, vI p5, vI nw, vR b1, vR x_10, vR x_11] [(.int 0), (.int nw), (.ref b1), (.ref x_11)] (fun tgt kgo => ?_) ?_
  · refine XS.ifNo X17.here hx rfl (hb hby at_125) rfl ((if0 _ _).trans (feq (by decide : ¬ ((1 : Int32) = (0 : Int32)))).1) ?_
    refine XS.aload X17.here hx rfl (hb hby at_128) rfl rfl ?_
    refine XS.aload X17.here hx rfl (hb hby at_130) rfl rfl ?_
    show OwnG p e below T17 m 132 #[vI p1, vI p2, vI p3, vI p4, vI p5, vI nw, vR b1, vR x_10, vR x_11] [(.ref b1), (.ref x_11)] tgt
    refine XS.iload X17.here hx rfl (hb hby at_132) rfl ?_
    refine XS.iconst X17.here hx rfl (hb hby at_134) ?_
    exact kgo
  obtain ⟨_, _, ⟨T18, L18, k18, n18⟩, -, X18, ⟨Lc18, hQ18, l18, y18, z18⟩, st18⟩ := Jvm.LawKit.callS X17 hx (y := mN46) ho11 (mvT hZ11 (own_w hw 118 rfl)) (mvT hZ11 (own_w hw 119 rfl)) (mvT hZ11 (own_w hw 4 rfl)) (mvT hZ11 (own_w hw 120 rfl)) (by decide) (backOf (W := 0) (rm_lok l Z a0 hw [] wG1 wG3 wG5 wK5 cx hEL T11.heap n0 Ol11 x_11 0 b1 k1 nw c_2 c_4 c_6 c_8 F11_8 hN pq11_0 (by decide)) hZ11 (own_w hw 120 rfl) (own_w hw 4 rfl) (by decide) (by decide)) (g := (mkF m 135 #[vI p1, vI p2, vI p3, vI p4, vI p5, vI nw, vR b1, vR x_10, vR x_11] [(.int 0), (.int nw), (.ref b1), (.ref x_11)])) rfl (by rw [hml]; rfl) (argsL := [(.ref x_11), (.ref b1), (.int nw), (.int 0)]) (rest := []) (lenOf pd_35498350 rfl) rfl (Nat.le_of_eq rfl) (hb hby at_135) (fun _ _ => ⟨rfl, eq17, (by decide : 17 + 0 ≤ _), (by decide : 61 + 0 ≤ _)⟩)
  dsimp only [Pt.U, Pt.locs, Pt.cells, Pt.slots] at X18 l18 y18 z18 st18 hQ18
  subst l18 y18 z18
  obtain ⟨rfl, Nq18, eq18⟩ := hQ18
  refine og T18 m 138 #[vI p1, vI p2, vI p3, vI p4, vI p5, vI nw, vR b1, vR x_10, vR x_11] [(.int 1)] st18 ?_
  have N18 := Fr.app N17 Nq18
  refine og T18 m 148 #[vI p1, vI p2, vI p3, vI p4, vI p5, vI nw, vR b1, vR x_10, vR x_11] [(.int 1), (.int nw), (.ref b1), (.ref x_11)] (fun tgt kgo => ?_) ?_
  · refine XS.ifNo X18.here hx rfl (hb hby at_138) rfl ((if0 _ _).trans (feq (by decide : ¬ ((1 : Int32) = (0 : Int32)))).1) ?_
    refine XS.aload X18.here hx rfl (hb hby at_141) rfl rfl ?_
    refine XS.aload X18.here hx rfl (hb hby at_143) rfl rfl ?_
    show OwnG p e below T18 m 145 #[vI p1, vI p2, vI p3, vI p4, vI p5, vI nw, vR b1, vR x_10, vR x_11] [(.ref b1), (.ref x_11)] tgt
    refine XS.iload X18.here hx rfl (hb hby at_145) rfl ?_
    refine XS.iconst X18.here hx rfl (hb hby at_147) ?_
    exact kgo
  obtain ⟨_, _, ⟨T19, L19, k19, n19⟩, -, X19, ⟨Lc19, hQ19, l19, y19, z19⟩, st19⟩ := Jvm.LawKit.callS X18 hx (y := mN46) ho11 (mvT hZ11 (own_w hw 118 rfl)) (mvT hZ11 (own_w hw 119 rfl)) (mvT hZ11 (own_w hw 4 rfl)) (mvT hZ11 (own_w hw 120 rfl)) (by decide) (backOf (W := 0) (rm_lok l Z a0 hw [] wG1 wG3 wG5 wK5 cx hEL T11.heap n0 Ol11 x_11 1 b1 k1 nw c_2 c_4 c_6 c_8 F11_8 hN pq11_0 (by decide)) hZ11 (own_w hw 120 rfl) (own_w hw 4 rfl) (by decide) (by decide)) (g := (mkF m 148 #[vI p1, vI p2, vI p3, vI p4, vI p5, vI nw, vR b1, vR x_10, vR x_11] [(.int 1), (.int nw), (.ref b1), (.ref x_11)])) rfl (by rw [hml]; rfl) (argsL := [(.ref x_11), (.ref b1), (.int nw), (.int 1)]) (rest := []) (lenOf pd_35498350 rfl) rfl (Nat.le_of_eq rfl) (hb hby at_148) (fun _ _ => ⟨rfl, eq18, (by decide : 17 + 0 ≤ _), (by decide : 61 + 0 ≤ _)⟩)
  dsimp only [Pt.U, Pt.locs, Pt.cells, Pt.slots] at X19 l19 y19 z19 st19 hQ19
  subst l19 y19 z19
  obtain ⟨rfl, Nq19, eq19⟩ := hQ19
  refine og T19 m 151 #[vI p1, vI p2, vI p3, vI p4, vI p5, vI nw, vR b1, vR x_10, vR x_11] [(.int 1)] st19 ?_
  have N19 := Fr.app N18 Nq19
  refine og T19 m 161 #[vI p1, vI p2, vI p3, vI p4, vI p5, vI nw, vR b1, vR x_10, vR x_11] [(.int 2), (.int nw), (.ref b1), (.ref x_11)] (fun tgt kgo => ?_) ?_
  · refine XS.ifNo X19.here hx rfl (hb hby at_151) rfl ((if0 _ _).trans (feq (by decide : ¬ ((1 : Int32) = (0 : Int32)))).1) ?_
    refine XS.aload X19.here hx rfl (hb hby at_154) rfl rfl ?_
    refine XS.aload X19.here hx rfl (hb hby at_156) rfl rfl ?_
    show OwnG p e below T19 m 158 #[vI p1, vI p2, vI p3, vI p4, vI p5, vI nw, vR b1, vR x_10, vR x_11] [(.ref b1), (.ref x_11)] tgt
    refine XS.iload X19.here hx rfl (hb hby at_158) rfl ?_
    refine XS.iconst X19.here hx rfl (hb hby at_160) ?_
    exact kgo
  obtain ⟨_, _, ⟨T20, L20, k20, n20⟩, -, X20, ⟨Lc20, hQ20, l20, y20, z20⟩, st20⟩ := Jvm.LawKit.callS X19 hx (y := mN46) ho11 (mvT hZ11 (own_w hw 118 rfl)) (mvT hZ11 (own_w hw 119 rfl)) (mvT hZ11 (own_w hw 4 rfl)) (mvT hZ11 (own_w hw 120 rfl)) (by decide) (backOf (W := 0) (rm_lok l Z a0 hw [] wG1 wG3 wG5 wK5 cx hEL T11.heap n0 Ol11 x_11 2 b1 k1 nw c_2 c_4 c_6 c_8 F11_8 hN pq11_0 (by decide)) hZ11 (own_w hw 120 rfl) (own_w hw 4 rfl) (by decide) (by decide)) (g := (mkF m 161 #[vI p1, vI p2, vI p3, vI p4, vI p5, vI nw, vR b1, vR x_10, vR x_11] [(.int 2), (.int nw), (.ref b1), (.ref x_11)])) rfl (by rw [hml]; rfl) (argsL := [(.ref x_11), (.ref b1), (.int nw), (.int 2)]) (rest := []) (lenOf pd_35498350 rfl) rfl (Nat.le_of_eq rfl) (hb hby at_161) (fun _ _ => ⟨rfl, eq19, (by decide : 17 + 0 ≤ _), (by decide : 61 + 0 ≤ _)⟩)
  dsimp only [Pt.U, Pt.locs, Pt.cells, Pt.slots] at X20 l20 y20 z20 st20 hQ20
  subst l20 y20 z20
  obtain ⟨rfl, Nq20, eq20⟩ := hQ20
  refine og T20 m 164 #[vI p1, vI p2, vI p3, vI p4, vI p5, vI nw, vR b1, vR x_10, vR x_11] [(.int 1)] st20 ?_
  have N20 := Fr.app N19 Nq20
  refine og T20 m 174 #[vI p1, vI p2, vI p3, vI p4, vI p5, vI nw, vR b1, vR x_10, vR x_11] [(.int 3), (.int nw), (.ref b1), (.ref x_11)] (fun tgt kgo => ?_) ?_
  · refine XS.ifNo X20.here hx rfl (hb hby at_164) rfl ((if0 _ _).trans (feq (by decide : ¬ ((1 : Int32) = (0 : Int32)))).1) ?_
    refine XS.aload X20.here hx rfl (hb hby at_167) rfl rfl ?_
    refine XS.aload X20.here hx rfl (hb hby at_169) rfl rfl ?_
    show OwnG p e below T20 m 171 #[vI p1, vI p2, vI p3, vI p4, vI p5, vI nw, vR b1, vR x_10, vR x_11] [(.ref b1), (.ref x_11)] tgt
    refine XS.iload X20.here hx rfl (hb hby at_171) rfl ?_
    refine XS.iconst X20.here hx rfl (hb hby at_173) ?_
    exact kgo
  obtain ⟨_, _, ⟨T21, L21, k21, n21⟩, -, X21, ⟨Lc21, hQ21, l21, y21, z21⟩, st21⟩ := Jvm.LawKit.callS X20 hx (y := mN46) ho11 (mvT hZ11 (own_w hw 118 rfl)) (mvT hZ11 (own_w hw 119 rfl)) (mvT hZ11 (own_w hw 4 rfl)) (mvT hZ11 (own_w hw 120 rfl)) (by decide) (backOf (W := 0) (rm_lok l Z a0 hw [] wG1 wG3 wG5 wK5 cx hEL T11.heap n0 Ol11 x_11 3 b1 k1 nw c_2 c_4 c_6 c_8 F11_8 hN pq11_0 (by decide)) hZ11 (own_w hw 120 rfl) (own_w hw 4 rfl) (by decide) (by decide)) (g := (mkF m 174 #[vI p1, vI p2, vI p3, vI p4, vI p5, vI nw, vR b1, vR x_10, vR x_11] [(.int 3), (.int nw), (.ref b1), (.ref x_11)])) rfl (by rw [hml]; rfl) (argsL := [(.ref x_11), (.ref b1), (.int nw), (.int 3)]) (rest := []) (lenOf pd_35498350 rfl) rfl (Nat.le_of_eq rfl) (hb hby at_174) (fun _ _ => ⟨rfl, eq20, (by decide : 17 + 0 ≤ _), (by decide : 61 + 0 ≤ _)⟩)
  dsimp only [Pt.U, Pt.locs, Pt.cells, Pt.slots] at X21 l21 y21 z21 st21 hQ21
  subst l21 y21 z21
  obtain ⟨rfl, Nq21, eq21⟩ := hQ21
  refine og T21 m 177 #[vI p1, vI p2, vI p3, vI p4, vI p5, vI nw, vR b1, vR x_10, vR x_11] [(.int 1)] st21 ?_
  have N21 := Fr.app N20 Nq21
  refine og T21 m 185 #[vI p1, vI p2, vI p3, vI p4, vI p5, vI nw, vR b1, vR x_10, vR x_11] [(.int 1)] (fun tgt kgo => ?_) ?_
  · refine XS.ifNo X21.here hx rfl (hb hby at_177) rfl ((if0 _ _).trans (feq (by decide : ¬ ((1 : Int32) = (0 : Int32)))).1) ?_
    refine XS.iconst X21.here hx rfl (hb hby at_180) ?_
    refine XS.goto X21.here hx rfl (pc0 := 181) (pc' := 185) rfl (hb hby at_181) (by decide) (by decide) ?_
    exact kgo
  refine own_leaveW (Z := Z) (EL := consts_1) X21 hS11 (eq21 ▸ (Nat.le_refl _)) hlk (v := some (.int 1)) (fun h => by rw [Bd.returns] at h; cases h) (fun fs hr => retN X21 hx (t := .boolean) Bd.returns (by simp) (hb hby at_185) (by rw [(by decide : nar .boolean (1 : Int32) = (1 : Int32))]; exact hr)) (by decide) (by decide) ?_ ?_
  · rw [hh, eq21]
    exact R11.trans (CHv.at X21 hZ11 hEL R11.1)
  show Q_law Z p1 p2 p3 p4 p5 h0 n0 _ T21.heap _
  rw [eq21]
  exact ⟨rfl, N21⟩
set_option maxRecDepth 65536 in
set_option maxHeartbeats 40000000 in
theorem comes_1 {Post : Tables → Env → Array Value → State → Outcome → State → Prop} (hpost : ∀ tb e args s v u, (limb_1_1.after args s (.returned v) u = true ∧ limb_1_2.after args s (.returned v) u = true ∧ True) → ReturnedEndW s (.returned v) u (Jvm.fieldLocs frame_1_writes args s ++ Jvm.arrayLocs frame_1_arrays args s ++ Jvm.staticLocs frame_1_statics s) 32 2240 → Post tb e args s (.returned v) u) :
    ArmFor flags0 classFile x code maxLocals ret World_1 tables_1 room_1 Calls_1 rest_1 Pre_1 Post := by
  intro l hfl _ _ p e ha hc hk s m args below hf hA hF happ hP
  obtain ⟨hcalls, hrest, hpre⟩ := hP
  obtain ⟨-, -, -, hnamed, -, -, -, hat⟩ := (Spec.applies_iff hf).mp happ
  obtain ⟨hg, hn⟩ := and_e (Cond.before_iff.mp (show (Jvm.Cond.and given_1 narrow_1).before args s = true from hpre))
  obtain ⟨gc, gr0⟩ := and_e hg
  obtain ⟨ga0, gr1⟩ := and_e gr0
  obtain ⟨ga1, gr2⟩ := and_e gr1
  obtain ⟨ga2, gr3⟩ := and_e gr2
  obtain ⟨ga3, gr4⟩ := and_e gr3
  obtain ⟨w0, w1, w2, w3, w4, rfl⟩ : ∃ w0 w1 w2 w3 w4 : Value, args = #[w0, w1, w2, w3, w4] := by
    have hs : args.size = 5 := by simpa [Cond.value, given_1] using gc
    obtain ⟨L⟩ := args
    match L, hs with
    | [w0, w1, w2, w3, w4], _ => exact ⟨w0, w1, w2, w3, w4, rfl⟩
  have hw := fun d (hd : d ∈ tables_1) => atoms_spec (ws := Jvm.Cond.code x code maxLocals ret :: tables_1) hat d (List.mem_cons_of_mem _ hd)
  have hfit : Fit s := fun {y c} hc i hi => by
    obtain ⟨ha, rfl⟩ := Array.getElem?_eq_some_iff.mp hc
    have q := List.all_eq_true.mp ((Array.all_eq_true_iff_forall_mem.mp hF) _ (Array.getElem_mem ha)) i (List.mem_range.mpr hi)
    simpa [Array.getElem?_eq_getElem hi] using q
  obtain ⟨hsets, hown0⟩ := atoms_of _ (rest_1_c_eq ▸ (show rest_1_c.before _ s = true from hrest))
  obtain ⟨i0, ei0⟩ := is_v ga0
  obtain rfl : w0 = (.int i0) := Option.some.inj ei0
  obtain ⟨i1, ei1⟩ := is_v ga1
  obtain rfl : w1 = (.int i1) := Option.some.inj ei1
  obtain ⟨i2, ei2⟩ := is_v ga2
  obtain rfl : w2 = (.int i2) := Option.some.inj ei2
  obtain ⟨i3, ei3⟩ := is_v ga3
  obtain rfl : w3 = (.int i3) := Option.some.inj ei3
  obtain ⟨i4, ei4⟩ := is_v gr4
  obtain rfl : w4 = (.int i4) := Option.some.inj ei4
  obtain ⟨wG1, e10⟩ := is_v (Cond.before_iff.mp (hsets _ (List.mem_of_getElem? (i := 10) rfl)))
  have wO2 : Sta s s.heap "java/lang/String" "COMPACT_STRINGS" "Z" (.int wG1) := Sta.start e10 (Or.inl (hsets _ (List.mem_of_getElem? (i := 9) rfl)))
  have wP5 : ¬ (wG1 = (0 : Int32)) := gotF (Cond.eq_ints e10 (Term.int_eval (0))) (not_v (Cond.before_iff.mp (hsets _ (List.mem_of_getElem? (i := 11) rfl))))
  obtain ⟨wG3, e14, wrG3⟩ := isR_v (Cond.before_iff.mp (hsets _ (List.mem_of_getElem? (i := 17) rfl)))
  have wO4 : Sta s s.heap "jdk/internal/util/Preconditions" "SIOOBE_FORMATTER" "Ljava/util/function/BiFunction;" wG3 := Sta.start e14 (Or.inl (hsets _ (List.mem_of_getElem? (i := 16) rfl)))
  have hstr : ∀ a ∈ Bundle.stringAtoms, a.before _ s = true := fun d hd => hw d ((by decide +kernel : ∀ d ∈ Bundle.stringAtoms, d ∈ tables_1) d hd)
  obtain ⟨wG5, _, cl5, _, e50, -, -, -, -, -, -⟩ := Cond.exactly_spec (hsets _ (List.mem_of_getElem? (i := 7) rfl))
  have wO5 : Sta s s.heap "java/util/ArrayList" "DEFAULTCAPACITY_EMPTY_ELEMENTDATA" "[Ljava/lang/Object;" (.ref wG5) := Sta.start e50 (Or.inr ⟨(own_w hw 36 rfl), (hsets _ (List.mem_of_getElem? (i := 2) rfl))⟩)
  obtain ⟨wK5, wV5⟩ := own_arv0 hfit e50 (Cond.before_iff.mp (hsets _ (List.mem_of_getElem? (i := 6) rfl))) (Cond.before_iff.mp (hsets _ (List.mem_of_getElem? (i := 8) rfl)))
  have hEL : EW s #[(.int i0), (.int i1), (.int i2), (.int i3), (.int i4)] consts_1 := (EW.cons (own_w hw 22 rfl) (by decide) (EW.cons (own_w hw 239 rfl) (by decide) EW.nil))
  have hcw : Jvm.Lit.compactW.before _ s = true := (hsets _ (List.mem_of_getElem? (i := 11) rfl))
  have hH : CHv s consts_1 s.vm s.heap := CHv.start hEL (fun p hp => hcalls.1 p hp) hcw (hstr _ (by simp [Bundle.stringAtoms])) (hstr _ (by simp [Bundle.stringAtoms, Bundle.sN]))
  obtain ⟨n, o, h1, h2, h3, _, L, rfl, ⟨rfl, N⟩, -, hq⟩ := rm_law l s _ hw tables_1 wG1 wG3 wG5 wK5 ⟨wO2, wP5, wO4, wrG3, hstr, wO5, wV5⟩ hEL s.heap s.heap.size (Old.start s) i0 i1 i2 i3 i4 p e ha hc hk s m _ below hf ((Spec.applies_iff_loose hf).mp happ).1 ⟨rfl, State.Warmed39.refl s, rfl, hH⟩ trivial
  refine ⟨n, _, h1, h2, h3, hpost _ _ _ _ _ _ ⟨Cond.after_iff.mpr rfl, Cond.after_iff.mpr (eq_i res_at (Term.int_eval (1)) rfl), trivial⟩ ⟨hq.1, hq.2.1, hq.2.2.1, (hq.2.2.2.sift fun y hy => Or.inr (N y hy)).mono (by decide) (by decide)⟩⟩
theorem main_1_1 : Claimed_1_1 := comes_1 fun _ _ _ _ _ _ h hF => ⟨h.1, hF⟩
theorem main_1_2 : Claimed_1_2 := comes_1 fun _ _ _ _ _ _ h hF => ⟨h.2.1, hF⟩
end Jvm.Pilot.@@N@@
namespace Jvm.Pilot.@@N@@
open Jvm Jvm.ClassFile Sem Op Lib Jvm.Free Jvm.Stand Jvm.Pilot.@@N@@.Jvm.D
/-! MADE BY PROGRAM (witnessworld.py) out of the Statement's table words and the real class files: 33 classes; the members and pool entries that the words name. The judged class is class 1, her method 9. -/
namespace start1
open Jvm.ClassFile
def u (s : String) : CpInfo := .utf8 (stringToUtf16 s)
/-- a pool by its gaps: so many unusable entries, then the entry; so many at the end -/
def gap : Nat → List CpInfo → List CpInfo
  | 0, r => r
  | n + 1, r => .unusable :: gap n r
def poolList (es : List (Nat × CpInfo)) (last : Nat) : List CpInfo := es.foldr (fun e r => gap e.1 (e.2 :: r)) (gap last [])
def pool (es : List (Nat × CpInfo)) (last : Nat) : Array CpInfo := ⟨poolList es last⟩
def fileOf (pool : Array CpInfo) (this : Nat) (attrs : Array Attribute := #[]) (ms : Array MethodInfo := #[]) (fl : Nat := 33) (sup : Nat := 0) (ifs : Array Nat := #[]) (fds : Array FieldInfo := #[]) : ClassFile where
  minorVersion := 0
  majorVersion := 65
  constantPool := pool
  accessFlags := fl
  thisClass := this
  superClass := sup
  interfaces := ifs
  fields := fds
  methods := ms
  attributes := attrs
def plain (name : String) (sup : Option ClassId) : Class where
  name := name
  kind := .ordinary
  loader := none
  accessFlags := 33
  super := sup
  interfaces := #[]
  cf := none
  fields := #[]
  methods := #[]
  instanceTypes := #[]
  staticTypes := #[]
  resolved := #[]
  callSites := []
  init := .initialized
  statics := none
  mirror := none

def pool0 : Array CpInfo := pool [(5, u "<init>"), (0, u "()V"), (1, .class_ 10), (1, u "java/lang/Object")] 113

def k0c0 : Code := { maxStack := 0, maxLocals := 1, code := object_method_1_code, exceptionTable := #[], attributes := #[] }
def k0m0 : Method := { name := "<init>", desc := "()V", sig := { parameters := [], returnType := none }, accessFlags := 1, code := some k0c0 }
/-- java/lang/Object -/
def k0 : Class := { plain "java/lang/Object" none with
  accessFlags := 33
  interfaces := #[]
  cf := some (fileOf pool0 8 #[] #[{ accessFlags := 1, nameIndex := 5, descriptorIndex := 6, attributes := #[] }] 33 0 #[] #[])
  fields := #[]
  methods := #[k0m0]
  instanceTypes := #[]
  staticTypes := #[]
  resolved := Array.replicate 124 none
  statics := none }

def pool1 : Array CpInfo := pool [(2, .class_ 4), (1, u "java/lang/Object"), (0, u "<init>"), (0, u "()V"), (0, .methodref 8 9), (0, .class_ 10), (0, .nameAndType 11 12), (0, u "com/example/kindling/kindling/web/PathTemplateSegmentsPinLaw"), (0, u "slash"), (0, u "([CII)Z"), (0, .methodref 8 14), (0, .nameAndType 15 16), (0, u "count"), (0, u "([CII)I"), (0, .methodref 8 18), (0, .nameAndType 19 16), (0, u "last"), (0, .interfaceMethodref 21 22), (0, .class_ 23), (0, .nameAndType 24 25), (0, u "java/util/List"), (0, u "size"), (0, u "()I"), (0, .interfaceMethodref 21 27), (0, .nameAndType 28 29), (0, u "get"), (0, u "(I)Ljava/lang/Object;"), (0, .class_ 31), (0, u "java/lang/String"), (0, .methodref 30 33), (0, .nameAndType 34 25), (0, u "length"), (0, .methodref 30 36), (0, .nameAndType 37 38), (0, u "charAt"), (0, u "(I)C"), (0, .methodref 8 40), (0, .nameAndType 41 42), (0, u "in"), (0, u "([CIII)I"), (0, .methodref 30 44), (0, .nameAndType 5 45), (0, u "([C)V"), (0, .integer 2147483647), (0, .methodref 8 48), (0, .nameAndType 49 38), (0, u "draw"), (0, .methodref 8 51), (0, .nameAndType 52 53), (0, u "make"), (0, u "([CI)Ljava/lang/String;"), (0, .methodref 55 56), (0, .class_ 57), (0, .nameAndType 58 59), (0, u "com/example/kindling/kindling/web/PathTemplate"), (0, u "segments"), (0, u "(Ljava/lang/String;)Ljava/util/List;"), (0, .methodref 8 61), (0, .nameAndType 62 63), (0, u "charOk"), (0, u "(Ljava/util/List;[CII)Z"), (0, .methodref 8 65), (0, .nameAndType 66 63), (0, u "lenOk"), (5, u "law"), (0, u "(IIIII)Z")] 4

def k1m0 : Method := { name := "<init>", desc := "()V", sig := { parameters := [], returnType := none }, accessFlags := 1, code := none }
def k1c1 : Code := { maxStack := 2, maxLocals := 1, code := method_2_code, exceptionTable := #[], attributes := #[] }
def k1m1 : Method := { name := "draw", desc := "(I)C", sig := { parameters := [.int], returnType := some .char }, accessFlags := 10, code := some k1c1 }
def k1c2 : Code := { maxStack := 2, maxLocals := 3, code := method_3_code, exceptionTable := #[], attributes := #[] }
def k1m2 : Method := { name := "slash", desc := "([CII)Z", sig := { parameters := [(.array .char), .int, .int], returnType := some .boolean }, accessFlags := 10, code := some k1c2 }
def k1c3 : Code := { maxStack := 3, maxLocals := 4, code := method_4_code, exceptionTable := #[], attributes := #[] }
def k1m3 : Method := { name := "count", desc := "([CII)I", sig := { parameters := [(.array .char), .int, .int], returnType := some .int }, accessFlags := 10, code := some k1c3 }
def k1c4 : Code := { maxStack := 3, maxLocals := 3, code := method_5_code, exceptionTable := #[], attributes := #[] }
def k1m4 : Method := { name := "last", desc := "([CII)I", sig := { parameters := [(.array .char), .int, .int], returnType := some .int }, accessFlags := 10, code := some k1c4 }
def k1c5 : Code := { maxStack := 3, maxLocals := 4, code := method_6_code, exceptionTable := #[], attributes := #[] }
def k1m5 : Method := { name := "in", desc := "([CIII)I", sig := { parameters := [(.array .char), .int, .int, .int], returnType := some .int }, accessFlags := 10, code := some k1c5 }
def k1c6 : Code := { maxStack := 4, maxLocals := 7, code := method_7_code, exceptionTable := #[], attributes := #[] }
def k1m6 : Method := { name := "charOk", desc := "(Ljava/util/List;[CII)Z", sig := { parameters := [(.object "java/util/List"), (.array .char), .int, .int], returnType := some .boolean }, accessFlags := 10, code := some k1c6 }
def k1c7 : Code := { maxStack := 6, maxLocals := 4, code := method_8_code, exceptionTable := #[], attributes := #[] }
def k1m7 : Method := { name := "lenOk", desc := "(Ljava/util/List;[CII)Z", sig := { parameters := [(.object "java/util/List"), (.array .char), .int, .int], returnType := some .boolean }, accessFlags := 10, code := some k1c7 }
def k1c8 : Code := { maxStack := 7, maxLocals := 2, code := method_9_code, exceptionTable := #[], attributes := #[] }
def k1m8 : Method := { name := "make", desc := "([CI)Ljava/lang/String;", sig := { parameters := [(.array .char), .int], returnType := some (.object "java/lang/String") }, accessFlags := 10, code := some k1c8 }
def k1c9 : Code := { maxStack := 4, maxLocals := 9, code := code, exceptionTable := #[], attributes := #[] }
def k1m9 : Method := { name := "law", desc := "(IIIII)Z", sig := { parameters := [.int, .int, .int, .int, .int], returnType := some .boolean }, accessFlags := 9, code := some k1c9 }
/-- com/example/kindling/kindling/web/PathTemplateSegmentsPinLaw -/
def k1 : Class := { plain "com/example/kindling/kindling/web/PathTemplateSegmentsPinLaw" (some 0) with
  accessFlags := 49
  interfaces := #[]
  cf := some (fileOf pool1 8 #[] #[{ accessFlags := 1, nameIndex := 5, descriptorIndex := 6, attributes := #[] }, { accessFlags := 10, nameIndex := 49, descriptorIndex := 38, attributes := #[] }, { accessFlags := 10, nameIndex := 11, descriptorIndex := 12, attributes := #[] }, { accessFlags := 10, nameIndex := 15, descriptorIndex := 16, attributes := #[] }, { accessFlags := 10, nameIndex := 19, descriptorIndex := 16, attributes := #[] }, { accessFlags := 10, nameIndex := 41, descriptorIndex := 42, attributes := #[] }, { accessFlags := 10, nameIndex := 62, descriptorIndex := 63, attributes := #[] }, { accessFlags := 10, nameIndex := 66, descriptorIndex := 63, attributes := #[] }, { accessFlags := 10, nameIndex := 52, descriptorIndex := 53, attributes := #[] }, { accessFlags := 9, nameIndex := 72, descriptorIndex := 73, attributes := #[] }] 49 2 #[] #[])
  fields := #[]
  methods := #[k1m0, k1m1, k1m2, k1m3, k1m4, k1m5, k1m6, k1m7, k1m8, k1m9]
  instanceTypes := #[]
  staticTypes := #[]
  resolved := Array.replicate 78 none
  statics := none }

def pool2 : Array CpInfo := pool [(1, .class_ 2), (0, u "java/io/Serializable"), (0, .class_ 4), (0, u "java/lang/Object")] 2

/-- java/io/Serializable -/
def k2 : Class := { plain "java/io/Serializable" (some 0) with
  accessFlags := 1537
  interfaces := #[]
  cf := some (fileOf pool2 1 #[] #[] 1537 3 #[] #[])
  fields := #[]
  methods := #[]
  instanceTypes := #[]
  staticTypes := #[]
  resolved := Array.replicate 7 none
  statics := none }

def pool3 : Array CpInfo := pool [(1, .class_ 2), (0, u "java/lang/Comparable"), (0, .class_ 4), (0, u "java/lang/Object")] 7

/-- java/lang/Comparable -/
def k3 : Class := { plain "java/lang/Comparable" (some 0) with
  accessFlags := 1537
  interfaces := #[]
  cf := some (fileOf pool3 1 #[] #[] 1537 3 #[] #[])
  fields := #[]
  methods := #[]
  instanceTypes := #[]
  staticTypes := #[]
  resolved := Array.replicate 12 none
  statics := none }

def pool4 : Array CpInfo := pool [(2, .class_ 4), (1, u "java/lang/CharSequence"), (42, .class_ 48), (0, u "java/lang/CharSequence$1CodePointIterator"), (10, .class_ 60), (0, u "java/lang/CharSequence$1CharIterator"), (5, .class_ 67), (0, u "java/lang/Object")] 63

/-- java/lang/CharSequence -/
def k4 : Class := { plain "java/lang/CharSequence" (some 0) with
  accessFlags := 1537
  interfaces := #[]
  cf := some (fileOf pool4 2 #[.nestMembers #[47, 59]] #[] 1537 66 #[] #[])
  fields := #[]
  methods := #[]
  instanceTypes := #[]
  staticTypes := #[]
  resolved := Array.replicate 131 none
  statics := none }

def pool5 : Array CpInfo := pool [(1, .class_ 2), (0, u "java/lang/constant/Constable"), (0, .class_ 4), (0, u "java/lang/Object")] 6

/-- java/lang/constant/Constable -/
def k5 : Class := { plain "java/lang/constant/Constable" (some 0) with
  accessFlags := 1537
  interfaces := #[]
  cf := some (fileOf pool5 1 #[] #[] 1537 3 #[] #[])
  fields := #[]
  methods := #[]
  instanceTypes := #[]
  staticTypes := #[]
  resolved := Array.replicate 11 none
  statics := none }

def pool6 : Array CpInfo := pool [(1, .class_ 2), (0, u "java/lang/constant/ConstantDesc"), (0, .class_ 4), (0, u "java/lang/Object")] 32

/-- java/lang/constant/ConstantDesc -/
def k6 : Class := { plain "java/lang/constant/ConstantDesc" (some 0) with
  accessFlags := 1537
  interfaces := #[]
  cf := some (fileOf pool6 1 #[] #[] 1537 3 #[] #[])
  fields := #[]
  methods := #[]
  instanceTypes := #[]
  staticTypes := #[]
  resolved := Array.replicate 37 none
  statics := none }

def pool7 : Array CpInfo := pool [(1, .methodref 2 3), (0, .class_ 4), (0, .nameAndType 5 6), (0, u "java/lang/Object"), (0, u "<init>"), (0, u "()V"), (0, .string 8), (0, u ""), (0, .fieldref 10 11), (0, .class_ 12), (0, .nameAndType 13 14), (0, u "java/lang/String"), (0, u "value"), (0, u "[B"), (0, .fieldref 10 16), (0, .nameAndType 17 18), (0, u "coder"), (0, u "B"), (2, u "hash"), (0, u "I"), (2, u "hashIsZero"), (0, u "Z"), (0, .methodref 10 28), (0, .nameAndType 5 29), (0, u "([CIILjava/lang/Void;)V"), (8, .fieldref 10 39), (0, .nameAndType 40 26), (0, u "COMPACT_STRINGS"), (1, .class_ 44), (1, u "java/lang/StringUTF16"), (0, u "compress"), (1, .methodref 42 48), (0, .nameAndType 49 50), (0, u "coderFromArrayLen"), (0, u "([BI)B"), (56, .class_ 109), (1, u "java/lang/StringLatin1"), (32, u "()Z"), (34, .methodref 42 178), (0, .nameAndType 45 179), (0, u "([CII)[B"), (31, u "([BB)V"), (122, u "()I"), (0, .methodref 10 336), (0, .nameAndType 17 337), (0, u "()B"), (25, u "([BI)C"), (27, u "(II)V"), (35, u "(I)C"), (64, .methodref 10 493), (0, .nameAndType 494 142), (0, u "isLatin1"), (0, .methodref 107 496), (0, .nameAndType 497 363), (0, u "charAt"), (3, u "checkIndex"), (3, .methodref 10 506), (0, .nameAndType 507 334), (0, u "length"), (5, u "checkFromToIndex"), (7, .methodref 10 522), (0, .nameAndType 523 524), (0, u "checkBoundsBeginEnd"), (0, u "(III)V"), (50, .class_ 576), (0, u "java/lang/CharSequence"), (22, u "CASE_INSENSITIVE_ORDER"), (0, u "Ljava/util/Comparator;"), (32, .methodref 10 634), (0, .nameAndType 635 636), (0, u "indexOf"), (0, u "(II)I"), (0, .methodref 107 638), (0, .nameAndType 635 639), (0, u "([BIII)I"), (43, u "substring"), (0, u "(II)Ljava/lang/String;"), (0, .methodref 107 686), (0, .nameAndType 687 688), (0, u "newString"), (0, u "([BII)Ljava/lang/String;"), (76, u "(I)I"), (244, u "([C)V"), (42, .fieldref 1054 1055), (0, .class_ 1056), (0, .nameAndType 1057 1058), (0, u "jdk/internal/util/Preconditions"), (0, u "SIOOBE_FORMATTER"), (0, u "Ljava/util/function/BiFunction;"), (0, .methodref 1054 1060), (0, .nameAndType 501 1061), (0, u "(IILjava/util/function/BiFunction;)I"), (0, .methodref 1054 1063), (0, .nameAndType 513 1064), (0, u "(IIILjava/util/function/BiFunction;)I"), (36, u "serialPersistentFields"), (0, u "[Ljava/io/ObjectStreamField;"), (0, .class_ 1104), (0, u "java/lang/String$CaseInsensitiveComparator"), (1, .class_ 1107), (0, u "java/io/Serializable"), (0, .class_ 1109), (0, u "java/lang/Comparable"), (0, .class_ 1111), (0, u "java/lang/constant/Constable"), (0, .class_ 1113), (0, u "java/lang/constant/ConstantDesc"), (2, u "serialVersionUID"), (0, u "J"), (3, u "REPL"), (0, u "C"), (2, u "LATIN1"), (1, u "UTF16")] 323

def k7m0 : Method := { name := "<init>", desc := "()V", sig := { parameters := [], returnType := none }, accessFlags := 1, code := none }
def k7c1 : Code := { maxStack := 5, maxLocals := 2, code := jdk_42_method_3_code, exceptionTable := #[], attributes := #[] }
def k7m1 : Method := { name := "<init>", desc := "([C)V", sig := { parameters := [(.array .char)], returnType := none }, accessFlags := 1, code := some k7c1 }
def k7c2 : Code := { maxStack := 2, maxLocals := 1, code := jdk_42_method_54_code, exceptionTable := #[], attributes := #[] }
def k7m2 : Method := { name := "length", desc := "()I", sig := { parameters := [], returnType := some .int }, accessFlags := 1, code := some k7c2 }
def k7c3 : Code := { maxStack := 2, maxLocals := 2, code := jdk_42_method_56_code, exceptionTable := #[], attributes := #[] }
def k7m3 : Method := { name := "charAt", desc := "(I)C", sig := { parameters := [.int], returnType := some .char }, accessFlags := 1, code := some k7c3 }
def k7c4 : Code := { maxStack := 3, maxLocals := 2, code := jdk_42_method_79_code, exceptionTable := #[], attributes := #[] }
def k7m4 : Method := { name := "indexOf", desc := "(I)I", sig := { parameters := [.int], returnType := some .int }, accessFlags := 1, code := some k7c4 }
def k7c5 : Code := { maxStack := 4, maxLocals := 3, code := jdk_42_method_80_code, exceptionTable := #[], attributes := #[] }
def k7m5 : Method := { name := "indexOf", desc := "(II)I", sig := { parameters := [.int, .int], returnType := some .int }, accessFlags := 1, code := some k7c5 }
def k7c6 : Code := { maxStack := 3, maxLocals := 5, code := jdk_42_method_92_code, exceptionTable := #[], attributes := #[] }
def k7m6 : Method := { name := "substring", desc := "(II)Ljava/lang/String;", sig := { parameters := [.int, .int], returnType := some (.object "java/lang/String") }, accessFlags := 1, code := some k7c6 }
def k7c7 : Code := { maxStack := 4, maxLocals := 6, code := jdk_42_method_149_code, exceptionTable := #[], attributes := #[] }
def k7m7 : Method := { name := "<init>", desc := "([CIILjava/lang/Void;)V", sig := { parameters := [(.array .char), .int, .int, (.object "java/lang/Void")], returnType := none }, accessFlags := 2, code := some k7c7 }
def k7c8 : Code := { maxStack := 2, maxLocals := 3, code := jdk_42_method_151_code, exceptionTable := #[], attributes := #[] }
def k7m8 : Method := { name := "<init>", desc := "([BB)V", sig := { parameters := [(.array .byte), .byte], returnType := none }, accessFlags := 0, code := some k7c8 }
def k7c9 : Code := { maxStack := 1, maxLocals := 1, code := jdk_42_method_152_code, exceptionTable := #[], attributes := #[] }
def k7m9 : Method := { name := "coder", desc := "()B", sig := { parameters := [], returnType := some .byte }, accessFlags := 0, code := some k7c9 }
def k7c10 : Code := { maxStack := 1, maxLocals := 1, code := jdk_42_method_154_code, exceptionTable := #[], attributes := #[] }
def k7m10 : Method := { name := "isLatin1", desc := "()Z", sig := { parameters := [], returnType := some .boolean }, accessFlags := 0, code := some k7c10 }
def k7c11 : Code := { maxStack := 3, maxLocals := 2, code := jdk_42_method_155_code, exceptionTable := #[], attributes := #[] }
def k7m11 : Method := { name := "checkIndex", desc := "(II)V", sig := { parameters := [.int, .int], returnType := none }, accessFlags := 8, code := some k7c11 }
def k7c12 : Code := { maxStack := 4, maxLocals := 3, code := jdk_42_method_158_code, exceptionTable := #[], attributes := #[] }
def k7m12 : Method := { name := "checkBoundsBeginEnd", desc := "(III)V", sig := { parameters := [.int, .int, .int], returnType := none }, accessFlags := 8, code := some k7c12 }
/-- java/lang/String -/
def k7 : Class := { plain "java/lang/String" (some 0) with
  accessFlags := 49
  interfaces := #[2, 3, 4, 5, 6]
  cf := some (fileOf pool7 10 #[.nestMembers #[1103]] #[{ accessFlags := 1, nameIndex := 5, descriptorIndex := 6, attributes := #[] }, { accessFlags := 1, nameIndex := 5, descriptorIndex := 1010, attributes := #[] }, { accessFlags := 1, nameIndex := 507, descriptorIndex := 334, attributes := #[] }, { accessFlags := 1, nameIndex := 497, descriptorIndex := 427, attributes := #[] }, { accessFlags := 1, nameIndex := 635, descriptorIndex := 765, attributes := #[] }, { accessFlags := 1, nameIndex := 635, descriptorIndex := 636, attributes := #[] }, { accessFlags := 1, nameIndex := 683, descriptorIndex := 684, attributes := #[] }, { accessFlags := 2, nameIndex := 5, descriptorIndex := 29, attributes := #[] }, { accessFlags := 0, nameIndex := 5, descriptorIndex := 211, attributes := #[] }, { accessFlags := 0, nameIndex := 17, descriptorIndex := 337, attributes := #[] }, { accessFlags := 0, nameIndex := 494, descriptorIndex := 142, attributes := #[] }, { accessFlags := 8, nameIndex := 501, descriptorIndex := 391, attributes := #[] }, { accessFlags := 8, nameIndex := 523, descriptorIndex := 524, attributes := #[] }] 49 2 #[1106, 1108, 575, 1110, 1112] #[{ accessFlags := 18, nameIndex := 13, descriptorIndex := 14, attributes := #[] }, { accessFlags := 18, nameIndex := 17, descriptorIndex := 18, attributes := #[] }, { accessFlags := 2, nameIndex := 21, descriptorIndex := 22, attributes := #[] }, { accessFlags := 2, nameIndex := 25, descriptorIndex := 26, attributes := #[] }, { accessFlags := 26, nameIndex := 1116, descriptorIndex := 1117, attributes := #[] }, { accessFlags := 24, nameIndex := 40, descriptorIndex := 26, attributes := #[] }, { accessFlags := 26, nameIndex := 1101, descriptorIndex := 1102, attributes := #[] }, { accessFlags := 26, nameIndex := 1121, descriptorIndex := 1122, attributes := #[] }, { accessFlags := 25, nameIndex := 599, descriptorIndex := 600, attributes := #[] }, { accessFlags := 24, nameIndex := 1125, descriptorIndex := 18, attributes := #[] }, { accessFlags := 24, nameIndex := 1127, descriptorIndex := 18, attributes := #[] }])
  fields := #[{ name := "value", type := (.array .byte), accessFlags := 18, slot := 0, constantValue := 0 }, { name := "coder", type := .byte, accessFlags := 18, slot := 1, constantValue := 0 }, { name := "hash", type := .int, accessFlags := 2, slot := 2, constantValue := 0 }, { name := "hashIsZero", type := .boolean, accessFlags := 2, slot := 3, constantValue := 0 }, { name := "serialVersionUID", type := .long, accessFlags := 26, slot := 0, constantValue := 0 }, { name := "COMPACT_STRINGS", type := .boolean, accessFlags := 24, slot := 1, constantValue := 0 }, { name := "serialPersistentFields", type := (.array (.object "java/io/ObjectStreamField")), accessFlags := 26, slot := 2, constantValue := 0 }, { name := "REPL", type := .char, accessFlags := 26, slot := 3, constantValue := 0 }, { name := "CASE_INSENSITIVE_ORDER", type := (.object "java/util/Comparator"), accessFlags := 25, slot := 4, constantValue := 0 }, { name := "LATIN1", type := .byte, accessFlags := 24, slot := 5, constantValue := 0 }, { name := "UTF16", type := .byte, accessFlags := 24, slot := 6, constantValue := 0 }]
  methods := #[k7m0, k7m1, k7m2, k7m3, k7m4, k7m5, k7m6, k7m7, k7m8, k7m9, k7m10, k7m11, k7m12]
  instanceTypes := #[(.array .byte), .byte, .int, .boolean]
  staticTypes := #[.long, .boolean, (.array (.object "java/io/ObjectStreamField")), .char, (.object "java/util/Comparator"), .byte, .byte]
  resolved := Array.replicate 1451 none
  statics := some 0 }

def pool8 : Array CpInfo := pool [(2, .class_ 4), (0, .nameAndType 5 6), (0, u "java/lang/Object"), (0, u "<init>"), (0, u "()V"), (1, .class_ 10), (1, u "com/example/kindling/kindling/web/PathTemplate"), (0, u "text"), (0, u "Ljava/lang/String;"), (2, u "literals"), (0, u "Ljava/util/List;"), (2, u "variables"), (3, .class_ 25), (1, u "java/lang/String"), (9, .class_ 36), (0, u "java/util/ArrayList"), (0, .methodref 35 3), (2, u "segments"), (0, u "(Ljava/lang/String;)Ljava/util/List;"), (1, .class_ 45), (1, u "java/util/List"), (19, .methodref 23 66), (0, .nameAndType 67 68), (0, u "length"), (0, u "()I"), (0, .methodref 23 70), (0, .nameAndType 71 72), (0, u "substring"), (0, u "(II)Ljava/lang/String;"), (13, u "(Ljava/lang/Object;)Z"), (1, .interfaceMethodref 43 89), (0, .nameAndType 90 86), (0, u "add"), (3, .methodref 23 95), (0, .nameAndType 96 97), (0, u "indexOf"), (0, u "(I)I"), (28, .methodref 23 127), (0, .nameAndType 96 128), (0, u "(II)I"), (48, u "PRECEDENCE"), (0, u "Ljava/util/Comparator;")] 66

def k8c0 : Code := { maxStack := 4, maxLocals := 4, code := prog_40_method_8_code, exceptionTable := #[], attributes := #[] }
def k8m0 : Method := { name := "segments", desc := "(Ljava/lang/String;)Ljava/util/List;", sig := { parameters := [(.object "java/lang/String")], returnType := some (.object "java/util/List") }, accessFlags := 8, code := some k8c0 }
/-- com/example/kindling/kindling/web/PathTemplate -/
def k8 : Class := { plain "com/example/kindling/kindling/web/PathTemplate" (some 0) with
  accessFlags := 48
  interfaces := #[]
  cf := some (fileOf pool8 8 #[] #[{ accessFlags := 8, nameIndex := 40, descriptorIndex := 41, attributes := #[] }] 48 2 #[] #[{ accessFlags := 24, nameIndex := 177, descriptorIndex := 178, attributes := #[] }, { accessFlags := 18, nameIndex := 11, descriptorIndex := 12, attributes := #[] }, { accessFlags := 18, nameIndex := 15, descriptorIndex := 16, attributes := #[] }, { accessFlags := 18, nameIndex := 19, descriptorIndex := 16, attributes := #[] }])
  fields := #[{ name := "PRECEDENCE", type := (.object "java/util/Comparator"), accessFlags := 24, slot := 0, constantValue := 0 }, { name := "text", type := (.object "java/lang/String"), accessFlags := 18, slot := 0, constantValue := 0 }, { name := "literals", type := (.object "java/util/List"), accessFlags := 18, slot := 1, constantValue := 0 }, { name := "variables", type := (.object "java/util/List"), accessFlags := 18, slot := 2, constantValue := 0 }]
  methods := #[k8m0]
  instanceTypes := #[(.object "java/lang/String"), (.object "java/util/List"), (.object "java/util/List")]
  staticTypes := #[(.object "java/util/Comparator")]
  resolved := Array.replicate 245 none
  statics := none }

def pool9 : Array CpInfo := pool [(8, .class_ 10), (1, u "java/lang/Iterable"), (24, .class_ 36), (0, u "java/lang/Object")] 25

/-- java/lang/Iterable -/
def k9 : Class := { plain "java/lang/Iterable" (some 0) with
  accessFlags := 1537
  interfaces := #[]
  cf := some (fileOf pool9 8 #[] #[] 1537 35 #[] #[])
  fields := #[]
  methods := #[]
  instanceTypes := #[]
  staticTypes := #[]
  resolved := Array.replicate 62 none
  statics := none }

def pool10 : Array CpInfo := pool [(10, .class_ 12), (1, u "java/util/Collection"), (47, .class_ 61), (0, u "java/lang/Object"), (0, .class_ 63), (0, u "java/lang/Iterable")] 51

/-- java/util/Collection -/
def k10 : Class := { plain "java/util/Collection" (some 0) with
  accessFlags := 1537
  interfaces := #[9]
  cf := some (fileOf pool10 10 #[] #[] 1537 60 #[62] #[])
  fields := #[]
  methods := #[]
  instanceTypes := #[]
  staticTypes := #[]
  resolved := Array.replicate 115 none
  statics := none }

def pool11 : Array CpInfo := pool [(1, .methodref 2 3), (0, .class_ 4), (0, .nameAndType 5 6), (0, u "java/lang/Object"), (0, u "<init>"), (0, u "()V"), (1, .class_ 10), (1, u "java/util/AbstractCollection"), (66, .class_ 78), (0, u "java/util/Collection")] 81

def k11c0 : Code := { maxStack := 1, maxLocals := 1, code := jdk_22_method_1_code, exceptionTable := #[], attributes := #[] }
def k11m0 : Method := { name := "<init>", desc := "()V", sig := { parameters := [], returnType := none }, accessFlags := 4, code := some k11c0 }
/-- java/util/AbstractCollection -/
def k11 : Class := { plain "java/util/AbstractCollection" (some 0) with
  accessFlags := 1057
  interfaces := #[10]
  cf := some (fileOf pool11 8 #[] #[{ accessFlags := 4, nameIndex := 5, descriptorIndex := 6, attributes := #[] }] 1057 2 #[77] #[])
  fields := #[]
  methods := #[k11m0]
  instanceTypes := #[]
  staticTypes := #[]
  resolved := Array.replicate 160 none
  statics := none }

def pool12 : Array CpInfo := pool [(8, .class_ 10), (1, u "java/util/SequencedCollection"), (15, .class_ 27), (0, u "java/lang/Object"), (0, .class_ 29), (0, u "java/util/Collection")] 27

/-- java/util/SequencedCollection -/
def k12 : Class := { plain "java/util/SequencedCollection" (some 0) with
  accessFlags := 1537
  interfaces := #[10]
  cf := some (fileOf pool12 8 #[] #[] 1537 26 #[28] #[])
  fields := #[]
  methods := #[]
  instanceTypes := #[]
  staticTypes := #[]
  resolved := Array.replicate 57 none
  statics := none }

def pool13 : Array CpInfo := pool [(8, .class_ 10), (1, u "java/util/List"), (49, u "add"), (3, u "(Ljava/lang/Object;)Z"), (10, u "get"), (0, u "(I)Ljava/lang/Object;"), (2, u "size"), (0, u "()I"), (22, .class_ 104), (0, u "java/lang/Object"), (15, .class_ 121), (0, u "java/util/SequencedCollection")] 129

def k13m0 : Method := { name := "size", desc := "()I", sig := { parameters := [], returnType := some .int }, accessFlags := 1025, code := none }
def k13m1 : Method := { name := "add", desc := "(Ljava/lang/Object;)Z", sig := { parameters := [(.object "java/lang/Object")], returnType := some .boolean }, accessFlags := 1025, code := none }
def k13m2 : Method := { name := "get", desc := "(I)Ljava/lang/Object;", sig := { parameters := [.int], returnType := some (.object "java/lang/Object") }, accessFlags := 1025, code := none }
/-- java/util/List -/
def k13 : Class := { plain "java/util/List" (some 0) with
  accessFlags := 1537
  interfaces := #[12]
  cf := some (fileOf pool13 8 #[] #[{ accessFlags := 1025, nameIndex := 79, descriptorIndex := 80, attributes := #[] }, { accessFlags := 1025, nameIndex := 60, descriptorIndex := 64, attributes := #[] }, { accessFlags := 1025, nameIndex := 75, descriptorIndex := 76, attributes := #[] }] 1537 103 #[120] #[])
  fields := #[]
  methods := #[k13m0, k13m1, k13m2]
  instanceTypes := #[]
  staticTypes := #[]
  resolved := Array.replicate 251 none
  statics := none }

def pool14 : Array CpInfo := pool [(1, .methodref 2 3), (0, .class_ 4), (0, .nameAndType 5 6), (0, u "java/util/AbstractCollection"), (0, u "<init>"), (0, u "()V"), (0, .fieldref 8 9), (0, .class_ 10), (0, .nameAndType 11 12), (0, u "java/util/AbstractList"), (0, u "modCount"), (0, u "I"), (64, .class_ 78), (0, u "java/util/AbstractList$Itr"), (3, .class_ 83), (0, u "java/util/AbstractList$ListItr"), (9, .class_ 94), (0, u "java/util/AbstractList$RandomAccessSubList"), (3, .class_ 99), (0, u "java/util/AbstractList$SubList"), (33, .class_ 134), (0, u "java/util/List"), (73, .class_ 209), (0, u "java/util/AbstractList$SubList$1"), (0, .class_ 211), (0, u "java/util/AbstractList$RandomAccessSpliterator")] 6

def k14c0 : Code := { maxStack := 2, maxLocals := 1, code := jdk_39_method_1_code, exceptionTable := #[], attributes := #[] }
def k14m0 : Method := { name := "<init>", desc := "()V", sig := { parameters := [], returnType := none }, accessFlags := 4, code := some k14c0 }
/-- java/util/AbstractList -/
def k14 : Class := { plain "java/util/AbstractList" (some 11) with
  accessFlags := 1057
  interfaces := #[13]
  cf := some (fileOf pool14 8 #[.nestMembers #[93, 98, 208, 210, 82, 77]] #[{ accessFlags := 4, nameIndex := 5, descriptorIndex := 6, attributes := #[] }] 1057 2 #[133] #[{ accessFlags := 132, nameIndex := 11, descriptorIndex := 12, attributes := #[] }])
  fields := #[{ name := "modCount", type := .int, accessFlags := 132, slot := 0, constantValue := 0 }]
  methods := #[k14m0]
  instanceTypes := #[.int]
  staticTypes := #[]
  resolved := Array.replicate 218 none
  statics := none }

def pool15 : Array CpInfo := pool [(1, .class_ 2), (0, u "java/util/RandomAccess"), (0, .class_ 4), (0, u "java/lang/Object")] 2

/-- java/util/RandomAccess -/
def k15 : Class := { plain "java/util/RandomAccess" (some 0) with
  accessFlags := 1537
  interfaces := #[]
  cf := some (fileOf pool15 1 #[] #[] 1537 3 #[] #[])
  fields := #[]
  methods := #[]
  instanceTypes := #[]
  staticTypes := #[]
  resolved := Array.replicate 7 none
  statics := none }

def pool16 : Array CpInfo := pool [(1, .class_ 2), (0, u "java/lang/Cloneable"), (0, .class_ 4), (0, u "java/lang/Object")] 2

/-- java/lang/Cloneable -/
def k16 : Class := { plain "java/lang/Cloneable" (some 0) with
  accessFlags := 1537
  interfaces := #[]
  cf := some (fileOf pool16 1 #[] #[] 1537 3 #[] #[])
  fields := #[]
  methods := #[]
  instanceTypes := #[]
  staticTypes := #[]
  resolved := Array.replicate 7 none
  statics := none }

def pool17 : Array CpInfo := pool [(1, .methodref 2 3), (0, .class_ 4), (0, .nameAndType 5 6), (0, u "java/util/AbstractList"), (0, u "<init>"), (0, u "()V"), (0, .class_ 8), (0, u "java/lang/Object"), (0, .fieldref 10 11), (0, .class_ 12), (0, .nameAndType 13 14), (0, u "java/util/ArrayList"), (0, u "elementData"), (0, u "[Ljava/lang/Object;"), (2, u "EMPTY_ELEMENTDATA"), (21, .fieldref 10 40), (0, .nameAndType 41 14), (0, u "DEFAULTCAPACITY_EMPTY_ELEMENTDATA"), (5, u "()[Ljava/lang/Object;"), (0, .fieldref 10 49), (0, .nameAndType 50 51), (0, u "size"), (0, u "I"), (11, .fieldref 10 64), (0, .nameAndType 65 51), (0, u "modCount"), (3, .methodref 10 70), (0, .nameAndType 71 72), (0, u "grow"), (0, u "(I)[Ljava/lang/Object;"), (6, .methodref 80 81), (0, .class_ 82), (0, .nameAndType 83 84), (0, u "java/lang/Math"), (0, u "max"), (0, u "(II)I"), (11, u "(Ljava/lang/Object;)Z"), (21, .methodref 119 120), (0, .class_ 121), (0, .nameAndType 122 84), (0, u "java/util/Objects"), (0, u "checkIndex"), (0, .methodref 10 124), (0, .nameAndType 13 125), (0, u "(I)Ljava/lang/Object;"), (3, .methodref 10 130), (0, .nameAndType 71 47), (0, .methodref 10 132), (0, .nameAndType 133 134), (0, u "add"), (0, u "(Ljava/lang/Object;[Ljava/lang/Object;I)V"), (13, .class_ 149), (0, u "java/util/List"), (36, u "()I"), (75, .class_ 263), (0, u "java/util/ArrayList$ListItr"), (3, .class_ 268), (0, u "java/util/ArrayList$Itr"), (7, .class_ 277), (0, u "java/util/ArrayList$SubList"), (12, .class_ 291), (0, u "java/util/ArrayList$ArrayListSpliterator"), (37, .class_ 330), (0, u "java/util/RandomAccess"), (0, .class_ 332), (0, u "java/lang/Cloneable"), (0, .class_ 334), (0, u "java/io/Serializable"), (0, u "serialVersionUID"), (0, u "J"), (3, u "DEFAULT_CAPACITY"), (40, u "get"), (118, .class_ 501), (0, u "java/util/ArrayList$SubList$2"), (0, .class_ 503), (0, u "java/util/ArrayList$SubList$1")] 5

def k17c0 : Code := { maxStack := 2, maxLocals := 1, code := jdk_38_method_2_code, exceptionTable := #[], attributes := #[] }
def k17m0 : Method := { name := "<init>", desc := "()V", sig := { parameters := [], returnType := none }, accessFlags := 1, code := some k17c0 }
def k17c1 : Code := { maxStack := 4, maxLocals := 4, code := jdk_38_method_6_code, exceptionTable := #[], attributes := #[] }
def k17m1 : Method := { name := "grow", desc := "(I)[Ljava/lang/Object;", sig := { parameters := [.int], returnType := some (.array (.object "java/lang/Object")) }, accessFlags := 2, code := some k17c1 }
def k17c2 : Code := { maxStack := 3, maxLocals := 1, code := jdk_38_method_7_code, exceptionTable := #[], attributes := #[] }
def k17m2 : Method := { name := "grow", desc := "()[Ljava/lang/Object;", sig := { parameters := [], returnType := some (.array (.object "java/lang/Object")) }, accessFlags := 2, code := some k17c2 }
def k17c3 : Code := { maxStack := 1, maxLocals := 1, code := jdk_38_method_8_code, exceptionTable := #[], attributes := #[] }
def k17m3 : Method := { name := "size", desc := "()I", sig := { parameters := [], returnType := some .int }, accessFlags := 1, code := some k17c3 }
def k17c4 : Code := { maxStack := 2, maxLocals := 2, code := jdk_38_method_18_code, exceptionTable := #[], attributes := #[] }
def k17m4 : Method := { name := "elementData", desc := "(I)Ljava/lang/Object;", sig := { parameters := [.int], returnType := some (.object "java/lang/Object") }, accessFlags := 0, code := some k17c4 }
def k17c5 : Code := { maxStack := 2, maxLocals := 2, code := jdk_38_method_20_code, exceptionTable := #[], attributes := #[] }
def k17m5 : Method := { name := "get", desc := "(I)Ljava/lang/Object;", sig := { parameters := [.int], returnType := some (.object "java/lang/Object") }, accessFlags := 1, code := some k17c5 }
def k17c6 : Code := { maxStack := 3, maxLocals := 4, code := jdk_38_method_24_code, exceptionTable := #[], attributes := #[] }
def k17m6 : Method := { name := "add", desc := "(Ljava/lang/Object;[Ljava/lang/Object;I)V", sig := { parameters := [(.object "java/lang/Object"), (.array (.object "java/lang/Object")), .int], returnType := none }, accessFlags := 2, code := some k17c6 }
def k17c7 : Code := { maxStack := 4, maxLocals := 2, code := jdk_38_method_25_code, exceptionTable := #[], attributes := #[] }
def k17m7 : Method := { name := "add", desc := "(Ljava/lang/Object;)Z", sig := { parameters := [(.object "java/lang/Object")], returnType := some .boolean }, accessFlags := 1, code := some k17c7 }
/-- java/util/ArrayList -/
def k17 : Class := { plain "java/util/ArrayList" (some 14) with
  accessFlags := 33
  interfaces := #[13, 15, 16, 2]
  cf := some (fileOf pool17 10 #[.nestMembers #[290, 276, 500, 502, 262, 267]] #[{ accessFlags := 1, nameIndex := 5, descriptorIndex := 6, attributes := #[] }, { accessFlags := 2, nameIndex := 71, descriptorIndex := 72, attributes := #[] }, { accessFlags := 2, nameIndex := 71, descriptorIndex := 47, attributes := #[] }, { accessFlags := 1, nameIndex := 50, descriptorIndex := 186, attributes := #[] }, { accessFlags := 0, nameIndex := 13, descriptorIndex := 125, attributes := #[] }, { accessFlags := 1, nameIndex := 381, descriptorIndex := 125, attributes := #[] }, { accessFlags := 2, nameIndex := 133, descriptorIndex := 134, attributes := #[] }, { accessFlags := 1, nameIndex := 133, descriptorIndex := 96, attributes := #[] }] 33 2 #[148, 329, 331, 333] #[{ accessFlags := 26, nameIndex := 335, descriptorIndex := 336, attributes := #[] }, { accessFlags := 26, nameIndex := 340, descriptorIndex := 51, attributes := #[] }, { accessFlags := 26, nameIndex := 17, descriptorIndex := 14, attributes := #[] }, { accessFlags := 26, nameIndex := 41, descriptorIndex := 14, attributes := #[] }, { accessFlags := 128, nameIndex := 13, descriptorIndex := 14, attributes := #[] }, { accessFlags := 2, nameIndex := 50, descriptorIndex := 51, attributes := #[] }])
  fields := #[{ name := "serialVersionUID", type := .long, accessFlags := 26, slot := 0, constantValue := 0 }, { name := "DEFAULT_CAPACITY", type := .int, accessFlags := 26, slot := 1, constantValue := 0 }, { name := "EMPTY_ELEMENTDATA", type := (.array (.object "java/lang/Object")), accessFlags := 26, slot := 2, constantValue := 0 }, { name := "DEFAULTCAPACITY_EMPTY_ELEMENTDATA", type := (.array (.object "java/lang/Object")), accessFlags := 26, slot := 3, constantValue := 0 }, { name := "elementData", type := (.array (.object "java/lang/Object")), accessFlags := 128, slot := 1, constantValue := 0 }, { name := "size", type := .int, accessFlags := 2, slot := 2, constantValue := 0 }]
  methods := #[k17m0, k17m1, k17m2, k17m3, k17m4, k17m5, k17m6, k17m7]
  instanceTypes := #[.int, (.array (.object "java/lang/Object")), .int]
  staticTypes := #[.long, .int, (.array (.object "java/lang/Object")), (.array (.object "java/lang/Object"))]
  resolved := Array.replicate 509 none
  statics := some 1 }

def pool18 : Array CpInfo := pool [(1, .class_ 2), (0, u "java/lang/String"), (1, .class_ 6), (1, u "java/lang/Object"), (0, u "<init>"), (0, u "()V"), (0, .methodref 1 10), (0, .nameAndType 11 12), (0, u "checkIndex"), (0, u "(II)V"), (1, .class_ 16), (1, u "java/lang/StringLatin1"), (21, .methodref 39 40), (0, .class_ 41), (0, .nameAndType 42 43), (0, u "java/lang/Math"), (0, u "min"), (0, u "(II)I"), (9, u "([BI)C"), (34, .methodref 14 89), (0, .nameAndType 90 91), (0, u "canEncode"), (0, u "(I)Z"), (0, .methodref 39 93), (0, .nameAndType 94 43), (0, u "max"), (0, .methodref 14 96), (0, .nameAndType 97 98), (0, u "indexOfChar"), (0, u "([BIII)I"), (2, u "indexOf"), (10, .methodref 1 113), (0, .nameAndType 7 114), (0, u "([BB)V"), (6, u "$assertionsDisabled"), (0, u "Z"), (8, .class_ 133), (1, u "java/util/Arrays"), (17, .string 152), (0, u ""), (43, u "newString"), (0, u "([BII)Ljava/lang/String;"), (23, .class_ 223), (1, u "java/lang/StringLatin1$LinesSpliterator"), (8, .methodref 131 233), (0, .nameAndType 234 235), (0, u "copyOfRange"), (0, u "([BII)[B"), (16, u "charAt"), (137, .class_ 391), (0, u "java/lang/StringLatin1$CharsSpliterator")] 3

def k18m0 : Method := { name := "<init>", desc := "()V", sig := { parameters := [], returnType := none }, accessFlags := 0, code := none }
def k18c1 : Code := { maxStack := 2, maxLocals := 2, code := jdk_43_method_2_code, exceptionTable := #[], attributes := #[] }
def k18m1 : Method := { name := "charAt", desc := "([BI)C", sig := { parameters := [(.array .byte), .int], returnType := some .char }, accessFlags := 9, code := some k18c1 }
def k18c2 : Code := { maxStack := 2, maxLocals := 1, code := jdk_43_method_4_code, exceptionTable := #[], attributes := #[] }
def k18m2 : Method := { name := "canEncode", desc := "(I)Z", sig := { parameters := [.int], returnType := some .boolean }, accessFlags := 9, code := some k18c2 }
def k18c3 : Code := { maxStack := 4, maxLocals := 4, code := jdk_43_method_22_code, exceptionTable := #[], attributes := #[] }
def k18m3 : Method := { name := "indexOf", desc := "([BIII)I", sig := { parameters := [(.array .byte), .int, .int, .int], returnType := some .int }, accessFlags := 9, code := some k18c3 }
def k18c4 : Code := { maxStack := 2, maxLocals := 6, code := jdk_43_method_23_code, exceptionTable := #[], attributes := #[] }
def k18m4 : Method := { name := "indexOfChar", desc := "([BIII)I", sig := { parameters := [(.array .byte), .int, .int, .int], returnType := some .int }, accessFlags := 10, code := some k18c4 }
def k18c5 : Code := { maxStack := 6, maxLocals := 3, code := jdk_43_method_47_code, exceptionTable := #[], attributes := #[] }
def k18m5 : Method := { name := "newString", desc := "([BII)Ljava/lang/String;", sig := { parameters := [(.array .byte), .int, .int], returnType := some (.object "java/lang/String") }, accessFlags := 9, code := some k18c5 }
/-- java/lang/StringLatin1 -/
def k18 : Class := { plain "java/lang/StringLatin1" (some 0) with
  accessFlags := 48
  interfaces := #[]
  cf := some (fileOf pool18 14 #[.nestMembers #[390, 221]] #[{ accessFlags := 0, nameIndex := 7, descriptorIndex := 8, attributes := #[] }, { accessFlags := 9, nameIndex := 252, descriptorIndex := 53, attributes := #[] }, { accessFlags := 9, nameIndex := 90, descriptorIndex := 91, attributes := #[] }, { accessFlags := 9, nameIndex := 101, descriptorIndex := 98, attributes := #[] }, { accessFlags := 10, nameIndex := 97, descriptorIndex := 98, attributes := #[] }, { accessFlags := 9, nameIndex := 196, descriptorIndex := 197, attributes := #[] }] 48 4 #[] #[{ accessFlags := 4120, nameIndex := 121, descriptorIndex := 122, attributes := #[] }])
  fields := #[{ name := "$assertionsDisabled", type := .boolean, accessFlags := 4120, slot := 0, constantValue := 0 }]
  methods := #[k18m0, k18m1, k18m2, k18m3, k18m4, k18m5]
  instanceTypes := #[]
  staticTypes := #[.boolean]
  resolved := Array.replicate 395 none
  statics := none }

def pool19 : Array CpInfo := pool [(1, .class_ 2), (0, u "java/lang/Math"), (1, .class_ 6), (1, u "java/lang/Object"), (0, u "<init>"), (0, u "()V"), (89, .class_ 100), (1, u "java/lang/Math$RandomNumberGeneratorHolder"), (71, u "negativeZeroFloatBits"), (0, u "J"), (2, u "negativeZeroDoubleBits"), (21, u "max"), (2, u "min"), (43, u "$assertionsDisabled"), (0, u "Z"), (88, u "(II)I"), (2, u "twoToTheDoubleScaleDown"), (0, u "D"), (4, u "twoToTheDoubleScaleUp"), (9, u "E"), (3, u "PI"), (2, u "TAU"), (2, u "DEGREES_TO_RADIANS"), (0, u "RADIANS_TO_DEGREES")] 94

def k19m0 : Method := { name := "<init>", desc := "()V", sig := { parameters := [], returnType := none }, accessFlags := 2, code := none }
def k19c1 : Code := { maxStack := 2, maxLocals := 2, code := jdk_29_method_65_code, exceptionTable := #[], attributes := #[] }
def k19m1 : Method := { name := "max", desc := "(II)I", sig := { parameters := [.int, .int], returnType := some .int }, accessFlags := 9, code := some k19c1 }
def k19c2 : Code := { maxStack := 2, maxLocals := 2, code := jdk_29_method_69_code, exceptionTable := #[], attributes := #[] }
def k19m2 : Method := { name := "min", desc := "(II)I", sig := { parameters := [.int, .int], returnType := some .int }, accessFlags := 9, code := some k19c2 }
/-- java/lang/Math -/
def k19 : Class := { plain "java/lang/Math" (some 0) with
  accessFlags := 49
  interfaces := #[]
  cf := some (fileOf pool19 1 #[.nestMembers #[98]] #[{ accessFlags := 2, nameIndex := 7, descriptorIndex := 8, attributes := #[] }, { accessFlags := 9, nameIndex := 198, descriptorIndex := 335, attributes := #[] }, { accessFlags := 9, nameIndex := 201, descriptorIndex := 335, attributes := #[] }] 49 4 #[] #[{ accessFlags := 25, nameIndex := 354, descriptorIndex := 339, attributes := #[] }, { accessFlags := 25, nameIndex := 358, descriptorIndex := 339, attributes := #[] }, { accessFlags := 25, nameIndex := 361, descriptorIndex := 339, attributes := #[] }, { accessFlags := 26, nameIndex := 364, descriptorIndex := 339, attributes := #[] }, { accessFlags := 26, nameIndex := 365, descriptorIndex := 339, attributes := #[] }, { accessFlags := 26, nameIndex := 172, descriptorIndex := 173, attributes := #[] }, { accessFlags := 26, nameIndex := 176, descriptorIndex := 173, attributes := #[] }, { accessFlags := 8, nameIndex := 344, descriptorIndex := 339, attributes := #[] }, { accessFlags := 8, nameIndex := 338, descriptorIndex := 339, attributes := #[] }, { accessFlags := 4120, nameIndex := 245, descriptorIndex := 246, attributes := #[] }])
  fields := #[{ name := "E", type := .double, accessFlags := 25, slot := 0, constantValue := 0 }, { name := "PI", type := .double, accessFlags := 25, slot := 1, constantValue := 0 }, { name := "TAU", type := .double, accessFlags := 25, slot := 2, constantValue := 0 }, { name := "DEGREES_TO_RADIANS", type := .double, accessFlags := 26, slot := 3, constantValue := 0 }, { name := "RADIANS_TO_DEGREES", type := .double, accessFlags := 26, slot := 4, constantValue := 0 }, { name := "negativeZeroFloatBits", type := .long, accessFlags := 26, slot := 5, constantValue := 0 }, { name := "negativeZeroDoubleBits", type := .long, accessFlags := 26, slot := 6, constantValue := 0 }, { name := "twoToTheDoubleScaleUp", type := .double, accessFlags := 8, slot := 7, constantValue := 0 }, { name := "twoToTheDoubleScaleDown", type := .double, accessFlags := 8, slot := 8, constantValue := 0 }, { name := "$assertionsDisabled", type := .boolean, accessFlags := 4120, slot := 9, constantValue := 0 }]
  methods := #[k19m0, k19m1, k19m2]
  instanceTypes := #[]
  staticTypes := #[.double, .double, .double, .double, .double, .long, .long, .double, .double, .boolean]
  resolved := Array.replicate 460 none
  statics := none }

def pool20 : Array CpInfo := pool [(6, .class_ 8), (1, u "java/lang/Object"), (0, u "<init>"), (0, u "()V"), (1, .class_ 14), (1, u "java/lang/StringUTF16"), (31, u "$assertionsDisabled"), (0, u "Z"), (13, u "HI_BYTE_SHIFT"), (0, u "I"), (2, u "LO_BYTE_SHIFT"), (49, .methodref 12 116), (0, .nameAndType 117 118), (0, u "compress"), (0, u "([CI[BII)I"), (3, u "([CII)[B"), (138, u "coderFromArrayLen"), (0, u "([BI)B"), (106, .class_ 371), (1, u "java/lang/StringUTF16$LinesSpliterator"), (58, u "MAX_LENGTH"), (196, .class_ 628), (0, u "java/lang/StringUTF16$CodePointsSpliterator"), (0, .class_ 630), (0, u "java/lang/StringUTF16$CharsSpliterator")] 4

def k20m0 : Method := { name := "<init>", desc := "()V", sig := { parameters := [], returnType := none }, accessFlags := 0, code := none }
def k20c1 : Code := { maxStack := 2, maxLocals := 2, code := jdk_52_method_15_code, exceptionTable := #[], attributes := #[] }
def k20m1 : Method := { name := "coderFromArrayLen", desc := "([BI)B", sig := { parameters := [(.array .byte), .int], returnType := some .byte }, accessFlags := 8, code := some k20c1 }
def k20c2 : Code := { maxStack := 5, maxLocals := 6, code := jdk_52_method_16_code, exceptionTable := #[], attributes := #[] }
def k20m2 : Method := { name := "compress", desc := "([CII)[B", sig := { parameters := [(.array .char), .int, .int], returnType := some (.array .byte) }, accessFlags := 9, code := some k20c2 }
def k20c3 : Code := { maxStack := 3, maxLocals := 7, code := jdk_52_method_21_code, exceptionTable := #[], attributes := #[] }
def k20m3 : Method := { name := "compress", desc := "([CI[BII)I", sig := { parameters := [(.array .char), .int, (.array .byte), .int, .int], returnType := some .int }, accessFlags := 9, code := some k20c3 }
/-- java/lang/StringUTF16 -/
def k20 : Class := { plain "java/lang/StringUTF16" (some 0) with
  accessFlags := 48
  interfaces := #[]
  cf := some (fileOf pool20 12 #[.nestMembers #[627, 629, 369]] #[{ accessFlags := 0, nameIndex := 9, descriptorIndex := 10, attributes := #[] }, { accessFlags := 8, nameIndex := 261, descriptorIndex := 262, attributes := #[] }, { accessFlags := 9, nameIndex := 117, descriptorIndex := 122, attributes := #[] }, { accessFlags := 9, nameIndex := 117, descriptorIndex := 118, attributes := #[] }] 48 6 #[] #[{ accessFlags := 26, nameIndex := 61, descriptorIndex := 62, attributes := #[] }, { accessFlags := 26, nameIndex := 65, descriptorIndex := 62, attributes := #[] }, { accessFlags := 24, nameIndex := 430, descriptorIndex := 62, attributes := #[] }, { accessFlags := 4120, nameIndex := 46, descriptorIndex := 47, attributes := #[] }])
  fields := #[{ name := "HI_BYTE_SHIFT", type := .int, accessFlags := 26, slot := 0, constantValue := 0 }, { name := "LO_BYTE_SHIFT", type := .int, accessFlags := 26, slot := 1, constantValue := 0 }, { name := "MAX_LENGTH", type := .int, accessFlags := 24, slot := 2, constantValue := 0 }, { name := "$assertionsDisabled", type := .boolean, accessFlags := 4120, slot := 3, constantValue := 0 }]
  methods := #[k20m0, k20m1, k20m2, k20m3]
  instanceTypes := #[]
  staticTypes := #[.int, .int, .int, .boolean]
  resolved := Array.replicate 635 none
  statics := none }

def pool21 : Array CpInfo := pool [(2, .class_ 4), (1, u "java/lang/Object"), (0, u "<init>"), (0, u "()V"), (17, .class_ 26), (1, u "jdk/internal/util/Preconditions"), (6, u "checkIndex"), (13, u "checkFromToIndex"), (7, .class_ 56), (0, u "jdk/internal/util/Preconditions$4"), (57, .class_ 115), (0, u "jdk/internal/util/Preconditions$1"), (7, u "SIOOBE_FORMATTER"), (0, u "Ljava/util/function/BiFunction;"), (0, .class_ 126), (0, u "jdk/internal/util/Preconditions$2"), (3, u "AIOOBE_FORMATTER"), (0, .class_ 132), (0, u "jdk/internal/util/Preconditions$3"), (3, u "IOOBE_FORMATTER"), (41, u "(IILjava/util/function/BiFunction;)I"), (4, u "(IIILjava/util/function/BiFunction;)I")] 10

def k21m0 : Method := { name := "<init>", desc := "()V", sig := { parameters := [], returnType := none }, accessFlags := 1, code := none }
def k21c1 : Code := { maxStack := 3, maxLocals := 3, code := jdk_41_method_11_code, exceptionTable := #[], attributes := #[] }
def k21m1 : Method := { name := "checkIndex", desc := "(IILjava/util/function/BiFunction;)I", sig := { parameters := [.int, .int, (.object "java/util/function/BiFunction")], returnType := some .int }, accessFlags := 9, code := some k21c1 }
def k21c2 : Code := { maxStack := 4, maxLocals := 4, code := jdk_41_method_12_code, exceptionTable := #[], attributes := #[] }
def k21m2 : Method := { name := "checkFromToIndex", desc := "(IIILjava/util/function/BiFunction;)I", sig := { parameters := [.int, .int, .int, (.object "java/util/function/BiFunction")], returnType := some .int }, accessFlags := 9, code := some k21c2 }
/-- jdk/internal/util/Preconditions -/
def k21 : Class := { plain "jdk/internal/util/Preconditions" (some 0) with
  accessFlags := 33
  interfaces := #[]
  cf := some (fileOf pool21 24 #[.nestMembers #[55, 131, 125, 114]] #[{ accessFlags := 1, nameIndex := 5, descriptorIndex := 6, attributes := #[] }, { accessFlags := 9, nameIndex := 33, descriptorIndex := 178, attributes := #[] }, { accessFlags := 9, nameIndex := 47, descriptorIndex := 183, attributes := #[] }] 33 2 #[] #[{ accessFlags := 25, nameIndex := 123, descriptorIndex := 124, attributes := #[] }, { accessFlags := 25, nameIndex := 130, descriptorIndex := 124, attributes := #[] }, { accessFlags := 25, nameIndex := 136, descriptorIndex := 124, attributes := #[] }])
  fields := #[{ name := "SIOOBE_FORMATTER", type := (.object "java/util/function/BiFunction"), accessFlags := 25, slot := 0, constantValue := 0 }, { name := "AIOOBE_FORMATTER", type := (.object "java/util/function/BiFunction"), accessFlags := 25, slot := 1, constantValue := 0 }, { name := "IOOBE_FORMATTER", type := (.object "java/util/function/BiFunction"), accessFlags := 25, slot := 2, constantValue := 0 }]
  methods := #[k21m0, k21m1, k21m2]
  instanceTypes := #[]
  staticTypes := #[(.object "java/util/function/BiFunction"), (.object "java/util/function/BiFunction"), (.object "java/util/function/BiFunction")]
  resolved := Array.replicate 194 none
  statics := some 2 }

def pool22 : Array CpInfo := pool [(2, .class_ 4), (1, u "java/lang/Object"), (0, u "<init>"), (0, u "()V"), (7, .class_ 16), (1, u "java/util/Arrays"), (57, .class_ 76), (1, u "java/util/Arrays$NaturalOrder"), (36, .class_ 115), (1, u "java/util/Arrays$LegacyMergeSort"), (1, u "Z"), (21, u "copyOfRange"), (10, .methodref 151 152), (0, .class_ 153), (0, .nameAndType 154 155), (0, u "java/lang/System"), (0, u "arraycopy"), (0, u "(Ljava/lang/Object;ILjava/lang/Object;II)V"), (148, .methodref 305 306), (0, .class_ 307), (0, .nameAndType 308 309), (0, u "java/lang/Math"), (0, u "min"), (0, u "(II)I"), (29, .methodref 14 340), (0, .nameAndType 341 342), (0, u "copyOfRangeByte"), (0, u "([BII)[B"), (0, .methodref 14 344), (0, .nameAndType 345 346), (0, u "checkLength"), (0, u "(II)V"), (28, .class_ 376), (0, u "java/util/Arrays$ArrayList"), (68, u "$assertionsDisabled"), (269, u "MIN_ARRAY_SORT_GRAN"), (0, u "I"), (2, u "INSERTIONSORT_THRESHOLD"), (255, .class_ 976), (0, u "java/util/Arrays$ArrayItr")] 52

def k22m0 : Method := { name := "<init>", desc := "()V", sig := { parameters := [], returnType := none }, accessFlags := 2, code := none }
def k22c1 : Code := { maxStack := 4, maxLocals := 2, code := jdk_65_method_131_code, exceptionTable := #[], attributes := #[] }
def k22m1 : Method := { name := "checkLength", desc := "(II)V", sig := { parameters := [.int, .int], returnType := none }, accessFlags := 10, code := some k22c1 }
def k22c2 : Code := { maxStack := 3, maxLocals := 3, code := jdk_65_method_132_code, exceptionTable := #[], attributes := #[] }
def k22m2 : Method := { name := "copyOfRange", desc := "([BII)[B", sig := { parameters := [(.array .byte), .int, .int], returnType := some (.array .byte) }, accessFlags := 9, code := some k22c2 }
def k22c3 : Code := { maxStack := 6, maxLocals := 5, code := jdk_65_method_133_code, exceptionTable := #[], attributes := #[] }
def k22m3 : Method := { name := "copyOfRangeByte", desc := "([BII)[B", sig := { parameters := [(.array .byte), .int, .int], returnType := some (.array .byte) }, accessFlags := 10, code := some k22c3 }
/-- java/util/Arrays -/
def k22 : Class := { plain "java/util/Arrays" (some 0) with
  accessFlags := 49
  interfaces := #[]
  cf := some (fileOf pool22 14 #[.nestMembers #[975, 375, 113, 74]] #[{ accessFlags := 2, nameIndex := 5, descriptorIndex := 6, attributes := #[] }, { accessFlags := 10, nameIndex := 345, descriptorIndex := 346, attributes := #[] }, { accessFlags := 9, nameIndex := 139, descriptorIndex := 342, attributes := #[] }, { accessFlags := 10, nameIndex := 341, descriptorIndex := 342, attributes := #[] }] 49 2 #[] #[{ accessFlags := 26, nameIndex := 715, descriptorIndex := 716, attributes := #[] }, { accessFlags := 26, nameIndex := 719, descriptorIndex := 716, attributes := #[] }, { accessFlags := 4120, nameIndex := 445, descriptorIndex := 117, attributes := #[] }])
  fields := #[{ name := "MIN_ARRAY_SORT_GRAN", type := .int, accessFlags := 26, slot := 0, constantValue := 0 }, { name := "INSERTIONSORT_THRESHOLD", type := .int, accessFlags := 26, slot := 1, constantValue := 0 }, { name := "$assertionsDisabled", type := .boolean, accessFlags := 4120, slot := 2, constantValue := 0 }]
  methods := #[k22m0, k22m1, k22m2, k22m3]
  instanceTypes := #[]
  staticTypes := #[.int, .int, .boolean]
  resolved := Array.replicate 1029 none
  statics := none }

def pool23 : Array CpInfo := pool [(2, .class_ 4), (1, u "java/lang/Object"), (0, u "<init>"), (0, u "()V"), (1, .class_ 10), (1, u "java/lang/System"), (0, u "allowSecurityManager"), (0, u "I"), (16, u "cons"), (0, u "Ljava/io/Console;"), (77, .class_ 110), (1, u "java/lang/System$CallersHolder"), (43, u "initialErrStream"), (0, u "Ljava/io/PrintStream;"), (19, u "security"), (0, u "Ljava/lang/SecurityManager;"), (31, .class_ 209), (0, u "java/lang/System$1"), (7, u "props"), (0, u "Ljava/util/Properties;"), (2, u "lineSeparator"), (0, u "Ljava/lang/String;"), (96, .class_ 321), (1, u "java/lang/System$LoggerFinder"), (5, .class_ 328), (0, u "java/lang/System$Logger"), (67, u "err"), (2, u "out"), (91, u "notSupportedJnuEncoding"), (15, u "in"), (17, u "initialIn"), (0, u "Ljava/io/InputStream;"), (35, u "bootLayer"), (0, u "Ljava/lang/ModuleLayer;"), (99, .class_ 664), (0, u "java/lang/System$2"), (9, u "NEVER"), (2, u "MAYBE"), (49, u "arraycopy"), (0, u "(Ljava/lang/Object;ILjava/lang/Object;II)V"), (72, .class_ 802), (0, u "java/lang/System$Logger$Level")] 31

def k23m0 : Method := { name := "<init>", desc := "()V", sig := { parameters := [], returnType := none }, accessFlags := 2, code := none }
def k23m1 : Method := { name := "arraycopy", desc := "(Ljava/lang/Object;ILjava/lang/Object;II)V", sig := { parameters := [(.object "java/lang/Object"), .int, (.object "java/lang/Object"), .int, .int], returnType := none }, accessFlags := 265, code := none }
/-- java/lang/System -/
def k23 : Class := { plain "java/lang/System" (some 0) with
  accessFlags := 49
  interfaces := #[]
  cf := some (fileOf pool23 8 #[.nestMembers #[319, 327, 801, 108, 663, 208]] #[{ accessFlags := 2, nameIndex := 5, descriptorIndex := 6, attributes := #[] }, { accessFlags := 265, nameIndex := 727, descriptorIndex := 728, attributes := #[] }] 49 2 #[] #[{ accessFlags := 25, nameIndex := 507, descriptorIndex := 526, attributes := #[] }, { accessFlags := 25, nameIndex := 399, descriptorIndex := 155, attributes := #[] }, { accessFlags := 25, nameIndex := 396, descriptorIndex := 155, attributes := #[] }, { accessFlags := 10, nameIndex := 525, descriptorIndex := 526, attributes := #[] }, { accessFlags := 26, nameIndex := 674, descriptorIndex := 12, attributes := #[] }, { accessFlags := 26, nameIndex := 677, descriptorIndex := 12, attributes := #[] }, { accessFlags := 10, nameIndex := 11, descriptorIndex := 12, attributes := #[] }, { accessFlags := 74, nameIndex := 175, descriptorIndex := 176, attributes := #[] }, { accessFlags := 10, nameIndex := 491, descriptorIndex := 222, attributes := #[] }, { accessFlags := 74, nameIndex := 29, descriptorIndex := 30, attributes := #[] }, { accessFlags := 74, nameIndex := 154, descriptorIndex := 155, attributes := #[] }, { accessFlags := 10, nameIndex := 217, descriptorIndex := 218, attributes := #[] }, { accessFlags := 10, nameIndex := 221, descriptorIndex := 222, attributes := #[] }, { accessFlags := 8, nameIndex := 562, descriptorIndex := 563, attributes := #[] }])
  fields := #[{ name := "in", type := (.object "java/io/InputStream"), accessFlags := 25, slot := 0, constantValue := 0 }, { name := "out", type := (.object "java/io/PrintStream"), accessFlags := 25, slot := 1, constantValue := 0 }, { name := "err", type := (.object "java/io/PrintStream"), accessFlags := 25, slot := 2, constantValue := 0 }, { name := "initialIn", type := (.object "java/io/InputStream"), accessFlags := 10, slot := 3, constantValue := 0 }, { name := "NEVER", type := .int, accessFlags := 26, slot := 4, constantValue := 0 }, { name := "MAYBE", type := .int, accessFlags := 26, slot := 5, constantValue := 0 }, { name := "allowSecurityManager", type := .int, accessFlags := 10, slot := 6, constantValue := 0 }, { name := "security", type := (.object "java/lang/SecurityManager"), accessFlags := 74, slot := 7, constantValue := 0 }, { name := "notSupportedJnuEncoding", type := (.object "java/lang/String"), accessFlags := 10, slot := 8, constantValue := 0 }, { name := "cons", type := (.object "java/io/Console"), accessFlags := 74, slot := 9, constantValue := 0 }, { name := "initialErrStream", type := (.object "java/io/PrintStream"), accessFlags := 74, slot := 10, constantValue := 0 }, { name := "props", type := (.object "java/util/Properties"), accessFlags := 10, slot := 11, constantValue := 0 }, { name := "lineSeparator", type := (.object "java/lang/String"), accessFlags := 10, slot := 12, constantValue := 0 }, { name := "bootLayer", type := (.object "java/lang/ModuleLayer"), accessFlags := 8, slot := 13, constantValue := 0 }]
  methods := #[k23m0, k23m1]
  instanceTypes := #[]
  staticTypes := #[(.object "java/io/InputStream"), (.object "java/io/PrintStream"), (.object "java/io/PrintStream"), (.object "java/io/InputStream"), .int, .int, .int, (.object "java/lang/SecurityManager"), (.object "java/lang/String"), (.object "java/io/Console"), (.object "java/io/PrintStream"), (.object "java/util/Properties"), (.object "java/lang/String"), (.object "java/lang/ModuleLayer")]
  resolved := Array.replicate 834 none
  statics := none }

def pool24 : Array CpInfo := pool [(2, .class_ 4), (1, u "java/lang/Object"), (0, u "<init>"), (0, u "()V"), (35, .class_ 44), (1, u "java/util/Objects"), (60, .methodref 106 107), (0, .class_ 108), (0, .nameAndType 109 110), (0, u "jdk/internal/util/Preconditions"), (0, u "checkIndex"), (0, u "(IILjava/util/function/BiFunction;)I"), (60, u "(II)I")] 12

def k24m0 : Method := { name := "<init>", desc := "()V", sig := { parameters := [], returnType := none }, accessFlags := 2, code := none }
def k24c1 : Code := { maxStack := 3, maxLocals := 2, code := jdk_31_method_17_code, exceptionTable := #[], attributes := #[] }
def k24m1 : Method := { name := "checkIndex", desc := "(II)I", sig := { parameters := [.int, .int], returnType := some .int }, accessFlags := 9, code := some k24c1 }
/-- java/util/Objects -/
def k24 : Class := { plain "java/util/Objects" (some 0) with
  accessFlags := 49
  interfaces := #[]
  cf := some (fileOf pool24 42 #[] #[{ accessFlags := 2, nameIndex := 5, descriptorIndex := 6, attributes := #[] }, { accessFlags := 9, nameIndex := 109, descriptorIndex := 171, attributes := #[] }] 49 2 #[] #[])
  fields := #[]
  methods := #[k24m0, k24m1]
  instanceTypes := #[]
  staticTypes := #[]
  resolved := Array.replicate 184 none
  statics := none }

def pool25 : Array CpInfo := pool [(9, u "<init>"), (6, .class_ 18), (1, u "java/lang/Object"), (0, u "()V"), (1, .class_ 23), (1, u "jdk/internal/util/ArraysSupport"), (0, u "LOG2_ARRAY_LONG_INDEX_SCALE"), (0, u "I"), (2, u "U"), (0, u "Ljdk/internal/misc/Unsafe;"), (8, u "BIG_ENDIAN"), (0, u "Z"), (8, u "LOG2_BYTE_BIT_SIZE"), (4, u "LOG2_ARRAY_INT_INDEX_SCALE"), (54, u "JLA"), (0, u "Ljdk/internal/access/JavaLangAccess;"), (11, u "LOG2_ARRAY_BOOLEAN_INDEX_SCALE"), (9, u "LOG2_ARRAY_BYTE_INDEX_SCALE"), (5, u "LOG2_ARRAY_CHAR_INDEX_SCALE"), (5, u "LOG2_ARRAY_SHORT_INDEX_SCALE"), (18, u "LOG2_ARRAY_FLOAT_INDEX_SCALE"), (24, u "LOG2_ARRAY_DOUBLE_INDEX_SCALE"), (89, u "T_BOOLEAN"), (2, u "T_CHAR"), (1, u "T_FLOAT"), (1, u "T_DOUBLE"), (1, u "T_BYTE"), (1, u "T_SHORT"), (1, u "T_INT"), (1, u "T_LONG"), (1, u "SOFT_MAX_ARRAY_LENGTH")] 83

def k25m0 : Method := { name := "<init>", desc := "()V", sig := { parameters := [], returnType := none }, accessFlags := 2, code := none }
/-- jdk/internal/util/ArraysSupport -/
def k25 : Class := { plain "jdk/internal/util/ArraysSupport" (some 0) with
  accessFlags := 33
  interfaces := #[]
  cf := some (fileOf pool25 21 #[] #[{ accessFlags := 2, nameIndex := 9, descriptorIndex := 19, attributes := #[] }] 33 16 #[] #[{ accessFlags := 24, nameIndex := 28, descriptorIndex := 29, attributes := #[] }, { accessFlags := 26, nameIndex := 38, descriptorIndex := 39, attributes := #[] }, { accessFlags := 25, nameIndex := 121, descriptorIndex := 25, attributes := #[] }, { accessFlags := 25, nameIndex := 131, descriptorIndex := 25, attributes := #[] }, { accessFlags := 25, nameIndex := 137, descriptorIndex := 25, attributes := #[] }, { accessFlags := 25, nameIndex := 143, descriptorIndex := 25, attributes := #[] }, { accessFlags := 25, nameIndex := 53, descriptorIndex := 25, attributes := #[] }, { accessFlags := 25, nameIndex := 24, descriptorIndex := 25, attributes := #[] }, { accessFlags := 25, nameIndex := 162, descriptorIndex := 25, attributes := #[] }, { accessFlags := 25, nameIndex := 187, descriptorIndex := 25, attributes := #[] }, { accessFlags := 26, nameIndex := 48, descriptorIndex := 25, attributes := #[] }, { accessFlags := 25, nameIndex := 277, descriptorIndex := 25, attributes := #[] }, { accessFlags := 25, nameIndex := 280, descriptorIndex := 25, attributes := #[] }, { accessFlags := 25, nameIndex := 282, descriptorIndex := 25, attributes := #[] }, { accessFlags := 25, nameIndex := 284, descriptorIndex := 25, attributes := #[] }, { accessFlags := 25, nameIndex := 286, descriptorIndex := 25, attributes := #[] }, { accessFlags := 25, nameIndex := 288, descriptorIndex := 25, attributes := #[] }, { accessFlags := 25, nameIndex := 290, descriptorIndex := 25, attributes := #[] }, { accessFlags := 25, nameIndex := 292, descriptorIndex := 25, attributes := #[] }, { accessFlags := 26, nameIndex := 108, descriptorIndex := 109, attributes := #[] }, { accessFlags := 25, nameIndex := 294, descriptorIndex := 25, attributes := #[] }])
  fields := #[{ name := "U", type := (.object "jdk/internal/misc/Unsafe"), accessFlags := 24, slot := 0, constantValue := 0 }, { name := "BIG_ENDIAN", type := .boolean, accessFlags := 26, slot := 1, constantValue := 0 }, { name := "LOG2_ARRAY_BOOLEAN_INDEX_SCALE", type := .int, accessFlags := 25, slot := 2, constantValue := 0 }, { name := "LOG2_ARRAY_BYTE_INDEX_SCALE", type := .int, accessFlags := 25, slot := 3, constantValue := 0 }, { name := "LOG2_ARRAY_CHAR_INDEX_SCALE", type := .int, accessFlags := 25, slot := 4, constantValue := 0 }, { name := "LOG2_ARRAY_SHORT_INDEX_SCALE", type := .int, accessFlags := 25, slot := 5, constantValue := 0 }, { name := "LOG2_ARRAY_INT_INDEX_SCALE", type := .int, accessFlags := 25, slot := 6, constantValue := 0 }, { name := "LOG2_ARRAY_LONG_INDEX_SCALE", type := .int, accessFlags := 25, slot := 7, constantValue := 0 }, { name := "LOG2_ARRAY_FLOAT_INDEX_SCALE", type := .int, accessFlags := 25, slot := 8, constantValue := 0 }, { name := "LOG2_ARRAY_DOUBLE_INDEX_SCALE", type := .int, accessFlags := 25, slot := 9, constantValue := 0 }, { name := "LOG2_BYTE_BIT_SIZE", type := .int, accessFlags := 26, slot := 10, constantValue := 0 }, { name := "T_BOOLEAN", type := .int, accessFlags := 25, slot := 11, constantValue := 0 }, { name := "T_CHAR", type := .int, accessFlags := 25, slot := 12, constantValue := 0 }, { name := "T_FLOAT", type := .int, accessFlags := 25, slot := 13, constantValue := 0 }, { name := "T_DOUBLE", type := .int, accessFlags := 25, slot := 14, constantValue := 0 }, { name := "T_BYTE", type := .int, accessFlags := 25, slot := 15, constantValue := 0 }, { name := "T_SHORT", type := .int, accessFlags := 25, slot := 16, constantValue := 0 }, { name := "T_INT", type := .int, accessFlags := 25, slot := 17, constantValue := 0 }, { name := "T_LONG", type := .int, accessFlags := 25, slot := 18, constantValue := 0 }, { name := "JLA", type := (.object "jdk/internal/access/JavaLangAccess"), accessFlags := 26, slot := 19, constantValue := 0 }, { name := "SOFT_MAX_ARRAY_LENGTH", type := .int, accessFlags := 25, slot := 20, constantValue := 0 }]
  methods := #[k25m0]
  instanceTypes := #[]
  staticTypes := #[(.object "jdk/internal/misc/Unsafe"), .boolean, .int, .int, .int, .int, .int, .int, .int, .int, .int, .int, .int, .int, .int, .int, .int, .int, .int, (.object "jdk/internal/access/JavaLangAccess"), .int]
  resolved := Array.replicate 378 none
  statics := none }

/-- the primitive byte -/
def k26 : Class := { plain "byte" none with kind := .primitive 'B', accessFlags := 0x411 }
/-- [B -/
def k27 : Class := { plain "[B" (some 0) with kind := .array 26 .byte, interfaces := #[16, 2], accessFlags := 1041 }

/-- the primitive char -/
def k28 : Class := { plain "char" none with kind := .primitive 'C', accessFlags := 0x411 }
/-- [C -/
def k29 : Class := { plain "[C" (some 0) with kind := .array 28 .char, interfaces := #[16, 2], accessFlags := 1041 }

/-- the primitive int -/
def k30 : Class := { plain "int" none with kind := .primitive 'I', accessFlags := 0x411 }
/-- [I -/
def k31 : Class := { plain "[I" (some 0) with kind := .array 30 .int, interfaces := #[16, 2], accessFlags := 1041 }

/-- [Ljava/lang/Object; -/
def k32 : Class := { plain "[Ljava/lang/Object;" (some 0) with kind := .array 0 (.object "java/lang/Object"), interfaces := #[16, 2], accessFlags := 1041 }

def heap : Heap := #[{ cls := 7, slots := #[.long 0, .int 1, .null, .int 0, .null, .int 0, .int 0], vm := .statics 7 },
  { cls := 17, slots := #[.long 0, .int 0, .ref 3, .ref 4], vm := .statics 17 },
  { cls := 21, slots := #[.null, .null, .null], vm := .statics 21 },
  { cls := 32, slots := #[], vm := .none },
  { cls := 32, slots := #[], vm := .none }]
def classes : Array Class := #[k0, k1, k2, k3, k4, k5, k6, k7, k8, k9, k10, k11, k12, k13, k14, k15, k16, k17, k18, k19, k20, k21, k22, k23, k24, k25, k26, k27, k28, k29, k30, k31, k32]
def interned : List (Array UInt16 × Addr) := []
def slotsUsed : Nat := 14
def theMethod : MethodId := ⟨1, 9⟩
def args0 : Array Value := #[.int 5, .int 5, .int 5, .int 5, .int 5]
def aboutOver (below : List Frame) : State where
  vm := { classes := classes, interned := interned.toArray }
  heap := heap
  slotsUsed := slotsUsed
  threads := #[{ frames := .invoking theMethod args0 :: below }]
def below0 : List Frame := [.native { method := ⟨0, 0⟩, args := #[] }]
def about1 : State := aboutOver below0
def p0 : Program := .bare "" "" ""
def e0 : Env := launch0.env 0 0 0
theorem w_frames : about1.frames = Frame.invoking theMethod args0 :: below0 := rfl
set_option maxRecDepth 65536 in
theorem w_args : argsFit about1.vm theMethod args0 = true := by decide +kernel
set_option maxRecDepth 65536 in
theorem w_heap : heapFits about1 = true := by decide +kernel
set_option maxRecDepth 65536 in
theorem w_runnable : about1.curStatus? = some .runnable := by decide +kernel
set_option maxRecDepth 65536 in
theorem w_alone : about1.alone = true := by decide +kernel
set_option maxRecDepth 65536 in
theorem w_named : about1.methodNamed? x = some theMethod := by decide +kernel
set_option maxRecDepth 65536 in
theorem w_hears : about1.hears theMethod below0 = true := by decide +kernel
set_option maxRecDepth 65536 in
theorem w_ripe : about1.ripe theMethod args0 below0 = true := by decide +kernel
theorem w_running : about1.status = .running := rfl
set_option maxRecDepth 65536 in
theorem w_room : about1.hasRoom e0.platform room_1 = true :=
  launch0.hasRoom_least _ room_1 (by decide +kernel) (by decide +kernel) (by decide +kernel) (by decide +kernel) (by decide +kernel) (by decide +kernel)
theorem allAtoms_all (ts : List Jvm.Cond) (a : Array Jvm.Value) (st : Jvm.State) : (allAtoms ts).before a st = ts.all (fun c => c.before a st) := by
  induction ts with
  | nil => rfl
  | cons c t ih =>
    show (Jvm.Cond.and c (allAtoms t)).before a st = _
    rw [Jvm.Cond.before_and, ih, List.all_cons]
def words1 : List Jvm.Cond := Jvm.Cond.code x code maxLocals ret :: tables_1
/-- a 'code' word, met by the world's own term for the bytes: nothing is compared byte by byte -/
theorem code_word {y : MethodName} {bytes : ByteArray} {mx : Nat} {rt : Option FieldType} {a : Array Value} {s : State} {m : MethodId} {meth : Method} {c : Code} (h1 : s.methodNamed? y = some m) (h2 : s.vm.method? m = some meth) (h3 : meth.code = some c) (h4 : c.code = bytes)
    (h5 : (c.maxLocals == mx && c.exceptionTable.isEmpty && decide (c.maxStack ≤ mostOperands) && decide (meth.sig.returnType = rt) && !meth.locks && decide (parseMethodDescriptor y.desc = some meth.sig)) = true) : (Jvm.Cond.code y bytes mx rt).before a s = true := by
  simp only [Bool.and_eq_true, beq_iff_eq, Bool.not_eq_true', decide_eq_true_eq] at h5
  obtain ⟨⟨⟨⟨⟨g1, g2⟩, g3⟩, g4⟩, g5⟩, g6⟩ := h5
  simp [Cond.before, Cond.holds, Cond.value, h1, h2, h3, h4, g1, g2, g3, g4, g5, g6]
def isCode : Jvm.Cond → Bool
  | .code _ _ _ _ => true
  | _ => false
theorem all_split {L : List Jvm.Cond} {P : Jvm.Cond → Bool} (h1 : L.all (fun c => isCode c || P c) = true) (h2 : ∀ c ∈ L.filter isCode, P c = true) : L.all P = true := by
  refine List.all_eq_true.mpr fun c hc => ?_
  have h := List.all_eq_true.mp h1 c hc
  rcases Bool.eq_false_or_eq_true (isCode c) with hi | hi
  · exact h2 c (List.mem_filter.mpr ⟨hc, hi⟩)
  · simpa [hi] using h
set_option maxRecDepth 65536 in
theorem w_c0 : (Jvm.Cond.code x code maxLocals ret).before args0 about1 = true := code_word (m := ⟨1, 9⟩) (meth := k1m9) (c := k1c9) (by decide +kernel) rfl rfl rfl (by decide +kernel)
set_option maxRecDepth 65536 in
theorem w_c1 : (Jvm.Cond.code ({ cls := "com/example/kindling/kindling/web/PathTemplateSegmentsPinLaw", name := "draw", desc := "(I)C" } : Jvm.MethodName) method_2_code (1 : Nat) (Option.some Jvm.ClassFile.FieldType.char)).before args0 about1 = true := code_word (m := ⟨1, 1⟩) (meth := k1m1) (c := k1c1) (by decide +kernel) rfl rfl rfl (by decide +kernel)
set_option maxRecDepth 65536 in
theorem w_c2 : (Jvm.Cond.code ({ cls := "com/example/kindling/kindling/web/PathTemplateSegmentsPinLaw", name := "make", desc := "([CI)Ljava/lang/String;" } : Jvm.MethodName) method_9_code (2 : Nat) (Option.some (Jvm.ClassFile.FieldType.object "java/lang/String"))).before args0 about1 = true := code_word (m := ⟨1, 8⟩) (meth := k1m8) (c := k1c8) (by decide +kernel) rfl rfl rfl (by decide +kernel)
set_option maxRecDepth 65536 in
theorem w_c3 : (Jvm.Cond.code ({ cls := "java/lang/String", name := "<init>", desc := "([C)V" } : Jvm.MethodName) jdk_42_method_3_code (2 : Nat) (Option.none : Option Jvm.ClassFile.FieldType)).before args0 about1 = true := code_word (m := ⟨7, 1⟩) (meth := k7m1) (c := k7c1) (by decide +kernel) rfl rfl rfl (by decide +kernel)
set_option maxRecDepth 65536 in
theorem w_c4 : (Jvm.Cond.code ({ cls := "java/lang/String", name := "<init>", desc := "([CIILjava/lang/Void;)V" } : Jvm.MethodName) jdk_42_method_149_code (6 : Nat) (Option.none : Option Jvm.ClassFile.FieldType)).before args0 about1 = true := code_word (m := ⟨7, 7⟩) (meth := k7m7) (c := k7c7) (by decide +kernel) rfl rfl rfl (by decide +kernel)
set_option maxRecDepth 65536 in
theorem w_c5 : (Jvm.Cond.code ({ cls := "java/lang/Object", name := "<init>", desc := "()V" } : Jvm.MethodName) object_method_1_code (1 : Nat) (Option.none : Option Jvm.ClassFile.FieldType)).before args0 about1 = true := code_word (m := ⟨0, 0⟩) (meth := k0m0) (c := k0c0) (by decide +kernel) rfl rfl rfl (by decide +kernel)
set_option maxRecDepth 65536 in
theorem w_c6 : (Jvm.Cond.code ({ cls := "com/example/kindling/kindling/web/PathTemplate", name := "segments", desc := "(Ljava/lang/String;)Ljava/util/List;" } : Jvm.MethodName) prog_40_method_8_code (4 : Nat) (Option.some (Jvm.ClassFile.FieldType.object "java/util/List"))).before args0 about1 = true := code_word (m := ⟨8, 0⟩) (meth := k8m0) (c := k8c0) (by decide +kernel) rfl rfl rfl (by decide +kernel)
set_option maxRecDepth 65536 in
theorem w_c7 : (Jvm.Cond.code ({ cls := "java/util/ArrayList", name := "<init>", desc := "()V" } : Jvm.MethodName) jdk_38_method_2_code (1 : Nat) (Option.none : Option Jvm.ClassFile.FieldType)).before args0 about1 = true := code_word (m := ⟨17, 0⟩) (meth := k17m0) (c := k17c0) (by decide +kernel) rfl rfl rfl (by decide +kernel)
set_option maxRecDepth 65536 in
theorem w_c8 : (Jvm.Cond.code ({ cls := "java/util/AbstractList", name := "<init>", desc := "()V" } : Jvm.MethodName) jdk_39_method_1_code (1 : Nat) (Option.none : Option Jvm.ClassFile.FieldType)).before args0 about1 = true := code_word (m := ⟨14, 0⟩) (meth := k14m0) (c := k14c0) (by decide +kernel) rfl rfl rfl (by decide +kernel)
set_option maxRecDepth 65536 in
theorem w_c9 : (Jvm.Cond.code ({ cls := "java/util/AbstractCollection", name := "<init>", desc := "()V" } : Jvm.MethodName) jdk_22_method_1_code (1 : Nat) (Option.none : Option Jvm.ClassFile.FieldType)).before args0 about1 = true := code_word (m := ⟨11, 0⟩) (meth := k11m0) (c := k11c0) (by decide +kernel) rfl rfl rfl (by decide +kernel)
set_option maxRecDepth 65536 in
theorem w_c10 : (Jvm.Cond.code ({ cls := "java/lang/String", name := "indexOf", desc := "(I)I" } : Jvm.MethodName) jdk_42_method_79_code (2 : Nat) (Option.some Jvm.ClassFile.FieldType.int)).before args0 about1 = true := code_word (m := ⟨7, 4⟩) (meth := k7m4) (c := k7c4) (by decide +kernel) rfl rfl rfl (by decide +kernel)
set_option maxRecDepth 65536 in
theorem w_c11 : (Jvm.Cond.code ({ cls := "java/lang/String", name := "indexOf", desc := "(II)I" } : Jvm.MethodName) jdk_42_method_80_code (3 : Nat) (Option.some Jvm.ClassFile.FieldType.int)).before args0 about1 = true := code_word (m := ⟨7, 5⟩) (meth := k7m5) (c := k7c5) (by decide +kernel) rfl rfl rfl (by decide +kernel)
set_option maxRecDepth 65536 in
theorem w_c12 : (Jvm.Cond.code ({ cls := "java/lang/String", name := "isLatin1", desc := "()Z" } : Jvm.MethodName) jdk_42_method_154_code (1 : Nat) (Option.some Jvm.ClassFile.FieldType.boolean)).before args0 about1 = true := code_word (m := ⟨7, 10⟩) (meth := k7m10) (c := k7c10) (by decide +kernel) rfl rfl rfl (by decide +kernel)
set_option maxRecDepth 65536 in
theorem w_c13 : (Jvm.Cond.code ({ cls := "java/lang/String", name := "length", desc := "()I" } : Jvm.MethodName) jdk_42_method_54_code (1 : Nat) (Option.some Jvm.ClassFile.FieldType.int)).before args0 about1 = true := code_word (m := ⟨7, 2⟩) (meth := k7m2) (c := k7c2) (by decide +kernel) rfl rfl rfl (by decide +kernel)
set_option maxRecDepth 65536 in
theorem w_c14 : (Jvm.Cond.code ({ cls := "java/lang/String", name := "coder", desc := "()B" } : Jvm.MethodName) jdk_42_method_152_code (1 : Nat) (Option.some Jvm.ClassFile.FieldType.byte)).before args0 about1 = true := code_word (m := ⟨7, 9⟩) (meth := k7m9) (c := k7c9) (by decide +kernel) rfl rfl rfl (by decide +kernel)
set_option maxRecDepth 65536 in
theorem w_c15 : (Jvm.Cond.code ({ cls := "java/lang/StringLatin1", name := "indexOf", desc := "([BIII)I" } : Jvm.MethodName) jdk_43_method_22_code (4 : Nat) (Option.some Jvm.ClassFile.FieldType.int)).before args0 about1 = true := code_word (m := ⟨18, 3⟩) (meth := k18m3) (c := k18c3) (by decide +kernel) rfl rfl rfl (by decide +kernel)
set_option maxRecDepth 65536 in
theorem w_c16 : (Jvm.Cond.code ({ cls := "java/lang/StringLatin1", name := "canEncode", desc := "(I)Z" } : Jvm.MethodName) jdk_43_method_4_code (1 : Nat) (Option.some Jvm.ClassFile.FieldType.boolean)).before args0 about1 = true := code_word (m := ⟨18, 2⟩) (meth := k18m2) (c := k18c2) (by decide +kernel) rfl rfl rfl (by decide +kernel)
set_option maxRecDepth 65536 in
theorem w_c17 : (Jvm.Cond.code ({ cls := "java/lang/Math", name := "max", desc := "(II)I" } : Jvm.MethodName) jdk_29_method_65_code (2 : Nat) (Option.some Jvm.ClassFile.FieldType.int)).before args0 about1 = true := code_word (m := ⟨19, 1⟩) (meth := k19m1) (c := k19c1) (by decide +kernel) rfl rfl rfl (by decide +kernel)
set_option maxRecDepth 65536 in
theorem w_c18 : (Jvm.Cond.code ({ cls := "java/lang/Math", name := "min", desc := "(II)I" } : Jvm.MethodName) jdk_29_method_69_code (2 : Nat) (Option.some Jvm.ClassFile.FieldType.int)).before args0 about1 = true := code_word (m := ⟨19, 2⟩) (meth := k19m2) (c := k19c2) (by decide +kernel) rfl rfl rfl (by decide +kernel)
set_option maxRecDepth 65536 in
theorem w_c19 : (Jvm.Cond.code ({ cls := "java/util/ArrayList", name := "size", desc := "()I" } : Jvm.MethodName) jdk_38_method_8_code (1 : Nat) (Option.some Jvm.ClassFile.FieldType.int)).before args0 about1 = true := code_word (m := ⟨17, 3⟩) (meth := k17m3) (c := k17c3) (by decide +kernel) rfl rfl rfl (by decide +kernel)
set_option maxRecDepth 65536 in
theorem w_c20 : (Jvm.Cond.code ({ cls := "com/example/kindling/kindling/web/PathTemplateSegmentsPinLaw", name := "count", desc := "([CII)I" } : Jvm.MethodName) method_4_code (4 : Nat) (Option.some Jvm.ClassFile.FieldType.int)).before args0 about1 = true := code_word (m := ⟨1, 3⟩) (meth := k1m3) (c := k1c3) (by decide +kernel) rfl rfl rfl (by decide +kernel)
set_option maxRecDepth 65536 in
theorem w_c21 : (Jvm.Cond.code ({ cls := "com/example/kindling/kindling/web/PathTemplateSegmentsPinLaw", name := "slash", desc := "([CII)Z" } : Jvm.MethodName) method_3_code (3 : Nat) (Option.some Jvm.ClassFile.FieldType.boolean)).before args0 about1 = true := code_word (m := ⟨1, 2⟩) (meth := k1m2) (c := k1c2) (by decide +kernel) rfl rfl rfl (by decide +kernel)
set_option maxRecDepth 65536 in
theorem w_c22 : (Jvm.Cond.code ({ cls := "com/example/kindling/kindling/web/PathTemplateSegmentsPinLaw", name := "charOk", desc := "(Ljava/util/List;[CII)Z" } : Jvm.MethodName) method_7_code (7 : Nat) (Option.some Jvm.ClassFile.FieldType.boolean)).before args0 about1 = true := code_word (m := ⟨1, 6⟩) (meth := k1m6) (c := k1c6) (by decide +kernel) rfl rfl rfl (by decide +kernel)
set_option maxRecDepth 65536 in
theorem w_c23 : (Jvm.Cond.code ({ cls := "com/example/kindling/kindling/web/PathTemplateSegmentsPinLaw", name := "lenOk", desc := "(Ljava/util/List;[CII)Z" } : Jvm.MethodName) method_8_code (4 : Nat) (Option.some Jvm.ClassFile.FieldType.boolean)).before args0 about1 = true := code_word (m := ⟨1, 7⟩) (meth := k1m7) (c := k1c7) (by decide +kernel) rfl rfl rfl (by decide +kernel)
set_option maxRecDepth 65536 in
theorem w_c24 : (Jvm.Cond.code ({ cls := "java/lang/StringUTF16", name := "compress", desc := "([CII)[B" } : Jvm.MethodName) jdk_52_method_16_code (6 : Nat) (Option.some (Jvm.ClassFile.FieldType.array Jvm.ClassFile.FieldType.byte))).before args0 about1 = true := code_word (m := ⟨20, 2⟩) (meth := k20m2) (c := k20c2) (by decide +kernel) rfl rfl rfl (by decide +kernel)
set_option maxRecDepth 65536 in
theorem w_c25 : (Jvm.Cond.code ({ cls := "java/lang/StringUTF16", name := "compress", desc := "([CI[BII)I" } : Jvm.MethodName) jdk_52_method_21_code (7 : Nat) (Option.some Jvm.ClassFile.FieldType.int)).before args0 about1 = true := code_word (m := ⟨20, 3⟩) (meth := k20m3) (c := k20c3) (by decide +kernel) rfl rfl rfl (by decide +kernel)
set_option maxRecDepth 65536 in
theorem w_c26 : (Jvm.Cond.code ({ cls := "java/lang/StringUTF16", name := "coderFromArrayLen", desc := "([BI)B" } : Jvm.MethodName) jdk_52_method_15_code (2 : Nat) (Option.some Jvm.ClassFile.FieldType.byte)).before args0 about1 = true := code_word (m := ⟨20, 1⟩) (meth := k20m1) (c := k20c1) (by decide +kernel) rfl rfl rfl (by decide +kernel)
set_option maxRecDepth 65536 in
theorem w_c27 : (Jvm.Cond.code ({ cls := "java/lang/StringLatin1", name := "indexOfChar", desc := "([BIII)I" } : Jvm.MethodName) jdk_43_method_23_code (6 : Nat) (Option.some Jvm.ClassFile.FieldType.int)).before args0 about1 = true := code_word (m := ⟨18, 4⟩) (meth := k18m4) (c := k18c4) (by decide +kernel) rfl rfl rfl (by decide +kernel)
set_option maxRecDepth 65536 in
theorem w_c28 : (Jvm.Cond.code ({ cls := "java/lang/String", name := "substring", desc := "(II)Ljava/lang/String;" } : Jvm.MethodName) jdk_42_method_92_code (5 : Nat) (Option.some (Jvm.ClassFile.FieldType.object "java/lang/String"))).before args0 about1 = true := code_word (m := ⟨7, 6⟩) (meth := k7m6) (c := k7c6) (by decide +kernel) rfl rfl rfl (by decide +kernel)
set_option maxRecDepth 65536 in
theorem w_c29 : (Jvm.Cond.code ({ cls := "java/lang/String", name := "checkBoundsBeginEnd", desc := "(III)V" } : Jvm.MethodName) jdk_42_method_158_code (3 : Nat) (Option.none : Option Jvm.ClassFile.FieldType)).before args0 about1 = true := code_word (m := ⟨7, 12⟩) (meth := k7m12) (c := k7c12) (by decide +kernel) rfl rfl rfl (by decide +kernel)
set_option maxRecDepth 65536 in
theorem w_c30 : (Jvm.Cond.code ({ cls := "jdk/internal/util/Preconditions", name := "checkFromToIndex", desc := "(IIILjava/util/function/BiFunction;)I" } : Jvm.MethodName) jdk_41_method_12_code (4 : Nat) (Option.some Jvm.ClassFile.FieldType.int)).before args0 about1 = true := code_word (m := ⟨21, 2⟩) (meth := k21m2) (c := k21c2) (by decide +kernel) rfl rfl rfl (by decide +kernel)
set_option maxRecDepth 65536 in
theorem w_c31 : (Jvm.Cond.code ({ cls := "java/lang/StringLatin1", name := "newString", desc := "([BII)Ljava/lang/String;" } : Jvm.MethodName) jdk_43_method_47_code (3 : Nat) (Option.some (Jvm.ClassFile.FieldType.object "java/lang/String"))).before args0 about1 = true := code_word (m := ⟨18, 5⟩) (meth := k18m5) (c := k18c5) (by decide +kernel) rfl rfl rfl (by decide +kernel)
set_option maxRecDepth 65536 in
theorem w_c32 : (Jvm.Cond.code ({ cls := "java/util/Arrays", name := "copyOfRange", desc := "([BII)[B" } : Jvm.MethodName) jdk_65_method_132_code (3 : Nat) (Option.some (Jvm.ClassFile.FieldType.array Jvm.ClassFile.FieldType.byte))).before args0 about1 = true := code_word (m := ⟨22, 2⟩) (meth := k22m2) (c := k22c2) (by decide +kernel) rfl rfl rfl (by decide +kernel)
set_option maxRecDepth 65536 in
theorem w_c33 : (Jvm.Cond.code ({ cls := "java/util/Arrays", name := "copyOfRangeByte", desc := "([BII)[B" } : Jvm.MethodName) jdk_65_method_133_code (5 : Nat) (Option.some (Jvm.ClassFile.FieldType.array Jvm.ClassFile.FieldType.byte))).before args0 about1 = true := code_word (m := ⟨22, 3⟩) (meth := k22m3) (c := k22c3) (by decide +kernel) rfl rfl rfl (by decide +kernel)
set_option maxRecDepth 65536 in
theorem w_c34 : (Jvm.Cond.code ({ cls := "java/util/Arrays", name := "checkLength", desc := "(II)V" } : Jvm.MethodName) jdk_65_method_131_code (2 : Nat) (Option.none : Option Jvm.ClassFile.FieldType)).before args0 about1 = true := code_word (m := ⟨22, 1⟩) (meth := k22m1) (c := k22c1) (by decide +kernel) rfl rfl rfl (by decide +kernel)
set_option maxRecDepth 65536 in
theorem w_c35 : (Jvm.Cond.code ({ cls := "java/lang/String", name := "<init>", desc := "([BB)V" } : Jvm.MethodName) jdk_42_method_151_code (3 : Nat) (Option.none : Option Jvm.ClassFile.FieldType)).before args0 about1 = true := code_word (m := ⟨7, 8⟩) (meth := k7m8) (c := k7c8) (by decide +kernel) rfl rfl rfl (by decide +kernel)
set_option maxRecDepth 65536 in
theorem w_c36 : (Jvm.Cond.code ({ cls := "java/util/ArrayList", name := "add", desc := "(Ljava/lang/Object;)Z" } : Jvm.MethodName) jdk_38_method_25_code (2 : Nat) (Option.some Jvm.ClassFile.FieldType.boolean)).before args0 about1 = true := code_word (m := ⟨17, 7⟩) (meth := k17m7) (c := k17c7) (by decide +kernel) rfl rfl rfl (by decide +kernel)
set_option maxRecDepth 65536 in
theorem w_c37 : (Jvm.Cond.code ({ cls := "java/util/ArrayList", name := "add", desc := "(Ljava/lang/Object;[Ljava/lang/Object;I)V" } : Jvm.MethodName) jdk_38_method_24_code (4 : Nat) (Option.none : Option Jvm.ClassFile.FieldType)).before args0 about1 = true := code_word (m := ⟨17, 6⟩) (meth := k17m6) (c := k17c6) (by decide +kernel) rfl rfl rfl (by decide +kernel)
set_option maxRecDepth 65536 in
theorem w_c38 : (Jvm.Cond.code ({ cls := "java/util/ArrayList", name := "grow", desc := "()[Ljava/lang/Object;" } : Jvm.MethodName) jdk_38_method_7_code (1 : Nat) (Option.some (Jvm.ClassFile.FieldType.array (Jvm.ClassFile.FieldType.object "java/lang/Object")))).before args0 about1 = true := code_word (m := ⟨17, 2⟩) (meth := k17m2) (c := k17c2) (by decide +kernel) rfl rfl rfl (by decide +kernel)
set_option maxRecDepth 65536 in
theorem w_c39 : (Jvm.Cond.code ({ cls := "java/util/ArrayList", name := "grow", desc := "(I)[Ljava/lang/Object;" } : Jvm.MethodName) jdk_38_method_6_code (4 : Nat) (Option.some (Jvm.ClassFile.FieldType.array (Jvm.ClassFile.FieldType.object "java/lang/Object")))).before args0 about1 = true := code_word (m := ⟨17, 1⟩) (meth := k17m1) (c := k17c1) (by decide +kernel) rfl rfl rfl (by decide +kernel)
set_option maxRecDepth 65536 in
theorem w_c40 : (Jvm.Cond.code ({ cls := "com/example/kindling/kindling/web/PathTemplateSegmentsPinLaw", name := "last", desc := "([CII)I" } : Jvm.MethodName) method_5_code (3 : Nat) (Option.some Jvm.ClassFile.FieldType.int)).before args0 about1 = true := code_word (m := ⟨1, 4⟩) (meth := k1m4) (c := k1c4) (by decide +kernel) rfl rfl rfl (by decide +kernel)
set_option maxRecDepth 65536 in
theorem w_c41 : (Jvm.Cond.code ({ cls := "java/util/ArrayList", name := "get", desc := "(I)Ljava/lang/Object;" } : Jvm.MethodName) jdk_38_method_20_code (2 : Nat) (Option.some (Jvm.ClassFile.FieldType.object "java/lang/Object"))).before args0 about1 = true := code_word (m := ⟨17, 5⟩) (meth := k17m5) (c := k17c5) (by decide +kernel) rfl rfl rfl (by decide +kernel)
set_option maxRecDepth 65536 in
theorem w_c42 : (Jvm.Cond.code ({ cls := "java/util/Objects", name := "checkIndex", desc := "(II)I" } : Jvm.MethodName) jdk_31_method_17_code (2 : Nat) (Option.some Jvm.ClassFile.FieldType.int)).before args0 about1 = true := code_word (m := ⟨24, 1⟩) (meth := k24m1) (c := k24c1) (by decide +kernel) rfl rfl rfl (by decide +kernel)
set_option maxRecDepth 65536 in
theorem w_c43 : (Jvm.Cond.code ({ cls := "jdk/internal/util/Preconditions", name := "checkIndex", desc := "(IILjava/util/function/BiFunction;)I" } : Jvm.MethodName) jdk_41_method_11_code (3 : Nat) (Option.some Jvm.ClassFile.FieldType.int)).before args0 about1 = true := code_word (m := ⟨21, 1⟩) (meth := k21m1) (c := k21c1) (by decide +kernel) rfl rfl rfl (by decide +kernel)
set_option maxRecDepth 65536 in
theorem w_c44 : (Jvm.Cond.code ({ cls := "java/util/ArrayList", name := "elementData", desc := "(I)Ljava/lang/Object;" } : Jvm.MethodName) jdk_38_method_18_code (2 : Nat) (Option.some (Jvm.ClassFile.FieldType.object "java/lang/Object"))).before args0 about1 = true := code_word (m := ⟨17, 4⟩) (meth := k17m4) (c := k17c4) (by decide +kernel) rfl rfl rfl (by decide +kernel)
set_option maxRecDepth 65536 in
theorem w_c45 : (Jvm.Cond.code ({ cls := "java/lang/String", name := "charAt", desc := "(I)C" } : Jvm.MethodName) jdk_42_method_56_code (2 : Nat) (Option.some Jvm.ClassFile.FieldType.char)).before args0 about1 = true := code_word (m := ⟨7, 3⟩) (meth := k7m3) (c := k7c3) (by decide +kernel) rfl rfl rfl (by decide +kernel)
set_option maxRecDepth 65536 in
theorem w_c46 : (Jvm.Cond.code ({ cls := "java/lang/StringLatin1", name := "charAt", desc := "([BI)C" } : Jvm.MethodName) jdk_43_method_2_code (2 : Nat) (Option.some Jvm.ClassFile.FieldType.char)).before args0 about1 = true := code_word (m := ⟨18, 1⟩) (meth := k18m1) (c := k18c1) (by decide +kernel) rfl rfl rfl (by decide +kernel)
set_option maxRecDepth 65536 in
theorem w_c47 : (Jvm.Cond.code ({ cls := "java/lang/String", name := "checkIndex", desc := "(II)V" } : Jvm.MethodName) jdk_42_method_155_code (2 : Nat) (Option.none : Option Jvm.ClassFile.FieldType)).before args0 about1 = true := code_word (m := ⟨7, 11⟩) (meth := k7m11) (c := k7c11) (by decide +kernel) rfl rfl rfl (by decide +kernel)
set_option maxRecDepth 65536 in
theorem w_c48 : (Jvm.Cond.code ({ cls := "com/example/kindling/kindling/web/PathTemplateSegmentsPinLaw", name := "in", desc := "([CIII)I" } : Jvm.MethodName) method_6_code (4 : Nat) (Option.some Jvm.ClassFile.FieldType.int)).before args0 about1 = true := code_word (m := ⟨1, 5⟩) (meth := k1m5) (c := k1c5) (by decide +kernel) rfl rfl rfl (by decide +kernel)
def codes1 : List Jvm.Cond := [Jvm.Cond.code x code maxLocals ret, Jvm.Cond.code ({ cls := "com/example/kindling/kindling/web/PathTemplateSegmentsPinLaw", name := "draw", desc := "(I)C" } : Jvm.MethodName) method_2_code (1 : Nat) (Option.some Jvm.ClassFile.FieldType.char), Jvm.Cond.code ({ cls := "com/example/kindling/kindling/web/PathTemplateSegmentsPinLaw", name := "make", desc := "([CI)Ljava/lang/String;" } : Jvm.MethodName) method_9_code (2 : Nat) (Option.some (Jvm.ClassFile.FieldType.object "java/lang/String")), Jvm.Cond.code ({ cls := "java/lang/String", name := "<init>", desc := "([C)V" } : Jvm.MethodName) jdk_42_method_3_code (2 : Nat) (Option.none : Option Jvm.ClassFile.FieldType), Jvm.Cond.code ({ cls := "java/lang/String", name := "<init>", desc := "([CIILjava/lang/Void;)V" } : Jvm.MethodName) jdk_42_method_149_code (6 : Nat) (Option.none : Option Jvm.ClassFile.FieldType), Jvm.Cond.code ({ cls := "java/lang/Object", name := "<init>", desc := "()V" } : Jvm.MethodName) object_method_1_code (1 : Nat) (Option.none : Option Jvm.ClassFile.FieldType), Jvm.Cond.code ({ cls := "com/example/kindling/kindling/web/PathTemplate", name := "segments", desc := "(Ljava/lang/String;)Ljava/util/List;" } : Jvm.MethodName) prog_40_method_8_code (4 : Nat) (Option.some (Jvm.ClassFile.FieldType.object "java/util/List")), Jvm.Cond.code ({ cls := "java/util/ArrayList", name := "<init>", desc := "()V" } : Jvm.MethodName) jdk_38_method_2_code (1 : Nat) (Option.none : Option Jvm.ClassFile.FieldType), Jvm.Cond.code ({ cls := "java/util/AbstractList", name := "<init>", desc := "()V" } : Jvm.MethodName) jdk_39_method_1_code (1 : Nat) (Option.none : Option Jvm.ClassFile.FieldType), Jvm.Cond.code ({ cls := "java/util/AbstractCollection", name := "<init>", desc := "()V" } : Jvm.MethodName) jdk_22_method_1_code (1 : Nat) (Option.none : Option Jvm.ClassFile.FieldType), Jvm.Cond.code ({ cls := "java/lang/String", name := "indexOf", desc := "(I)I" } : Jvm.MethodName) jdk_42_method_79_code (2 : Nat) (Option.some Jvm.ClassFile.FieldType.int), Jvm.Cond.code ({ cls := "java/lang/String", name := "indexOf", desc := "(II)I" } : Jvm.MethodName) jdk_42_method_80_code (3 : Nat) (Option.some Jvm.ClassFile.FieldType.int), Jvm.Cond.code ({ cls := "java/lang/String", name := "isLatin1", desc := "()Z" } : Jvm.MethodName) jdk_42_method_154_code (1 : Nat) (Option.some Jvm.ClassFile.FieldType.boolean), Jvm.Cond.code ({ cls := "java/lang/String", name := "length", desc := "()I" } : Jvm.MethodName) jdk_42_method_54_code (1 : Nat) (Option.some Jvm.ClassFile.FieldType.int), Jvm.Cond.code ({ cls := "java/lang/String", name := "coder", desc := "()B" } : Jvm.MethodName) jdk_42_method_152_code (1 : Nat) (Option.some Jvm.ClassFile.FieldType.byte), Jvm.Cond.code ({ cls := "java/lang/StringLatin1", name := "indexOf", desc := "([BIII)I" } : Jvm.MethodName) jdk_43_method_22_code (4 : Nat) (Option.some Jvm.ClassFile.FieldType.int), Jvm.Cond.code ({ cls := "java/lang/StringLatin1", name := "canEncode", desc := "(I)Z" } : Jvm.MethodName) jdk_43_method_4_code (1 : Nat) (Option.some Jvm.ClassFile.FieldType.boolean), Jvm.Cond.code ({ cls := "java/lang/Math", name := "max", desc := "(II)I" } : Jvm.MethodName) jdk_29_method_65_code (2 : Nat) (Option.some Jvm.ClassFile.FieldType.int), Jvm.Cond.code ({ cls := "java/lang/Math", name := "min", desc := "(II)I" } : Jvm.MethodName) jdk_29_method_69_code (2 : Nat) (Option.some Jvm.ClassFile.FieldType.int), Jvm.Cond.code ({ cls := "java/util/ArrayList", name := "size", desc := "()I" } : Jvm.MethodName) jdk_38_method_8_code (1 : Nat) (Option.some Jvm.ClassFile.FieldType.int), Jvm.Cond.code ({ cls := "com/example/kindling/kindling/web/PathTemplateSegmentsPinLaw", name := "count", desc := "([CII)I" } : Jvm.MethodName) method_4_code (4 : Nat) (Option.some Jvm.ClassFile.FieldType.int), Jvm.Cond.code ({ cls := "com/example/kindling/kindling/web/PathTemplateSegmentsPinLaw", name := "slash", desc := "([CII)Z" } : Jvm.MethodName) method_3_code (3 : Nat) (Option.some Jvm.ClassFile.FieldType.boolean), Jvm.Cond.code ({ cls := "com/example/kindling/kindling/web/PathTemplateSegmentsPinLaw", name := "charOk", desc := "(Ljava/util/List;[CII)Z" } : Jvm.MethodName) method_7_code (7 : Nat) (Option.some Jvm.ClassFile.FieldType.boolean), Jvm.Cond.code ({ cls := "com/example/kindling/kindling/web/PathTemplateSegmentsPinLaw", name := "lenOk", desc := "(Ljava/util/List;[CII)Z" } : Jvm.MethodName) method_8_code (4 : Nat) (Option.some Jvm.ClassFile.FieldType.boolean), Jvm.Cond.code ({ cls := "java/lang/StringUTF16", name := "compress", desc := "([CII)[B" } : Jvm.MethodName) jdk_52_method_16_code (6 : Nat) (Option.some (Jvm.ClassFile.FieldType.array Jvm.ClassFile.FieldType.byte)), Jvm.Cond.code ({ cls := "java/lang/StringUTF16", name := "compress", desc := "([CI[BII)I" } : Jvm.MethodName) jdk_52_method_21_code (7 : Nat) (Option.some Jvm.ClassFile.FieldType.int), Jvm.Cond.code ({ cls := "java/lang/StringUTF16", name := "coderFromArrayLen", desc := "([BI)B" } : Jvm.MethodName) jdk_52_method_15_code (2 : Nat) (Option.some Jvm.ClassFile.FieldType.byte), Jvm.Cond.code ({ cls := "java/lang/StringLatin1", name := "indexOfChar", desc := "([BIII)I" } : Jvm.MethodName) jdk_43_method_23_code (6 : Nat) (Option.some Jvm.ClassFile.FieldType.int), Jvm.Cond.code ({ cls := "java/lang/String", name := "substring", desc := "(II)Ljava/lang/String;" } : Jvm.MethodName) jdk_42_method_92_code (5 : Nat) (Option.some (Jvm.ClassFile.FieldType.object "java/lang/String")), Jvm.Cond.code ({ cls := "java/lang/String", name := "checkBoundsBeginEnd", desc := "(III)V" } : Jvm.MethodName) jdk_42_method_158_code (3 : Nat) (Option.none : Option Jvm.ClassFile.FieldType), Jvm.Cond.code ({ cls := "jdk/internal/util/Preconditions", name := "checkFromToIndex", desc := "(IIILjava/util/function/BiFunction;)I" } : Jvm.MethodName) jdk_41_method_12_code (4 : Nat) (Option.some Jvm.ClassFile.FieldType.int), Jvm.Cond.code ({ cls := "java/lang/StringLatin1", name := "newString", desc := "([BII)Ljava/lang/String;" } : Jvm.MethodName) jdk_43_method_47_code (3 : Nat) (Option.some (Jvm.ClassFile.FieldType.object "java/lang/String")), Jvm.Cond.code ({ cls := "java/util/Arrays", name := "copyOfRange", desc := "([BII)[B" } : Jvm.MethodName) jdk_65_method_132_code (3 : Nat) (Option.some (Jvm.ClassFile.FieldType.array Jvm.ClassFile.FieldType.byte)), Jvm.Cond.code ({ cls := "java/util/Arrays", name := "copyOfRangeByte", desc := "([BII)[B" } : Jvm.MethodName) jdk_65_method_133_code (5 : Nat) (Option.some (Jvm.ClassFile.FieldType.array Jvm.ClassFile.FieldType.byte)), Jvm.Cond.code ({ cls := "java/util/Arrays", name := "checkLength", desc := "(II)V" } : Jvm.MethodName) jdk_65_method_131_code (2 : Nat) (Option.none : Option Jvm.ClassFile.FieldType), Jvm.Cond.code ({ cls := "java/lang/String", name := "<init>", desc := "([BB)V" } : Jvm.MethodName) jdk_42_method_151_code (3 : Nat) (Option.none : Option Jvm.ClassFile.FieldType), Jvm.Cond.code ({ cls := "java/util/ArrayList", name := "add", desc := "(Ljava/lang/Object;)Z" } : Jvm.MethodName) jdk_38_method_25_code (2 : Nat) (Option.some Jvm.ClassFile.FieldType.boolean), Jvm.Cond.code ({ cls := "java/util/ArrayList", name := "add", desc := "(Ljava/lang/Object;[Ljava/lang/Object;I)V" } : Jvm.MethodName) jdk_38_method_24_code (4 : Nat) (Option.none : Option Jvm.ClassFile.FieldType), Jvm.Cond.code ({ cls := "java/util/ArrayList", name := "grow", desc := "()[Ljava/lang/Object;" } : Jvm.MethodName) jdk_38_method_7_code (1 : Nat) (Option.some (Jvm.ClassFile.FieldType.array (Jvm.ClassFile.FieldType.object "java/lang/Object"))), Jvm.Cond.code ({ cls := "java/util/ArrayList", name := "grow", desc := "(I)[Ljava/lang/Object;" } : Jvm.MethodName) jdk_38_method_6_code (4 : Nat) (Option.some (Jvm.ClassFile.FieldType.array (Jvm.ClassFile.FieldType.object "java/lang/Object"))), Jvm.Cond.code ({ cls := "com/example/kindling/kindling/web/PathTemplateSegmentsPinLaw", name := "last", desc := "([CII)I" } : Jvm.MethodName) method_5_code (3 : Nat) (Option.some Jvm.ClassFile.FieldType.int), Jvm.Cond.code ({ cls := "java/util/ArrayList", name := "get", desc := "(I)Ljava/lang/Object;" } : Jvm.MethodName) jdk_38_method_20_code (2 : Nat) (Option.some (Jvm.ClassFile.FieldType.object "java/lang/Object")), Jvm.Cond.code ({ cls := "java/util/Objects", name := "checkIndex", desc := "(II)I" } : Jvm.MethodName) jdk_31_method_17_code (2 : Nat) (Option.some Jvm.ClassFile.FieldType.int), Jvm.Cond.code ({ cls := "jdk/internal/util/Preconditions", name := "checkIndex", desc := "(IILjava/util/function/BiFunction;)I" } : Jvm.MethodName) jdk_41_method_11_code (3 : Nat) (Option.some Jvm.ClassFile.FieldType.int), Jvm.Cond.code ({ cls := "java/util/ArrayList", name := "elementData", desc := "(I)Ljava/lang/Object;" } : Jvm.MethodName) jdk_38_method_18_code (2 : Nat) (Option.some (Jvm.ClassFile.FieldType.object "java/lang/Object")), Jvm.Cond.code ({ cls := "java/lang/String", name := "charAt", desc := "(I)C" } : Jvm.MethodName) jdk_42_method_56_code (2 : Nat) (Option.some Jvm.ClassFile.FieldType.char), Jvm.Cond.code ({ cls := "java/lang/StringLatin1", name := "charAt", desc := "([BI)C" } : Jvm.MethodName) jdk_43_method_2_code (2 : Nat) (Option.some Jvm.ClassFile.FieldType.char), Jvm.Cond.code ({ cls := "java/lang/String", name := "checkIndex", desc := "(II)V" } : Jvm.MethodName) jdk_42_method_155_code (2 : Nat) (Option.none : Option Jvm.ClassFile.FieldType), Jvm.Cond.code ({ cls := "com/example/kindling/kindling/web/PathTemplateSegmentsPinLaw", name := "in", desc := "([CIII)I" } : Jvm.MethodName) method_6_code (4 : Nat) (Option.some Jvm.ClassFile.FieldType.int)]
set_option maxRecDepth 65536 in
theorem codes_eq : words1.filter isCode = codes1 := rfl
theorem w_codes : ∀ c ∈ words1.filter isCode, c.before args0 about1 = true := by
  rw [codes_eq]
  intro c hc
  simp only [codes1, List.mem_cons, List.not_mem_nil, or_false] at hc
  rcases hc with rfl | rfl | rfl | rfl | rfl | rfl | rfl | rfl | rfl | rfl | rfl | rfl | rfl | rfl | rfl | rfl | rfl | rfl | rfl | rfl | rfl | rfl | rfl | rfl | rfl | rfl | rfl | rfl | rfl | rfl | rfl | rfl | rfl | rfl | rfl | rfl | rfl | rfl | rfl | rfl | rfl | rfl | rfl | rfl | rfl | rfl | rfl | rfl | rfl
  · exact w_c0
  · exact w_c1
  · exact w_c2
  · exact w_c3
  · exact w_c4
  · exact w_c5
  · exact w_c6
  · exact w_c7
  · exact w_c8
  · exact w_c9
  · exact w_c10
  · exact w_c11
  · exact w_c12
  · exact w_c13
  · exact w_c14
  · exact w_c15
  · exact w_c16
  · exact w_c17
  · exact w_c18
  · exact w_c19
  · exact w_c20
  · exact w_c21
  · exact w_c22
  · exact w_c23
  · exact w_c24
  · exact w_c25
  · exact w_c26
  · exact w_c27
  · exact w_c28
  · exact w_c29
  · exact w_c30
  · exact w_c31
  · exact w_c32
  · exact w_c33
  · exact w_c34
  · exact w_c35
  · exact w_c36
  · exact w_c37
  · exact w_c38
  · exact w_c39
  · exact w_c40
  · exact w_c41
  · exact w_c42
  · exact w_c43
  · exact w_c44
  · exact w_c45
  · exact w_c46
  · exact w_c47
  · exact w_c48
set_option maxRecDepth 65536 in
theorem w_t1 : (words1.take 24).all (fun c => isCode c || c.before args0 about1) = true := by decide +kernel
set_option maxRecDepth 65536 in
theorem w_t2 : ((words1.drop 24).take 24).all (fun c => isCode c || c.before args0 about1) = true := by decide +kernel
set_option maxRecDepth 65536 in
theorem w_t3 : (((words1.drop 24).drop 24).take 24).all (fun c => isCode c || c.before args0 about1) = true := by decide +kernel
set_option maxRecDepth 65536 in
theorem w_t4 : ((((words1.drop 24).drop 24).drop 24).take 24).all (fun c => isCode c || c.before args0 about1) = true := by decide +kernel
set_option maxRecDepth 65536 in
theorem w_t5 : (((((words1.drop 24).drop 24).drop 24).drop 24).take 24).all (fun c => isCode c || c.before args0 about1) = true := by decide +kernel
set_option maxRecDepth 65536 in
theorem w_t6 : ((((((words1.drop 24).drop 24).drop 24).drop 24).drop 24).take 24).all (fun c => isCode c || c.before args0 about1) = true := by decide +kernel
set_option maxRecDepth 65536 in
theorem w_t7 : (((((((words1.drop 24).drop 24).drop 24).drop 24).drop 24).drop 24).take 24).all (fun c => isCode c || c.before args0 about1) = true := by decide +kernel
set_option maxRecDepth 65536 in
theorem w_t8 : ((((((((words1.drop 24).drop 24).drop 24).drop 24).drop 24).drop 24).drop 24).take 24).all (fun c => isCode c || c.before args0 about1) = true := by decide +kernel
set_option maxRecDepth 65536 in
theorem w_t9 : (((((((((words1.drop 24).drop 24).drop 24).drop 24).drop 24).drop 24).drop 24).drop 24).take 24).all (fun c => isCode c || c.before args0 about1) = true := by decide +kernel
set_option maxRecDepth 65536 in
theorem w_t10 : ((((((((((words1.drop 24).drop 24).drop 24).drop 24).drop 24).drop 24).drop 24).drop 24).drop 24).take 24).all (fun c => isCode c || c.before args0 about1) = true := by decide +kernel
set_option maxRecDepth 65536 in
theorem w_t11 : ((((((((((words1.drop 24).drop 24).drop 24).drop 24).drop 24).drop 24).drop 24).drop 24).drop 24).drop 24).all (fun c => isCode c || c.before args0 about1) = true := by decide +kernel
theorem w_tables : (allAtoms (Jvm.Cond.code x code maxLocals ret :: tables_1)).before args0 about1 = true := by
  rw [allAtoms_all]
  show words1.all (fun c => c.before args0 about1) = true
  refine all_split ?_ w_codes
  rw [← List.take_append_drop 24 words1, List.all_append, w_t1, ← List.take_append_drop 24 (words1.drop 24), List.all_append, w_t2, ← List.take_append_drop 24 ((words1.drop 24).drop 24), List.all_append, w_t3, ← List.take_append_drop 24 (((words1.drop 24).drop 24).drop 24), List.all_append, w_t4, ← List.take_append_drop 24 ((((words1.drop 24).drop 24).drop 24).drop 24), List.all_append, w_t5, ← List.take_append_drop 24 (((((words1.drop 24).drop 24).drop 24).drop 24).drop 24), List.all_append, w_t6, ← List.take_append_drop 24 ((((((words1.drop 24).drop 24).drop 24).drop 24).drop 24).drop 24), List.all_append, w_t7, ← List.take_append_drop 24 (((((((words1.drop 24).drop 24).drop 24).drop 24).drop 24).drop 24).drop 24), List.all_append, w_t8, ← List.take_append_drop 24 ((((((((words1.drop 24).drop 24).drop 24).drop 24).drop 24).drop 24).drop 24).drop 24), List.all_append, w_t9, ← List.take_append_drop 24 (((((((((words1.drop 24).drop 24).drop 24).drop 24).drop 24).drop 24).drop 24).drop 24).drop 24), List.all_append, w_t10, w_t11]
  rfl
set_option maxRecDepth 65536 in
theorem w_rest : rest_1_c.before args0 about1 = true := by decide +kernel
set_option maxRecDepth 65536 in
theorem w_case : (Jvm.Cond.and given_1 narrow_1).before args0 about1 = true := by decide +kernel
set_option maxRecDepth 65536 in
theorem w_consts : constsHeld consts_1 about1 := Jvm.Lit.constsHeldB_iff.mp (by decide +kernel)
theorem w_applies : (headSpec (Jvm.Cond.code x code maxLocals ret :: tables_1) room_1).applies x e0.platform about1 = true :=
  (Spec.applies_iff w_frames).mpr ⟨w_running, w_runnable, w_alone, w_named, w_hears, w_ripe, w_room, w_tables⟩
theorem atStart : AtStart classFile x code maxLocals ret World_1 tables_1 room_1 Calls_1 rest_1 Pre_1 launch0 p0 e0 about1 theMethod args0 below0 :=
  ⟨lists_1, trivial, launch0.admits_env _ _ _, launch0.least_env, fairChoices_fair.cas, fairChoices_fair.clock, w_frames, w_args, w_heap, w_applies, ⟨w_consts, trivial⟩, w_rest, w_case⟩
end start1
theorem witness_1 : WitnessClaimed_1 := ⟨start1.p0, start1.e0, start1.about1, start1.theMethod, start1.args0, start1.below0, start1.atStart⟩
end Jvm.Pilot.@@N@@
