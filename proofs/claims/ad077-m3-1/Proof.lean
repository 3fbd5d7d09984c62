import JvmDerived
import JvmDerived.Pilot.@@N@@Statement
import JvmDerived.Pilot.@@N@@Code
set_option linter.unusedVariables false
set_option linter.unusedSimpArgs false
namespace Jvm.RoadKit
open Sem ClassFile Op Lib Jvm.Stand Jvm.Free Jvm.LawKit
section New
variable {p : Program} {l : Launch} {e : Env} {R : Room} {s : State} {m : MethodId} {args : Array Value} {below : List Frame} {meth : Method} {c : Code} {T : State} {locs : List Loc} {cells slots : Nat}
theorem retI (X : Stand p l e R s m args below meth c T locs cells slots) (hx : p.tables.exec = Jvm.exec) {pc : Nat} {Ls : Array Slot} {z : Int32} {rest : List Value} (hret : meth.sig.returnType = some .int) (hd : decode c.code pc = .ok (.ireturn, 1)) {fs : List Frame}
    (hl : ∀ (f : JFrame) (acts : List Action), f.method = m → f.locked = none → f.entered = [] → (doReturn e (T.setTop f) acts (some (.int z))).1 = T.setFrames fs) : Steps p.tables e below (T.setTop (mkF m pc Ls (.int z :: rest))) (T.setFrames fs) := by
  have hm' : T.vm.method? m = some meth := X.method'
  have hn : narrow .int (.int z) = .int z := rfl
  show Steps p.tables e below (T.setTop { method := m, pc := pc, locals := Ls, stack := _ :: rest, locked := none }) _
  jvm_step X.here [X.here.top, hx, hd, hm', hret, hn]
  first | (intro acts; rw [hl _ acts rfl rfl rfl]) | rw [hl _ _ rfl rfl rfl]
  exact Steps.refl _
end New
end Jvm.RoadKit
/- laws to paste: Road.backV (cut by pick.py; bodies as the Statement names them) -/
namespace Jvm.Pilot.@@N@@
namespace StrChars
open Jvm Sem ClassFile Op Lib Jvm.Stand Jvm.Free.XT Jvm.Free.ALB Jvm.Free.JM Jvm.Free
open Jvm.Lib.Cold (StaticIs)
/-- a char array whose places are chars -/
def Ch (a : Addr) (A : Cell) (U : State) : Prop := Arr .char a A U ∧ Typed .char A
theorem Ch.mv {a : Addr} {A : Cell} {U U' : State} (h : Ch a A U) (hal : U.vm.Alike U'.vm) (hh : U'.heap = U.heap) : Ch a A U' := ⟨h.1.mv hal hh, h.2⟩
theorem Ch.keep {a : Addr} {A : Cell} {U U' : State} (h : Ch a A U) (hal : U.vm.Alike U'.vm) (hk : U'.heap[a]? = some A) : Ch a A U' := ⟨h.1.keep hal hk, h.2⟩
/-- what place i of a char[]'s cell holds -/
def cv (A : Cell) (i : Nat) : Int32 := match A.slots[i]? with | some (.int x) => x | _ => 0
theorem Ch.get {a : Addr} {A : Cell} {U : State} (h : Ch a A U) {i : Nat} (hi : i < A.slots.size) : A.slots[i]? = some (.int (cv A i)) := by
  have e := Array.getElem?_eq_getElem hi
  have f := h.2 i _ e
  unfold cv; rw [e]
  generalize A.slots[i] = v at f
  cases v <;> simp [fits] at f ⊢
/-- the byte that i2b leaves of a char -/
def lo8 (x : Int32) : Int32 := x.toInt8.toInt32
theorem fits_lo8 (y : Int32) : fits .byte (.int (lo8 y)) = true := by
  have h1 := y.toInt8.le_toInt
  have h2 := y.toInt8.toInt_lt
  simp only [lo8, fits, Bool.and_eq_true, decide_eq_true_eq, Int32.le_iff_toInt_le, Int8.toInt_toInt32, show (-128 : Int32).toInt = -128 from by decide, show (127 : Int32).toInt = 127 from by decide]
  omega
/-- A' is A but that each place j of lo .. hi - 1 holds f j -/
def Laid (A A' : Cell) (lo hi : Nat) (f : Nat → Value) : Prop := A'.cls = A.cls ∧ A'.vm = A.vm ∧ A'.slots.size = A.slots.size ∧ ∀ i, A'.slots[i]? = if lo ≤ i ∧ i < hi then some (f i) else A.slots[i]?
theorem Laid.zero (A : Cell) (lo : Nat) (f : Nat → Value) : Laid A A lo (lo + 0) f := ⟨rfl, rfl, rfl, fun i => by rw [if_neg (by omega)]⟩
theorem Laid.step {A Ak : Cell} {lo k : Nat} {f : Nat → Value} {v : Value} (h : Laid A Ak lo k f) (hlo : lo ≤ k) (hk : k < Ak.slots.size) (hv : v = f k) : Laid A (Ak.setSlot k v) lo (k + 1) f := by
  refine ⟨h.1, h.2.1, by simpa [Cell.setSlot] using h.2.2.1, fun i => ?_⟩
  by_cases e : k = i
  · subst e; rw [Cell.slots_setSlot_self v hk, if_pos (by omega), hv]
  · rw [Cell.slots_setSlot_ne v e, h.2.2.2 i]
    by_cases q : lo ≤ i ∧ i < k
    · rw [if_pos q, if_pos (by omega)]
    · rw [if_neg q, if_neg (by omega)]
def U16 : String := "java/lang/StringUTF16"
namespace Cmp5
def yN : MethodName := ⟨"java/lang/StringUTF16", "compress", "([CI[BII)I"⟩
abbrev yB : ByteArray := jdk_52_method_21_code
theorem d0 : decode yB 0 = .ok (.iconst 0, 1) := by decide +kernel
theorem d1 : decode yB 1 = .ok (.istore 5, 2) := by decide +kernel
theorem d3 : decode yB 3 = .ok (.iload 5, 2) := by decide +kernel
theorem d5 : decode yB 5 = .ok (.iload 4, 2) := by decide +kernel
theorem d7 : decode yB 7 = .ok (.if_icmp (.ge) 37, 3) := by decide +kernel
theorem d10 : decode yB 10 = .ok (.aload_n 0, 1) := by decide +kernel
theorem d11 : decode yB 11 = .ok (.iload_n 1, 1) := by decide +kernel
theorem d12 : decode yB 12 = .ok (.caload, 1) := by decide +kernel
theorem d13 : decode yB 13 = .ok (.istore 6, 2) := by decide +kernel
theorem d15 : decode yB 15 = .ok (.iload 6, 2) := by decide +kernel
theorem d17 : decode yB 17 = .ok (.sipush 255, 3) := by decide +kernel
theorem d20 : decode yB 20 = .ok (.if_icmp (.le) 6, 3) := by decide +kernel
theorem d26 : decode yB 26 = .ok (.aload_n 2, 1) := by decide +kernel
theorem d27 : decode yB 27 = .ok (.iload_n 3, 1) := by decide +kernel
theorem d28 : decode yB 28 = .ok (.iload 6, 2) := by decide +kernel
theorem d30 : decode yB 30 = .ok (.i2b, 1) := by decide +kernel
theorem d31 : decode yB 31 = .ok (.bastore, 1) := by decide +kernel
theorem d32 : decode yB 32 = .ok (.iinc 1 1, 3) := by decide +kernel
theorem d35 : decode yB 35 = .ok (.iinc 3 1, 3) := by decide +kernel
theorem d38 : decode yB 38 = .ok (.iinc 5 1, 3) := by decide +kernel
theorem d41 : decode yB 41 = .ok (.goto (-38), 3) := by decide +kernel
theorem d44 : decode yB 44 = .ok (.iload 4, 2) := by decide +kernel
theorem d46 : decode yB 46 = .ok (.ireturn, 1) := by decide +kernel
def site : List Cond := []
def tab : Cond := tabOf yN yB 7 (some .int) site
def P (b : Addr) (A : Cell) (d : Addr) (B : Cell) (o q len : Nat) (args : Array Value) (s : State) : Prop := args = #[.ref b, .int (Int32.ofNat o), .ref d, .int (Int32.ofNat q), .int (Int32.ofNat len)] ∧ Ch b A s ∧ Arr .byte d B s ∧ b ≠ d ∧ o + len ≤ A.slots.size ∧ q + len ≤ B.slots.size ∧ ∀ i, i < len → ¬ 255 < cv A (o + i)
def E (b : Addr) (A : Cell) (d : Addr) (B : Cell) (o q len : Nat) (r : Option Value) (s u : State) : Prop := r = some (.int (Int32.ofNat len)) ∧ ∃ B', Put d B' s u ∧ Laid B B' q (q + len) (fun j => Value.int (lo8 (cv A (o + (j - q)))))
/-- no char of the range above 255: len; the places written hold each char's low byte -/
theorem law (l : Launch) (b : Addr) (A : Cell) (d : Addr) (B : Cell) (o q len : Nat) : Law l yN 5 5 0 0 yB 7 (some .int) site (P b A d B o q len) (E b A d B o q len) (copyLocs d q len) 0 0 := by
  refine Law.of_walk (plainFor_of_name (by decide +kernel)) (by decide +kernel) (by decide +kernel) (by decide) (fun _ _ h => by rw [h.1]; rfl) (fun _ U U' hal hh h => ⟨h.1, h.2.1.mv hal hh, h.2.2.1.mv hal hh, h.2.2.2⟩) (fun r U U' V V' h1 hal h2 h => ⟨h.1, h.2.elim fun B' q => ⟨B', q.1.mv h1 h2, q.2⟩⟩) ?_
  intro p e s m args below meth c s₁ X0 hexec hbytes hml hret hlk hnm hown hh0 W hP
  obtain ⟨rfl, hA, hB, hne, l1, l2, hp⟩ := hP
  have c1 : Steps p.tables e below (s₁.setTop (entryFrame m #[.ref b, .int (Int32.ofNat o), .ref d, .int (Int32.ofNat q), .int (Int32.ofNat len)] 7)) (s₁.setTop (mkF m 0 #[.val (.ref b), .val (.int (Int32.ofNat o)), .val (.ref d), .val (.int (Int32.ofNat q)), .val (.int (Int32.ofNat len)), .unset, .unset] [])) := entry rfl
  have hA0 := hA.1.mv X0.warmed.alike hh0
  have hB0 := hB.mv X0.warmed.alike hh0
  have a31 := hA.1.2.2.2
  have c2 : Steps p.tables e below (s₁.setTop (entryFrame m #[.ref b, .int (Int32.ofNat o), .ref d, .int (Int32.ofNat q), .int (Int32.ofNat len)] 7)) (s₁.setTop (mkF m 3 #[.val (.ref b), .val (.int (Int32.ofNat o)), .val (.ref d), .val (.int (Int32.ofNat q)), .val (.int (Int32.ofNat len)), .val (.int 0), .unset] [])) := c1.trans (by
    refine iconstV X0.here hexec rfl 0 (hb hbytes d0) (by decide) ?_
    refine XS.istore X0.here hexec rfl (hb hbytes d1) rfl rfl ?_
    exact Steps.refl _)
  have loop : ∀ (r i : Nat), i + r = len → ∀ (z : Slot), (z = .unset ∨ ∃ w, z = .val w ∧ w.category = 1) → ∀ (Tl : State) (Bk : Cell), Stand p l e { frames := 0, locals := 0, cells := 0, slots := 0 } s m #[.ref b, .int (Int32.ofNat o), .ref d, .int (Int32.ofNat q), .int (Int32.ofNat len)] below meth c Tl ([] ++ copyLocs d q i) 0 0 → Put d Bk s₁ Tl → Laid B Bk q (q + i) (fun j => Value.int (lo8 (cv A (o + (j - q))))) →
      Steps p.tables e below (s₁.setTop (entryFrame m #[.ref b, .int (Int32.ofNat o), .ref d, .int (Int32.ofNat q), .int (Int32.ofNat len)] 7)) (Tl.setTop (mkF m 3 #[.val (.ref b), .val (.int (Int32.ofNat (o + i))), .val (.ref d), .val (.int (Int32.ofNat (q + i))), .val (.int (Int32.ofNat len)), .val (.int (Int32.ofNat i)), z] [])) → ∃ (T' : State) (B' : Cell) (z' : Slot), Stand p l e { frames := 0, locals := 0, cells := 0, slots := 0 } s m #[.ref b, .int (Int32.ofNat o), .ref d, .int (Int32.ofNat q), .int (Int32.ofNat len)] below meth c T' ([] ++ copyLocs d q len) 0 0 ∧ Put d B' s₁ T' ∧ Laid B B' q (q + len) (fun j => Value.int (lo8 (cv A (o + (j - q))))) ∧
      Steps p.tables e below (s₁.setTop (entryFrame m #[.ref b, .int (Int32.ofNat o), .ref d, .int (Int32.ofNat q), .int (Int32.ofNat len)] 7)) (T'.setTop (mkF m 3 #[.val (.ref b), .val (.int (Int32.ofNat (o + len))), .val (.ref d), .val (.int (Int32.ofNat (q + len))), .val (.int (Int32.ofNat len)), .val (.int (Int32.ofNat len)), z'] [])) := by
    intro r
    induction r with
    | zero =>
      intro i hi z hz Tl Bk Xl pl fl cl
      have hil : i = len := by omega
      rw [hil] at Xl fl cl
      exact ⟨Tl, Bk, z, Xl, pl, fl, cl⟩
    | succ r ih =>
      intro i hi z hz Tl Bk Xl pl fl cl
      have all := X0.warmed.alike.symm.trans Xl.warmed.alike
      have hAl := hA0.keep all (pl.other hne hA0.1)
      have hBk := hB0.like all pl.1 fl.1 fl.2.1 fl.2.2.1
      have hlt : q + i < Bk.slots.size := by rw [fl.2.2.1]; omega
      have c3 : Steps p.tables e below (s₁.setTop (entryFrame m #[.ref b, .int (Int32.ofNat o), .ref d, .int (Int32.ofNat q), .int (Int32.ofNat len)] 7)) (Tl.setTop (mkF m 12 #[.val (.ref b), .val (.int (Int32.ofNat (o + i))), .val (.ref d), .val (.int (Int32.ofNat (q + i))), .val (.int (Int32.ofNat len)), .val (.int (Int32.ofNat i)), z] [.int (Int32.ofNat (o + i)), .ref b])) := cl.trans (by
        refine XS.iload Xl.here hexec rfl (hb hbytes d3) rfl ?_
        refine XS.iload Xl.here hexec rfl (hb hbytes d5) rfl ?_
        refine XS.icmpNo Xl.here hexec rfl (hb hbytes d7) rfl (ii_ge_f (lt32 (by omega) (by omega))) ?_
        refine XS.aloadN Xl.here hexec rfl (hb hbytes d10) rfl rfl ?_
        refine XS.iloadN Xl.here hexec rfl (hb hbytes d11) rfl ?_
        exact Steps.refl _)
      have c4 : Steps p.tables e below (s₁.setTop (entryFrame m #[.ref b, .int (Int32.ofNat o), .ref d, .int (Int32.ofNat q), .int (Int32.ofNat len)] 7)) (Tl.setTop (mkF m 13 #[.val (.ref b), .val (.int (Int32.ofNat (o + i))), .val (.ref d), .val (.int (Int32.ofNat (q + i))), .val (.int (Int32.ofNat len)), .val (.int (Int32.ofNat i)), z] [.int (cv A (o + i))])) := c3.trans (by
        refine Xl.aget hexec hAl rfl (hA.get (i := o + i) (by omega)) rfl rfl (hb hbytes d12) ?_
        exact Steps.refl _)
      have c5 : Steps p.tables e below (s₁.setTop (entryFrame m #[.ref b, .int (Int32.ofNat o), .ref d, .int (Int32.ofNat q), .int (Int32.ofNat len)] 7)) (Tl.setTop (mkF m 15 #[.val (.ref b), .val (.int (Int32.ofNat (o + i))), .val (.ref d), .val (.int (Int32.ofNat (q + i))), .val (.int (Int32.ofNat len)), .val (.int (Int32.ofNat i)), .val (.int (cv A (o + i)))] [])) := c4.trans (by
        refine XS.istoreS Xl.here hexec rfl (hb hbytes d13) rfl rfl hz ?_
        exact Steps.refl _)
      have c6 : Steps p.tables e below (s₁.setTop (entryFrame m #[.ref b, .int (Int32.ofNat o), .ref d, .int (Int32.ofNat q), .int (Int32.ofNat len)] 7)) (Tl.setTop (mkF m 31 #[.val (.ref b), .val (.int (Int32.ofNat (o + i))), .val (.ref d), .val (.int (Int32.ofNat (q + i))), .val (.int (Int32.ofNat len)), .val (.int (Int32.ofNat i)), .val (.int (cv A (o + i)))] [.int (lo8 (cv A (o + i))), .int (Int32.ofNat (q + i)), .ref d])) := c5.trans (by
        refine XS.iload Xl.here hexec rfl (hb hbytes d15) rfl ?_
        refine sipushV Xl.here hexec rfl 255 (hb hbytes d17) (by decide) ?_
        refine XS.icmpYes Xl.here hexec rfl (pc0 := 20) rfl (hb hbytes d20) rfl (ii_le_t (hp i (by omega))) (by decide) rfl ?_
        refine XS.aloadN Xl.here hexec rfl (hb hbytes d26) rfl rfl ?_
        refine XS.iloadN Xl.here hexec rfl (hb hbytes d27) rfl ?_
        refine XS.iload Xl.here hexec rfl (hb hbytes d28) rfl ?_
        refine i2b Xl.here hexec rfl (hb hbytes d30) rfl ?_
        exact Steps.refl _)
      obtain ⟨T7, X7, p7, st7⟩ := Xl.aput hexec hBk rfl hlt rfl (fits_lo8 (cv A (o + i))) (g := (mkF m 31 #[.val (.ref b), .val (.int (Int32.ofNat (o + i))), .val (.ref d), .val (.int (Int32.ofNat (q + i))), .val (.int (Int32.ofNat len)), .val (.int (Int32.ofNat i)), .val (.int (cv A (o + i)))] [.int (lo8 (cv A (o + i))), .int (Int32.ofNat (q + i)), .ref d])) rfl (rest := []) rfl (hb hbytes d31)
      have c8 : Steps p.tables e below (s₁.setTop (entryFrame m #[.ref b, .int (Int32.ofNat o), .ref d, .int (Int32.ofNat q), .int (Int32.ofNat len)] 7)) (T7.setTop (mkF m 32 #[.val (.ref b), .val (.int (Int32.ofNat (o + i))), .val (.ref d), .val (.int (Int32.ofNat (q + i))), .val (.int (Int32.ofNat len)), .val (.int (Int32.ofNat i)), .val (.int (cv A (o + i)))] [])) := c6.trans (st7 _ (Steps.refl _))
      have c9 : Steps p.tables e below (s₁.setTop (entryFrame m #[.ref b, .int (Int32.ofNat o), .ref d, .int (Int32.ofNat q), .int (Int32.ofNat len)] 7)) (T7.setTop (mkF m 3 #[.val (.ref b), .val (.int (Int32.ofNat (o + i) + 1)), .val (.ref d), .val (.int (Int32.ofNat (q + i) + 1)), .val (.int (Int32.ofNat len)), .val (.int (Int32.ofNat i + 1)), .val (.int (cv A (o + i)))] [])) := c8.trans (by
        refine iincV X7.here hexec rfl 1 (hb hbytes d32) (by decide) rfl rfl ?_
        refine iincV X7.here hexec rfl 1 (hb hbytes d35) (by decide) rfl rfl ?_
        refine iincV X7.here hexec rfl 1 (hb hbytes d38) (by decide) rfl rfl ?_
        refine XS.goto X7.here hexec rfl (pc0 := 41) rfl (hb hbytes d41) (by decide) rfl ?_
        exact Steps.refl _)
      have c10 : Steps p.tables e below (s₁.setTop (entryFrame m #[.ref b, .int (Int32.ofNat o), .ref d, .int (Int32.ofNat q), .int (Int32.ofNat len)] 7)) (T7.setTop (mkF m 3 #[.val (.ref b), .val (.int (Int32.ofNat (o + (i + 1)))), .val (.ref d), .val (.int (Int32.ofNat (q + (i + 1)))), .val (.int (Int32.ofNat len)), .val (.int (Int32.ofNat (i + 1))), .val (.int (cv A (o + i)))] [])) := by
        have := c9
        rw [succ32, succ32, succ32] at this
        exact this
      exact ih (i + 1) (by omega) _ (Or.inr ⟨_, rfl, rfl⟩) T7 _ (by rw [copyLocs_step, ← List.append_assoc]; exact X7) (pl.trans p7) (fl.step (by omega) hlt (by simp)) c10
  obtain ⟨T9, B9, z9, X9, p9, f9, g9⟩ := loop len 0 (by omega) .unset (Or.inl rfl) s₁ B (by simpa [copyLocs] using X0) ⟨hB0.1, fun _ _ => rfl, rfl⟩ (Laid.zero _ _ _) c2
  have c11 : Steps p.tables e below (s₁.setTop (entryFrame m #[.ref b, .int (Int32.ofNat o), .ref d, .int (Int32.ofNat q), .int (Int32.ofNat len)] 7)) (T9.setTop (mkF m 46 #[.val (.ref b), .val (.int (Int32.ofNat (o + len))), .val (.ref d), .val (.int (Int32.ofNat (q + len))), .val (.int (Int32.ofNat len)), .val (.int (Int32.ofNat len)), z9] [.int (Int32.ofNat len)])) := g9.trans (by
    refine XS.iload X9.here hexec rfl (hb hbytes d3) rfl ?_
    refine XS.iload X9.here hexec rfl (hb hbytes d5) rfl ?_
    refine XS.icmpYes X9.here hexec rfl (pc0 := 7) rfl (hb hbytes d7) rfl (ii_ge_t (nlt32 (by omega) (Nat.le_refl _))) (by decide) rfl ?_
    refine XS.iload X9.here hexec rfl (hb hbytes d44) rfl ?_
    exact Steps.refl _)
  exact ⟨T9, some (.int (Int32.ofNat len)), _, _, _, X9, by simp, rfl, rfl, (fun h => by cases h), ⟨rfl, B9, p9.from hh0, f9⟩, fun fs hl => c11.trans (X9.ireturnOut hexec hret rfl (Or.inl rfl) (hb hbytes d46) hl)⟩
end Cmp5
namespace Cmp3
def yN : MethodName := ⟨"java/lang/StringUTF16", "compress", "([CII)[B"⟩
abbrev yB : ByteArray := jdk_52_method_16_code
theorem d0 : decode yB 0 = .ok (.iload_n 2, 1) := by decide +kernel
theorem d1 : decode yB 1 = .ok (.newarray .byte, 2) := by decide +kernel
theorem d3 : decode yB 3 = .ok (.astore_n 3, 1) := by decide +kernel
theorem d4 : decode yB 4 = .ok (.aload_n 0, 1) := by decide +kernel
theorem d5 : decode yB 5 = .ok (.iload_n 1, 1) := by decide +kernel
theorem d6 : decode yB 6 = .ok (.aload_n 3, 1) := by decide +kernel
theorem d7 : decode yB 7 = .ok (.iconst 0, 1) := by decide +kernel
theorem d8 : decode yB 8 = .ok (.iload_n 2, 1) := by decide +kernel
theorem d9 : decode yB 9 = .ok (.invokestatic 115, 3) := by decide +kernel
theorem d12 : decode yB 12 = .ok (.istore 4, 2) := by decide +kernel
theorem d14 : decode yB 14 = .ok (.iload 4, 2) := by decide +kernel
theorem d16 : decode yB 16 = .ok (.iload_n 2, 1) := by decide +kernel
theorem d17 : decode yB 17 = .ok (.if_icmp (.eq) 40, 3) := by decide +kernel
theorem d57 : decode yB 57 = .ok (.aload_n 3, 1) := by decide +kernel
theorem d58 : decode yB 58 = .ok (.areturn, 1) := by decide +kernel
def site : List Cond := [.arrayClass .byte, Cmp5.tab] ++ staticW U16 115 Cmp5.yN
def tab : Cond := tabOf yN yB 6 (some (.array .byte)) site
def P (b : Addr) (A : Cell) (o len : Nat) (args : Array Value) (s : State) : Prop := args = #[.ref b, .int (Int32.ofNat o), .int (Int32.ofNat len)] ∧ Ch b A s ∧ o + len ≤ A.slots.size ∧ len ≤ 536870912 ∧ ∀ i, i < len → ¬ 255 < cv A (o + i)
def E (b : Addr) (A : Cell) (o len : Nat) (r : Option Value) (s u : State) : Prop := NewArr .byte "[B" len (fun j => .int (lo8 (cv A (o + j)))) r s u ∧ u.heap.size = s.heap.size + 1
/-- no char of the range above 255: a new byte[] of their low bytes -/
theorem law (l : Launch) (b : Addr) (A : Cell) (o len : Nat) : Law l yN 3 3 1 18 yB 6 (some (.array .byte)) site (P b A o len) (E b A o len) [] 1 len := by
  refine Law.of_walk (plainFor_of_name (by decide +kernel)) (by decide +kernel) (by decide +kernel) (by decide) (fun _ _ h => by rw [h.1]; rfl) (fun _ U U' hal hh h => ⟨h.1, h.2.1.mv hal hh, h.2.2⟩) (fun r U U' V V' h1 hal h2 h => ⟨NewArr.mv r U U' V V' h1 hal h2 h.1, by rw [h1, h2]; exact h.2⟩) ?_
  intro p e s m args below meth c s₁ X0 hexec hbytes hml hret hlk hnm hown hh0 W hP
  obtain ⟨rfl, hA, l1, l2, hp⟩ := hP
  have a31 := hA.1.2.2.2
  have c1 : Steps p.tables e below (s₁.setTop (entryFrame m #[.ref b, .int (Int32.ofNat o), .int (Int32.ofNat len)] 6)) (s₁.setTop (mkF m 0 #[.val (.ref b), .val (.int (Int32.ofNat o)), .val (.int (Int32.ofNat len)), .unset, .unset, .unset] [])) := entry rfl
  have c2 : Steps p.tables e below (s₁.setTop (entryFrame m #[.ref b, .int (Int32.ofNat o), .int (Int32.ofNat len)] 6)) (s₁.setTop (mkF m 1 #[.val (.ref b), .val (.int (Int32.ofNat o)), .val (.int (Int32.ofNat len)), .unset, .unset, .unset] [.int (Int32.ofNat len)])) := c1.trans (by
    refine XS.iloadN X0.here hexec rfl (hb hbytes d0) rfl ?_
    exact Steps.refl _)
  obtain ⟨T3, B3, X3, ba3, bs3, bv3, bh3, bf3, st3⟩ := X0.anew hexec (atype := .byte) (wk W (.arrayClass .byte)) rfl (by show len * 1 ≤ _; omega) (by omega) (g := (mkF m 1 #[.val (.ref b), .val (.int (Int32.ofNat o)), .val (.int (Int32.ofNat len)), .unset, .unset, .unset] [.int (Int32.ofNat len)])) rfl (hb hbytes d1) (rest := []) rfl (Nat.le_refl _) (by show 0 + len ≤ len; omega)
  rw [hh0] at ba3 st3
  have kp3 : XT.Kept s T3 := (XT.Kept.of_eq hh0).push bh3
  have hA3 := hA.keep X3.warmed.alike (kp3 _ _ hA.1.1)
  have hne : b ≠ s.heap.size := hA.1.ne
  have c4 : Steps p.tables e below (s₁.setTop (entryFrame m #[.ref b, .int (Int32.ofNat o), .int (Int32.ofNat len)] 6)) (T3.setTop (mkF m 3 #[.val (.ref b), .val (.int (Int32.ofNat o)), .val (.int (Int32.ofNat len)), .unset, .unset, .unset] [.ref s.heap.size])) := c2.trans (st3 _ (Steps.refl _))
  have c5 : Steps p.tables e below (s₁.setTop (entryFrame m #[.ref b, .int (Int32.ofNat o), .int (Int32.ofNat len)] 6)) (T3.setTop (mkF m 9 #[.val (.ref b), .val (.int (Int32.ofNat o)), .val (.int (Int32.ofNat len)), .val (.ref s.heap.size), .unset, .unset] [.int (Int32.ofNat len), .int 0, .ref s.heap.size, .int (Int32.ofNat o), .ref b])) := c4.trans (by
    refine XS.astoreN X3.here hexec rfl (hb hbytes d3) rfl rfl rfl ?_
    refine XS.aloadN X3.here hexec rfl (hb hbytes d4) rfl rfl ?_
    refine XS.iloadN X3.here hexec rfl (hb hbytes d5) rfl ?_
    refine XS.aloadN X3.here hexec rfl (hb hbytes d6) rfl rfl ?_
    refine iconstV X3.here hexec rfl 0 (hb hbytes d7) (by decide) ?_
    refine XS.iloadN X3.here hexec rfl (hb hbytes d8) rfl ?_
    exact Steps.refl _)
  obtain ⟨v6, T6, X6, E6, g6⟩ := X3.callS hexec (Cmp5.law l b A s.heap.size B3 o 0 len) hown (wks W (staticW U16 115 Cmp5.yN)) (wk W Cmp5.tab) (W := 0) (Nat.le_of_ble_eq_true rfl) (Nat.le_of_ble_eq_true rfl) (Nat.le_refl _) (by show 0 + len + 0 ≤ len; omega) (g := (mkF m 9 #[.val (.ref b), .val (.int (Int32.ofNat o)), .val (.int (Int32.ofNat len)), .val (.ref s.heap.size), .unset, .unset] [.int (Int32.ofNat len), .int (Int32.ofNat 0), .ref s.heap.size, .int (Int32.ofNat o), .ref b])) rfl (by rw [hml]; rfl) c5 (argsL := [.ref b, .int (Int32.ofNat o), .ref s.heap.size, .int (Int32.ofNat 0), .int (Int32.ofNat len)]) (rest := []) rfl rfl (by show 2 * 0 + 0 ≤ _; decide) (hb hbytes d9) (⟨rfl, hA3, ba3, hne, l1, by rw [bs3]; simp, hp⟩)
  obtain ⟨rfl, B6, p6, f6⟩ := E6
  have c7 : Steps p.tables e below (s₁.setTop (entryFrame m #[.ref b, .int (Int32.ofNat o), .int (Int32.ofNat len)] 6)) (T6.setTop (mkF m 12 #[.val (.ref b), .val (.int (Int32.ofNat o)), .val (.int (Int32.ofNat len)), .val (.ref s.heap.size), .unset, .unset] [.int (Int32.ofNat len)])) := g6
  have c8 : Steps p.tables e below (s₁.setTop (entryFrame m #[.ref b, .int (Int32.ofNat o), .int (Int32.ofNat len)] 6)) (T6.setTop (mkF m 58 #[.val (.ref b), .val (.int (Int32.ofNat o)), .val (.int (Int32.ofNat len)), .val (.ref s.heap.size), .val (.int (Int32.ofNat len)), .unset] [.ref s.heap.size])) := c7.trans (by
    refine XS.istore X6.here hexec rfl (hb hbytes d12) rfl rfl ?_
    refine XS.iload X6.here hexec rfl (hb hbytes d14) rfl ?_
    refine XS.iloadN X6.here hexec rfl (hb hbytes d16) rfl ?_
    refine XS.icmpYes X6.here hexec rfl (pc0 := 17) rfl (hb hbytes d17) rfl (ii_eq_t rfl) (by decide) rfl ?_
    refine XS.aloadN X6.here hexec rfl (hb hbytes d57) rfl rfl ?_
    exact Steps.refl _)
  have X8 := X6.wide (L' := []) (cells' := 1) (slots' := len) (fun x hx hlt => by
    simp only [List.nil_append, copyLocs, List.mem_map, List.mem_range] at hx
    obtain ⟨i, -, rfl⟩ := hx
    exact absurd hlt (Nat.lt_irrefl _)) (Nat.le_refl _) (by omega)
  exact ⟨T6, some (.ref s.heap.size), _, _, _, X8, rfl, rfl, rfl, (fun h => by cases h), ⟨⟨rfl, B6, ba3.like (X3.warmed.alike.symm.trans X6.warmed.alike) p6.1 f6.1 f6.2.1 f6.2.2.1, f6.2.1.trans bv3, by rw [X6.warmed.alike.findClass, f6.1]; exact bf3, by rw [f6.2.2.1, bs3]; simp, fun j hj => by rw [f6.2.2.2 j, if_pos (by omega)]; rfl, kp3.put p6 (Nat.le_refl _)⟩, by rw [p6.2.2, bh3, hh0]; simp⟩, fun fs hl => c8.trans (X8.areturnOut hexec rfl hret rfl (hb hbytes d58) hl)⟩
end Cmp3
namespace CodL
def yN : MethodName := ⟨"java/lang/StringUTF16", "coderFromArrayLen", "([BI)B"⟩
abbrev yB : ByteArray := jdk_52_method_15_code
theorem d0 : decode yB 0 = .ok (.iload_n 1, 1) := by decide +kernel
theorem d1 : decode yB 1 = .ok (.aload_n 0, 1) := by decide +kernel
theorem d2 : decode yB 2 = .ok (.arraylength, 1) := by decide +kernel
theorem d3 : decode yB 3 = .ok (.isub, 1) := by decide +kernel
theorem d4 : decode yB 4 = .ok (.bipush 31, 2) := by decide +kernel
theorem d6 : decode yB 6 = .ok (.iushr, 1) := by decide +kernel
theorem d7 : decode yB 7 = .ok (.i2b, 1) := by decide +kernel
theorem d8 : decode yB 8 = .ok (.ireturn, 1) := by decide +kernel
def site : List Cond := []
def tab : Cond := tabOf yN yB 2 (some .byte) site
def P (d : Addr) (B : Cell) (args : Array Value) (s : State) : Prop := args = #[.ref d, .int (Int32.ofNat B.slots.size)] ∧ Arr .byte d B s
def E (r : Option Value) (s u : State) : Prop := XT.PureE (some (.int 0)) r s u
/-- an array as long as the number of chars: LATIN1 -/
theorem law (l : Launch) (d : Addr) (B : Cell) : Law l yN 2 2 0 0 yB 2 (some .byte) site (P d B) E [] 0 0 := by
  refine Law.of_walk (plainFor_of_name (by decide +kernel)) (by decide +kernel) (by decide +kernel) (by decide) (fun _ _ h => by rw [h.1]; rfl) (fun _ U U' hal hh h => ⟨h.1, h.2.mv hal hh⟩) (fun r U U' V V' h1 hal h2 h => XT.PureE.mv r U U' V V' h1 hal h2 h) ?_
  intro p e s m args below meth c s₁ X0 hexec hbytes hml hret hlk hnm hown hh0 W hP
  obtain ⟨rfl, hB⟩ := hP
  have hB0 := hB.mv X0.warmed.alike hh0
  have c1 : Steps p.tables e below (s₁.setTop (entryFrame m #[.ref d, .int (Int32.ofNat B.slots.size)] 2)) (s₁.setTop (mkF m 0 #[.val (.ref d), .val (.int (Int32.ofNat B.slots.size))] [])) := entry rfl
  have c2 : Steps p.tables e below (s₁.setTop (entryFrame m #[.ref d, .int (Int32.ofNat B.slots.size)] 2)) (s₁.setTop (mkF m 2 #[.val (.ref d), .val (.int (Int32.ofNat B.slots.size))] [.ref d, .int (Int32.ofNat B.slots.size)])) := c1.trans (by
    refine XS.iloadN X0.here hexec rfl (hb hbytes d0) rfl ?_
    refine XS.aloadN X0.here hexec rfl (hb hbytes d1) rfl rfl ?_
    exact Steps.refl _)
  have c3 : Steps p.tables e below (s₁.setTop (entryFrame m #[.ref d, .int (Int32.ofNat B.slots.size)] 2)) (s₁.setTop (mkF m 8 #[.val (.ref d), .val (.int (Int32.ofNat B.slots.size))] [.int (lo8 (ushr (Int32.ofNat B.slots.size - Int32.ofNat B.slots.size) 31))])) := c2.trans (by
    refine X0.alen hexec hB0 rfl rfl (hb hbytes d2) ?_
    refine XS.isub X0.here hexec rfl (hb hbytes d3) rfl ?_
    refine bipushV X0.here hexec rfl 31 (hb hbytes d4) (by decide) ?_
    refine iushr X0.here hexec rfl (hb hbytes d6) rfl ?_
    refine i2b X0.here hexec rfl (hb hbytes d7) rfl ?_
    exact Steps.refl _)
  have e0 : lo8 (ushr (Int32.ofNat B.slots.size - Int32.ofNat B.slots.size) 31) = 0 := by rw [Int32.sub_self]; decide
  rw [e0] at c3
  exact ⟨s₁, some (.int 0), _, _, _, X0, rfl, rfl, rfl, (fun h => by cases h), ⟨rfl, hh0⟩, fun fs hl => c3.trans (X0.ireturnOut hexec hret rfl (Or.inr (Or.inr (Or.inl rfl))) (hb hbytes d8) hl)⟩
end CodL
/-- the String at a is Latin-1 over a new byte[] (the heap's one new cell): the low bytes of the len chars of A from o on; every cell but a is kept -/
def Got (a : Addr) (D : Cell) (fV fC : Field) (A : Cell) (o len : Nat) (r : Option Value) (s u : State) : Prop := r = none ∧ ∃ D' V : Cell, Blank "java/lang/String" a D' u ∧ Same D D' [fV.slot, fC.slot] ∧ D'.slots[fV.slot]? = some (.ref s.heap.size) ∧ D'.slots[fC.slot]? = some (.int 0) ∧ Arr .byte s.heap.size V u ∧ V.vm = .none ∧ u.vm.findClass "[B" = some V.cls ∧ V.slots.size = len ∧ (∀ j, j < len → V.slots[j]? = some (.int (lo8 (cv A (o + j))))) ∧ (∀ (y : Addr) (c : Cell), y ≠ a → s.heap[y]? = some c → u.heap[y]? = some c) ∧ u.heap.size = s.heap.size + 1
theorem Got.mv {a : Addr} {D A : Cell} {fV fC : Field} {o len : Nat} : ∀ r (U U' V V' : State), U'.heap = U.heap → V.vm.Alike V'.vm → V'.heap = V.heap → Got a D fV fC A o len r U V → Got a D fV fC A o len r U' V' :=
  fun r U U' V V' h1 hal h2 ⟨e0, D', X, a1, a2, a3, a4, a5, a6, a7, a8, a9, a10, a11⟩ => ⟨e0, D', X, a1.mv hal h2, a2, by rw [h1]; exact a3, a4, by rw [h1]; exact a5.mv hal h2, a6, by rw [hal.findClass]; exact a7, a8, a9, by rw [h1, h2]; exact a10, by rw [h1, h2]; exact a11⟩
namespace New4
def yN : MethodName := ⟨"java/lang/String", "<init>", "([CIILjava/lang/Void;)V"⟩
abbrev yB : ByteArray := jdk_42_method_149_code
theorem d0 : decode yB 0 = .ok (.aload_n 0, 1) := by decide +kernel
theorem d1 : decode yB 1 = .ok (.invokespecial 1, 3) := by decide +kernel
theorem d4 : decode yB 4 = .ok (.iload_n 3, 1) := by decide +kernel
theorem d5 : decode yB 5 = .ok (.ifCond (.ne) 22, 3) := by decide +kernel
theorem d27 : decode yB 27 = .ok (.getstatic 38, 3) := by decide +kernel
theorem d30 : decode yB 30 = .ok (.ifCond (.eq) 28, 3) := by decide +kernel
theorem d33 : decode yB 33 = .ok (.aload_n 1, 1) := by decide +kernel
theorem d34 : decode yB 34 = .ok (.iload_n 2, 1) := by decide +kernel
theorem d35 : decode yB 35 = .ok (.iload_n 3, 1) := by decide +kernel
theorem d36 : decode yB 36 = .ok (.invokestatic 177, 3) := by decide +kernel
theorem d39 : decode yB 39 = .ok (.astore 5, 2) := by decide +kernel
theorem d41 : decode yB 41 = .ok (.aload_n 0, 1) := by decide +kernel
theorem d42 : decode yB 42 = .ok (.aload 5, 2) := by decide +kernel
theorem d44 : decode yB 44 = .ok (.iload_n 3, 1) := by decide +kernel
theorem d45 : decode yB 45 = .ok (.invokestatic 47, 3) := by decide +kernel
theorem d48 : decode yB 48 = .ok (.putfield 15, 3) := by decide +kernel
theorem d51 : decode yB 51 = .ok (.aload_n 0, 1) := by decide +kernel
theorem d52 : decode yB 52 = .ok (.aload 5, 2) := by decide +kernel
theorem d54 : decode yB 54 = .ok (.putfield 9, 3) := by decide +kernel
theorem d57 : decode yB 57 = .ok (.return_, 1) := by decide +kernel
def site : List Cond := [.fieldLink "java/lang/String" 38 "java/lang/String" "COMPACT_STRINGS" "Z", Cmp3.tab, CodL.tab, .laysFinal "java/lang/String" "java/lang/String" "value" "[B", .fieldLink "java/lang/String" 9 "java/lang/String" "value" "[B", .laysFinal "java/lang/String" "java/lang/String" "coder" "B", .fieldLink "java/lang/String" 15 "java/lang/String" "coder" "B"] ++ objW "java/lang/String" 1 ++ staticW "java/lang/String" 177 Cmp3.yN ++ staticW "java/lang/String" 47 CodL.yN
def tab : Cond := tabOf yN yB 6 none site
def P (a : Addr) (D : Cell) (fV fC : Field) (b : Addr) (A : Cell) (z : Int32) (o len : Nat) (args : Array Value) (s : State) : Prop := args = #[.ref a, .ref b, .int (Int32.ofNat o), .int (Int32.ofNat len), .null] ∧ Blank "java/lang/String" a D s ∧ Found "java/lang/String" "value" "[B" fV s ∧ Found "java/lang/String" "coder" "B" fC s ∧ Ch b A s ∧ StaticIs s "java/lang/String" "COMPACT_STRINGS" "Z" (.int z) ∧ ¬ z = 0 ∧ 0 < len ∧ o + len ≤ A.slots.size ∧ len ≤ 536870912 ∧ ∀ i, i < len → ¬ 255 < cv A (o + i)
def E (a : Addr) (D : Cell) (fV fC : Field) (A : Cell) (o len : Nat) (r : Option Value) (s u : State) : Prop := Got a D fV fC A o len r s u
/-- len > 0, no char of the range above 255: a Latin-1 String of their low bytes -/
theorem law (l : Launch) (a : Addr) (D : Cell) (fV fC : Field) (b : Addr) (A : Cell) (z : Int32) (o len : Nat) : Law l yN 5 4 2 35 yB 6 none site (P a D fV fC b A z o len) (E a D fV fC A o len) [⟨a, fC.slot⟩, ⟨a, fV.slot⟩] 1 len := by
  refine Law.of_walk (plainFor_of_name (by decide +kernel)) (by decide +kernel) (by decide +kernel) (by decide) (fun _ _ h => by rw [h.1]; rfl) (fun _ U U' hal hh h => ⟨h.1, h.2.1.mv hal hh, h.2.2.1.al hal, h.2.2.2.1.al hal, h.2.2.2.2.1.mv hal hh, h.2.2.2.2.2.1.there hal hh, h.2.2.2.2.2.2⟩) (fun r U U' V V' h1 hal h2 h => Got.mv r U U' V V' h1 hal h2 h) ?_
  intro p e s m args below meth c s₁ X0 hexec hbytes hml hret hlk hnm hown hh0 W hP
  obtain ⟨rfl, hB, f1, f2, hA, s1, hz, l0, l1, l2, hp⟩ := hP
  have a31 := hA.1.2.2.2
  have c1 : Steps p.tables e below (s₁.setTop (entryFrame m #[.ref a, .ref b, .int (Int32.ofNat o), .int (Int32.ofNat len), .null] 6)) (s₁.setTop (mkF m 0 #[.val (.ref a), .val (.ref b), .val (.int (Int32.ofNat o)), .val (.int (Int32.ofNat len)), .val .null, .unset] [])) := entry rfl
  have c2 : Steps p.tables e below (s₁.setTop (entryFrame m #[.ref a, .ref b, .int (Int32.ofNat o), .int (Int32.ofNat len), .null] 6)) (s₁.setTop (mkF m 1 #[.val (.ref a), .val (.ref b), .val (.int (Int32.ofNat o)), .val (.int (Int32.ofNat len)), .val .null, .unset] [.ref a])) := c1.trans (by
    refine XS.aloadN X0.here hexec rfl (hb hbytes d0) rfl rfl ?_
    exact Steps.refl _)
  obtain ⟨T3, X3, q3, st3⟩ := X0.oinit hexec hown (wks W (objW "java/lang/String" 1)) (g := (mkF m 1 #[.val (.ref a), .val (.ref b), .val (.int (Int32.ofNat o)), .val (.int (Int32.ofNat len)), .val .null, .unset] [.ref a])) rfl (by rw [hml]; rfl) (rest := []) rfl (hb hbytes d1) (W := 0) (by show 2 * 0 + 0 ≤ _; decide) (Nat.le_of_ble_eq_true rfl) (Nat.le_of_ble_eq_true rfl)
  have hh3 := q3.trans hh0
  have c4 : Steps p.tables e below (s₁.setTop (entryFrame m #[.ref a, .ref b, .int (Int32.ofNat o), .int (Int32.ofNat len), .null] 6)) (T3.setTop (mkF m 27 #[.val (.ref a), .val (.ref b), .val (.int (Int32.ofNat o)), .val (.int (Int32.ofNat len)), .val .null, .unset] [])) := (c2.trans (st3 _ (Steps.refl _))).trans (by
    refine XS.iloadN X3.here hexec rfl (hb hbytes d4) rfl ?_
    refine XS.ifYes X3.here hexec rfl (pc0 := 5) rfl (hb hbytes d5) rfl (i0_ne_t (nz32 (by omega) l0)) (by decide) rfl ?_
    exact Steps.refl _)
  obtain ⟨T5, X5, q5, st5⟩ := X3.sget hexec hown (wk W (.fieldLink "java/lang/String" 38 "java/lang/String" "COMPACT_STRINGS" "Z")) s1 (fun _ _ h => by rw [hh3]; exact h) (g := (mkF m 27 #[.val (.ref a), .val (.ref b), .val (.int (Int32.ofNat o)), .val (.int (Int32.ofNat len)), .val .null, .unset] [])) rfl (hb hbytes d27)
  have hh5 := q5.trans hh3
  have c6 : Steps p.tables e below (s₁.setTop (entryFrame m #[.ref a, .ref b, .int (Int32.ofNat o), .int (Int32.ofNat len), .null] 6)) (T5.setTop (mkF m 30 #[.val (.ref a), .val (.ref b), .val (.int (Int32.ofNat o)), .val (.int (Int32.ofNat len)), .val .null, .unset] [.int z])) := c4.trans (st5 _ (Steps.refl _))
  have c7 : Steps p.tables e below (s₁.setTop (entryFrame m #[.ref a, .ref b, .int (Int32.ofNat o), .int (Int32.ofNat len), .null] 6)) (T5.setTop (mkF m 36 #[.val (.ref a), .val (.ref b), .val (.int (Int32.ofNat o)), .val (.int (Int32.ofNat len)), .val .null, .unset] [.int (Int32.ofNat len), .int (Int32.ofNat o), .ref b])) := c6.trans (by
    refine XS.ifNo X5.here hexec rfl (hb hbytes d30) rfl (i0_eq_f hz) ?_
    refine XS.aloadN X5.here hexec rfl (hb hbytes d33) rfl rfl ?_
    refine XS.iloadN X5.here hexec rfl (hb hbytes d34) rfl ?_
    refine XS.iloadN X5.here hexec rfl (hb hbytes d35) rfl ?_
    exact Steps.refl _)
  obtain ⟨v8, T8, X8, E8, g8⟩ := X5.callS hexec (Cmp3.law l b A o len) hown (wks W (staticW "java/lang/String" 177 Cmp3.yN)) (wk W Cmp3.tab) (W := 0) (Nat.le_of_ble_eq_true rfl) (Nat.le_of_ble_eq_true rfl) (Nat.le_refl _) (by show 0 + len ≤ len; omega) (g := (mkF m 36 #[.val (.ref a), .val (.ref b), .val (.int (Int32.ofNat o)), .val (.int (Int32.ofNat len)), .val .null, .unset] [.int (Int32.ofNat len), .int (Int32.ofNat o), .ref b])) rfl (by rw [hml]; rfl) c7 (argsL := [.ref b, .int (Int32.ofNat o), .int (Int32.ofNat len)]) (rest := []) rfl rfl (by show 2 * 0 + 0 ≤ _; decide) (hb hbytes d36) (⟨rfl, hA.mv X5.warmed.alike hh5, l1, l2, hp⟩)
  obtain ⟨e8, z8⟩ := E8
  obtain ⟨rfl, N, n1, n2, n3, n4, n5, n6⟩ := NewArr.mv _ T5 s _ _ hh5.symm (Vm.Alike.refl _) rfl e8
  rw [hh5] at z8
  have hB1 := hB.keep X8.warmed.alike (n6 _ _ hB.1)
  have hne : s.heap.size ≠ a := (Nat.ne_of_lt (Array.getElem?_eq_some_iff.mp hB.1).1).symm
  have c9 : Steps p.tables e below (s₁.setTop (entryFrame m #[.ref a, .ref b, .int (Int32.ofNat o), .int (Int32.ofNat len), .null] 6)) (T8.setTop (mkF m 39 #[.val (.ref a), .val (.ref b), .val (.int (Int32.ofNat o)), .val (.int (Int32.ofNat len)), .val .null, .unset] [.ref s.heap.size])) := g8
  have c10 : Steps p.tables e below (s₁.setTop (entryFrame m #[.ref a, .ref b, .int (Int32.ofNat o), .int (Int32.ofNat len), .null] 6)) (T8.setTop (mkF m 45 #[.val (.ref a), .val (.ref b), .val (.int (Int32.ofNat o)), .val (.int (Int32.ofNat len)), .val .null, .val (.ref s.heap.size)] [.int (Int32.ofNat N.slots.size), .ref s.heap.size, .ref a])) := by
    have hc : Steps p.tables e below (s₁.setTop (entryFrame m #[.ref a, .ref b, .int (Int32.ofNat o), .int (Int32.ofNat len), .null] 6)) (T8.setTop (mkF m 45 #[.val (.ref a), .val (.ref b), .val (.int (Int32.ofNat o)), .val (.int (Int32.ofNat len)), .val .null, .val (.ref s.heap.size)] [.int (Int32.ofNat len), .ref s.heap.size, .ref a])) := c9.trans (by
      refine XS.astore X8.here hexec rfl (hb hbytes d39) rfl rfl rfl ?_
      refine XS.aloadN X8.here hexec rfl (hb hbytes d41) rfl rfl ?_
      refine XS.aload X8.here hexec rfl (hb hbytes d42) rfl rfl ?_
      refine XS.iloadN X8.here hexec rfl (hb hbytes d44) rfl ?_
      exact Steps.refl _)
    rw [n4]; exact hc
  obtain ⟨v11, T11, X11, E11, g11⟩ := X8.callS hexec (CodL.law l s.heap.size N) hown (wks W (staticW "java/lang/String" 47 CodL.yN)) (wk W CodL.tab) (W := 1) (Nat.le_of_ble_eq_true rfl) (Nat.le_of_ble_eq_true rfl) (Nat.le_refl _) (by show 0 + len + 0 ≤ len; omega) (g := (mkF m 45 #[.val (.ref a), .val (.ref b), .val (.int (Int32.ofNat o)), .val (.int (Int32.ofNat len)), .val .null, .val (.ref s.heap.size)] [.int (Int32.ofNat N.slots.size), .ref s.heap.size, .ref a])) rfl (by rw [hml]; rfl) c10 (argsL := [.ref s.heap.size, .int (Int32.ofNat N.slots.size)]) (rest := [.ref a]) rfl rfl (by show 2 * 0 + (1 + 0) ≤ _; decide) (hb hbytes d45) (⟨rfl, n1⟩)
  obtain ⟨rfl, q11⟩ := E11
  have hB11 := hB1.mv (X8.warmed.alike.symm.trans X11.warmed.alike) q11
  have c12 : Steps p.tables e below (s₁.setTop (entryFrame m #[.ref a, .ref b, .int (Int32.ofNat o), .int (Int32.ofNat len), .null] 6)) (T11.setTop (mkF m 48 #[.val (.ref a), .val (.ref b), .val (.int (Int32.ofNat o)), .val (.int (Int32.ofNat len)), .val .null, .val (.ref s.heap.size)] [.int 0, .ref a])) := g11
  obtain ⟨T13, X13, p13, bl13, sl13, st13⟩ := X11.finit hexec hown (wk W (.fieldLink "java/lang/String" 15 "java/lang/String" "coder" "B")) (Or.inr ⟨_, (wk W (.laysFinal "java/lang/String" "java/lang/String" "coder" "B"))⟩) (Or.inl ⟨rfl, hnm⟩) f2 (Or.inl rfl) hB11 (t := .byte) (by decide +kernel) rfl (g := (mkF m 48 #[.val (.ref a), .val (.ref b), .val (.int (Int32.ofNat o)), .val (.int (Int32.ofNat len)), .val .null, .val (.ref s.heap.size)] [.int 0, .ref a])) rfl (rest := []) rfl (hb hbytes d48)
  have c14 : Steps p.tables e below (s₁.setTop (entryFrame m #[.ref a, .ref b, .int (Int32.ofNat o), .int (Int32.ofNat len), .null] 6)) (T13.setTop (mkF m 54 #[.val (.ref a), .val (.ref b), .val (.int (Int32.ofNat o)), .val (.int (Int32.ofNat len)), .val .null, .val (.ref s.heap.size)] [.ref s.heap.size, .ref a])) := (c12.trans (st13 _ (Steps.refl _))).trans (by
    refine XS.aloadN X13.here hexec rfl (hb hbytes d51) rfl rfl ?_
    refine XS.aload X13.here hexec rfl (hb hbytes d52) rfl rfl ?_
    exact Steps.refl _)
  obtain ⟨T15, X15, p15, bl15, sl15, st15⟩ := X13.finit hexec hown (wk W (.fieldLink "java/lang/String" 9 "java/lang/String" "value" "[B")) (Or.inr ⟨_, (wk W (.laysFinal "java/lang/String" "java/lang/String" "value" "[B"))⟩) (Or.inl ⟨rfl, hnm⟩) f1 (Or.inl rfl) bl13 (t := (.array .byte)) (by decide +kernel) rfl (g := (mkF m 54 #[.val (.ref a), .val (.ref b), .val (.int (Int32.ofNat o)), .val (.int (Int32.ofNat len)), .val .null, .val (.ref s.heap.size)] [.ref s.heap.size, .ref a])) rfl (rest := []) rfl (hb hbytes d54)
  have c16 : Steps p.tables e below (s₁.setTop (entryFrame m #[.ref a, .ref b, .int (Int32.ofNat o), .int (Int32.ofNat len), .null] 6)) (T15.setTop (mkF m 57 #[.val (.ref a), .val (.ref b), .val (.int (Int32.ofNat o)), .val (.int (Int32.ofNat len)), .val .null, .val (.ref s.heap.size)] [])) := c14.trans (st15 _ (Steps.refl _))
  have ap := apart (Or.inr ⟨_, (wk W (.laysFinal "java/lang/String" "java/lang/String" "value" "[B"))⟩) (Or.inr ⟨_, (wk W (.laysFinal "java/lang/String" "java/lang/String" "coder" "B"))⟩) f1 f2 (t₁ := .array .byte) (t₂ := .byte) (by decide +kernel) (by decide +kernel) (by decide)
  have al := X8.warmed.alike.symm.trans X15.warmed.alike
  have n7 : T11.heap[s.heap.size]? = some N := by rw [q11]; exact n1.1
  exact ⟨T15, none, _, _, _, X15, by simp, rfl, by omega, (fun _ => rfl), ⟨rfl, _, N, bl15, ((Same.refl D _).set _ (by simp)).set _ (by simp), sl15, (Cell.slots_setSlot_ne _ ap).trans sl13, n1.keep al (p15.other hne (p13.other hne n7)), n2, by rw [al.findClass]; exact n3, n4, n5, fun y c h1 h2 => p15.other h1 (p13.other h1 (by rw [q11]; exact n6 y c h2)), by rw [p15.2.2, p13.2.2, q11]; exact z8⟩, fun fs hl => c16.trans (X15.returnOut hexec hret (hb hbytes d57) hl)⟩
end New4
namespace New1
def yN : MethodName := ⟨"java/lang/String", "<init>", "([C)V"⟩
abbrev yB : ByteArray := jdk_42_method_3_code
theorem d0 : decode yB 0 = .ok (.aload_n 0, 1) := by decide +kernel
theorem d1 : decode yB 1 = .ok (.aload_n 1, 1) := by decide +kernel
theorem d2 : decode yB 2 = .ok (.iconst 0, 1) := by decide +kernel
theorem d3 : decode yB 3 = .ok (.aload_n 1, 1) := by decide +kernel
theorem d4 : decode yB 4 = .ok (.arraylength, 1) := by decide +kernel
theorem d5 : decode yB 5 = .ok (.aconst_null, 1) := by decide +kernel
theorem d6 : decode yB 6 = .ok (.invokespecial 27, 3) := by decide +kernel
theorem d9 : decode yB 9 = .ok (.return_, 1) := by decide +kernel
def site : List Cond := [New4.tab] ++ initW "java/lang/String" 27 New4.yN
def tab : Cond := tabOf yN yB 2 none site
def P (a : Addr) (D : Cell) (fV fC : Field) (b : Addr) (A : Cell) (z : Int32) (args : Array Value) (s : State) : Prop := args = #[.ref a, .ref b] ∧ Blank "java/lang/String" a D s ∧ Found "java/lang/String" "value" "[B" fV s ∧ Found "java/lang/String" "coder" "B" fC s ∧ Ch b A s ∧ StaticIs s "java/lang/String" "COMPACT_STRINGS" "Z" (.int z) ∧ ¬ z = 0 ∧ 0 < A.slots.size ∧ A.slots.size ≤ 536870912 ∧ ∀ i, i < A.slots.size → ¬ 255 < cv A i
def E (a : Addr) (D : Cell) (fV fC : Field) (A : Cell) (r : Option Value) (s u : State) : Prop := Got a D fV fC A 0 A.slots.size r s u
/-- new String(chars), not empty, no char above 255: a Latin-1 String of their low bytes -/
theorem law (l : Launch) (a : Addr) (D : Cell) (fV fC : Field) (b : Addr) (A : Cell) (z : Int32) : Law l yN 2 1 3 52 yB 2 none site (P a D fV fC b A z) (E a D fV fC A) [⟨a, fC.slot⟩, ⟨a, fV.slot⟩] 1 A.slots.size := by
  refine Law.of_walk (plainFor_of_name (by decide +kernel)) (by decide +kernel) (by decide +kernel) (by decide) (fun _ _ h => by rw [h.1]; rfl) (fun _ U U' hal hh h => ⟨h.1, h.2.1.mv hal hh, h.2.2.1.al hal, h.2.2.2.1.al hal, h.2.2.2.2.1.mv hal hh, h.2.2.2.2.2.1.there hal hh, h.2.2.2.2.2.2⟩) (fun r U U' V V' h1 hal h2 h => Got.mv r U U' V V' h1 hal h2 h) ?_
  intro p e s m args below meth c s₁ X0 hexec hbytes hml hret hlk hnm hown hh0 W hP
  obtain ⟨rfl, hB, f1, f2, hA, s1, hz, l0, l2, hp⟩ := hP
  have c1 : Steps p.tables e below (s₁.setTop (entryFrame m #[.ref a, .ref b] 2)) (s₁.setTop (mkF m 0 #[.val (.ref a), .val (.ref b)] [])) := entry rfl
  have c2 : Steps p.tables e below (s₁.setTop (entryFrame m #[.ref a, .ref b] 2)) (s₁.setTop (mkF m 6 #[.val (.ref a), .val (.ref b)] [.null, .int (Int32.ofNat A.slots.size), .int 0, .ref b, .ref a])) := c1.trans (by
    refine XS.aloadN X0.here hexec rfl (hb hbytes d0) rfl rfl ?_
    refine XS.aloadN X0.here hexec rfl (hb hbytes d1) rfl rfl ?_
    refine iconstV X0.here hexec rfl 0 (hb hbytes d2) (by decide) ?_
    refine XS.aloadN X0.here hexec rfl (hb hbytes d3) rfl rfl ?_
    refine X0.alen hexec (hA.1.mv X0.warmed.alike hh0) rfl rfl (hb hbytes d4) ?_
    refine XS.aconstNull X0.here hexec rfl (hb hbytes d5) ?_
    exact Steps.refl _)
  obtain ⟨v3, T3, X3, E3, g3⟩ := X0.callN hexec (New4.law l a D fV fC b A z 0 A.slots.size) rfl hown (wks W (initW "java/lang/String" 27 New4.yN)) (W New4.tab (by simp only [site, List.mem_cons, List.mem_append, true_or, or_true])) (W := 0) (Nat.le_of_ble_eq_true rfl) (Nat.le_of_ble_eq_true rfl) (Nat.le_refl _) (by show 0 + A.slots.size ≤ A.slots.size; omega) (g := (mkF m 6 #[.val (.ref a), .val (.ref b)] [.null, .int (Int32.ofNat A.slots.size), .int (Int32.ofNat 0), .ref b, .ref a])) rfl (by rw [hml]; rfl) c2 (argsL := [.ref b, .int (Int32.ofNat 0), .int (Int32.ofNat A.slots.size), .null]) (rest := []) rfl rfl (by show 2 * 0 + 0 ≤ _; decide) (hb hbytes d6) (⟨rfl, hB.mv X0.warmed.alike hh0, f1.al X0.warmed.alike, f2.al X0.warmed.alike, hA.mv X0.warmed.alike hh0, s1.there X0.warmed.alike hh0, hz, l0, by omega, l2, fun i hi => by rw [Nat.zero_add]; exact hp i hi⟩)
  have e0 := Got.mv _ s₁ s _ _ hh0.symm (Vm.Alike.refl _) rfl E3
  obtain rfl := e0.1
  have c4 : Steps p.tables e below (s₁.setTop (entryFrame m #[.ref a, .ref b] 2)) (T3.setTop (mkF m 9 #[.val (.ref a), .val (.ref b)] [])) := g3
  exact ⟨T3, none, _, _, _, X3, by simp, rfl, by omega, (fun _ => rfl), e0, fun fs hl => c4.trans (X3.returnOut hexec hret (hb hbytes d9) hl)⟩
theorem pays {l : Launch} {R : Room} {p : Program} {e : Env} {below : List Frame} {s : State} {sargs : Array Value} {len W : Nat} (a : Addr) (D : Cell) (fV fC : Field) (b : Addr) (A : Cell) (z : Int32) (htab : tab.before sargs s = true) (hfr : 4 ≤ R.frames) (hlo : W + 65 ≤ R.locals) :
    Back l R p e below s sargs yN len W (fun A₁ a₁ => A₁.cells + 1 ≤ R.cells ∧ A₁.slots + A.slots.size ≤ R.slots ∧ P a D fV fC b A z a₁ A₁.U) (fun A₁ _ v₁ B₁ => E a D fV fC A v₁ A₁.U B₁.U ∧ B₁.locs = A₁.locs ++ [⟨a, fC.slot⟩, ⟨a, fV.slot⟩] ∧ B₁.cells = A₁.cells + 1 ∧ B₁.slots = A₁.slots + A.slots.size) :=
  (law l a D fV fC b A z).pays htab hfr (by omega)
end New1
end StrChars
namespace StrChars.Road
open Jvm Sem ClassFile Op Lib Jvm.Stand Jvm.Free Jvm.Free.XT
open Jvm.Lib.Cold (StaticIs)
abbrev ST : String := "java/lang/String"
/-- every table word that New1's law asks, flat -/
abbrev words : List Jvm.Cond := [.code New1.yN New1.yB 2 none, .initialized ST, .methodLink ST 27 New4.yN, .instanceMethod New4.yN,
  .code New4.yN New4.yB 6 none, .fieldLink ST 38 ST "COMPACT_STRINGS" "Z", .laysFinal ST ST "value" "[B", .fieldLink ST 9 ST "value" "[B", .laysFinal ST ST "coder" "B", .fieldLink ST 15 ST "coder" "B",
  .methodLink ST 1 Lib.objectInit, .instanceMethod Lib.objectInit, .code Lib.objectInit ⟨#[0xb1]⟩ 1 none, .methodLink ST 177 Cmp3.yN, .static Cmp3.yN, .methodLink ST 47 CodL.yN, .static CodL.yN,
  .code Cmp3.yN Cmp3.yB 6 (some (.array .byte)), .initialized U16, .arrayClass .byte, .methodLink U16 115 Cmp5.yN, .static Cmp5.yN, .code Cmp5.yN Cmp5.yB 7 (some .int), .code CodL.yN CodL.yB 2 (some .byte)]
theorem tab_of {a : Array Value} {s : State} (h : ∀ w ∈ words, w.before a s = true) : New1.tab.before a s = true := by
  have h5 : Cmp5.tab.before a s = true := unparts (wk h (.code Cmp5.yN Cmp5.yB 7 (some .int))) (wks h (.initialized Cmp5.yN.cls :: Cmp5.site))
  have hc : CodL.tab.before a s = true := unparts (wk h (.code CodL.yN CodL.yB 2 (some .byte))) (wks h (.initialized CodL.yN.cls :: CodL.site))
  have q5 : ∀ w ∈ Cmp5.tab :: words, w.before a s = true := fun w hw => (List.mem_cons.mp hw).elim (fun e => e ▸ h5) (h w)
  have h3 : Cmp3.tab.before a s = true := unparts (wk q5 (.code Cmp3.yN Cmp3.yB 6 (some (.array .byte)))) (wks q5 (.initialized Cmp3.yN.cls :: Cmp3.site))
  have q3 : ∀ w ∈ Cmp3.tab :: CodL.tab :: words, w.before a s = true := fun w hw => (List.mem_cons.mp hw).elim (fun e => e ▸ h3) fun hw => (List.mem_cons.mp hw).elim (fun e => e ▸ hc) (h w)
  have h4 : New4.tab.before a s = true := unparts (wk q3 (.code New4.yN New4.yB 6 none)) (wks q3 (.initialized New4.yN.cls :: New4.site))
  have q4 : ∀ w ∈ New4.tab :: words, w.before a s = true := fun w hw => (List.mem_cons.mp hw).elim (fun e => e ▸ h4) (h w)
  exact unparts (wk q4 (.code New1.yN New1.yB 2 none)) (wks q4 (.initialized New1.yN.cls :: New1.site))
/-- the words ride from the start Z to the walk's own state -/
theorem moved {Z s : State} {a0 args : Array Value} (hZ : Z.Warmed39 s.vm) (hw : ∀ d ∈ words, d.before a0 Z = true) : ∀ d ∈ words, d.before args s = true := fun d hd => by
  have q := hw d hd
  have t : ∀ d ∈ words, d = .arrayClass .byte ∨ (d.onTables && d.keepsFace) = true := by decide +kernel
  rcases t d hd with rfl | t
  · exact RoadKit.mvA hZ q
  · exact RoadKit.mv hZ q t
/-- WHAT COMES BACK, over the tables of the start Z: h the heap at the call, h' behind it -/
def Q (Z : State) (x : Addr) (A : Cell) (h : Heap) (v : Option Value) (h' : Heap) (L : List Loc) : Prop := v = none ∧ (∀ y ∈ L, y.base = x) ∧ RoadKit.Keep h h' [x] ∧ h'.size = h.size + 1 ∧ RoadKit.Exa Z h' x ST ∧ RoadKit.Fld Z h' x ST "value" "[B" (.ref h.size) ∧ RoadKit.Fld Z h' x ST "coder" "B" (.int 0) ∧
  (∃ V : Cell, RoadKit.Arr Z h' h.size V .byte ∧ V.vm = .none ∧ Z.vm.findClass "[B" = some V.cls ∧ V.slots.size = A.slots.size ∧ ∀ j, j < A.slots.size → V.slots[j]? = some (.int (lo8 (cv A j)))) ∧
  ∀ (O n d : String) (w : Value), RoadKit.Fld Z h x O n d w → RoadKit.slotOf Z O n d ≠ RoadKit.slotOf Z ST "value" "[B" → RoadKit.slotOf Z O n d ≠ RoadKit.slotOf Z ST "coder" "B" → RoadKit.Fld Z h' x O n d w
/-- **new String(chars) AT A CALL, IN THE ROAD'S FORM**: for specialBack behind newO: x the fresh String, b the char[] with the cell A -/
theorem back {p : Program} {l : Launch} {e : Env} {R : Room} {s : State} {args : Array Value} {below : List Frame} {len W : Nat} {Z : State} {a0 : Array Value} {h : Heap} (hZ : Z.Warmed39 s.vm) (hw : ∀ d ∈ words, d.before a0 Z = true) {kI : Nat} (wi : (Jvm.Cond.instantiable ST kI).before a0 Z = true)
    {x b : Addr} {A : Cell} {z : Int32} {v0 c0 : Value} (E : RoadKit.Exa Z h x ST) (V : RoadKit.Fld Z h x ST "value" "[B" v0) (C : RoadKit.Fld Z h x ST "coder" "B" c0) (K : RoadKit.Arr Z h b A .char) (hty : Typed .char A) (S : RoadKit.Sta Z h ST "COMPACT_STRINGS" "Z" (.int z)) (hz : ¬ z = 0)
    (l0 : 0 < A.slots.size) (l2 : A.slots.size ≤ 536870912) (hp : ∀ i, i < A.slots.size → ¬ 255 < cv A i) (hfr : 4 ≤ R.frames) (hlo : W + 65 ≤ R.locals) :
    Back l R p e below s args New1.yN len W (fun P a => a = #[.ref x, .ref b] ∧ P.U.heap = h ∧ P.cells + 1 ≤ R.cells ∧ P.slots + A.slots.size ≤ R.slots)
      (fun P _ v B => ∃ L, Q Z x A h v B.U.heap L ∧ B.locs = P.locs ++ L ∧ B.cells = P.cells + 1 ∧ B.slots = P.slots + A.slots.size) := by
  intro m meth c P g ig mk a X hg hsize hdg hW hn hp'
  obtain ⟨rfl, rfl, r1, r2⟩ := hp'
  have al : Z.vm.Alike P.U.vm := hZ.alike.trans X.warmed.alike
  obtain ⟨D, cfV, kV, iV, fV, hD, gV, stV, knV, obV, asV, slV⟩ := id V
  obtain ⟨D', cfC, kC, iC, fC, hD', gC, stC, -, -, asC, slC⟩ := id C
  cases hD.symm.trans hD'
  obtain ⟨D2, kD, e1, e2, e3, e4, e5⟩ := id E
  cases hD.symm.trans e1
  obtain ⟨c2, k2, i1, i2, i3, -⟩ := Cond.instantiable_spec wi
  cases e2.symm.trans i1
  cases e3.symm.trans i2
  obtain ⟨kU, u1, u2⟩ := al.2.2 _ _ e3
  have hB : Blank ST x D P.U := ⟨hD, ⟨knV, fun q hq => by rw [hq] at obV; cases obV⟩, by rw [al.findClass]; exact e2, kU, u1, by rw [u2]; exact i3, by rw [u2]; exact e5 i3⟩
  have F1 : Found ST "value" "[B" fV P.U := ⟨SBG.found_only al ⟨cfV, kV, iV, gV⟩, stV⟩
  have F2 : Found ST "coder" "B" fC P.U := ⟨SBG.found_only al ⟨cfC, kC, iC, gC⟩, stC⟩
  have hA : Ch b A P.U := ⟨⟨K.1, State.isArrayOf_alike al K.2.1, K.2.2, by omega⟩, hty⟩
  have hS : StaticIs P.U ST "COMPACT_STRINGS" "Z" (.int z) := by
    obtain ⟨cfS, iS, kS, fS, st, cS, t1, t2, t3, t4, t5, t6, t7⟩ := S
    exact StaticIs.there (s := { Z with heap := P.U.heap }) ⟨cfS, iS, kS, fS, st, cS, t1, t2, t3, t4, t5, (fun q => by rw [q] at t6; cases t6), t7⟩ al rfl
  obtain ⟨v, B, X', ⟨⟨hv, E', V', q1, q2, q3, q4, q5, q6, q7, q8, q9, q10, q11⟩, hl, hc, hs⟩, st⟩ := New1.pays x D fV fC b A z (tab_of (moved hZ hw)) hfr hlo m meth c P g ig mk _ X hg hsize hdg hW hn ⟨r1, r2, rfl, hB, F1, F2, hA, hS, hz, l0, l2, hp⟩
  have al' : Z.vm.Alike B.U.vm := hZ.alike.trans X'.warmed.alike
  have hsz : E'.slots.size = D.slots.size := by
    obtain ⟨-, -, -, kB, w1, w2, w3⟩ := q1
    obtain ⟨kB', y1, y2⟩ := al'.2.2 _ _ e3
    rw [q2.2.1] at w1
    cases w1.symm.trans y1
    rw [w3, e5 i3, y2]
  refine ⟨v, B, X', ⟨_, ⟨hv, ?_, ⟨by omega, fun y cy hy hn' => q10 y cy (by simpa using hn') hy, fun y cy hy => ?_⟩, q11, ⟨E', _, q1.1, by rw [q2.2.1]; exact e2, by rw [q2.2.1]; exact e3, by rw [q2.1]; exact obV, fun _ => by rw [hsz]; exact e5 i3⟩,
    ⟨E', cfV, kV, iV, fV, q1.1, gV, stV, by rw [q2.1]; exact knV, by rw [q2.1]; exact obV, by rw [q2.2.1]; exact asV, q3⟩, ⟨E', cfC, kC, iC, fC, q1.1, gC, stC, by rw [q2.1]; exact knV, by rw [q2.1]; exact obV, by rw [q2.2.1]; exact asC, q4⟩,
    ⟨V', ⟨q5.1, State.isArrayOf_alike al'.symm q5.2.1, q5.2.2.1⟩, q6, by rw [← al'.findClass]; exact q7, q8, fun j hj => by have := q9 j hj; rwa [Nat.zero_add] at this⟩, fun O n d w F n1 n2 => ?_⟩, hl, hc, hs⟩, st⟩
  · intro y hy
    simp only [List.mem_cons, List.not_mem_nil, or_false] at hy
    rcases hy with rfl | rfl <;> rfl
  · by_cases q : y = x
    · subst q
      cases hD.symm.trans hy
      exact ⟨E', q1.1, q2.2.1, q2.1, hsz⟩
    · exact ⟨cy, q10 y cy q hy, rfl, rfl, rfl⟩
  · obtain ⟨D3, cf, k, i, f, g1, g2, g3, g4, g5, g6, g7⟩ := F
    cases hD.symm.trans g1
    simp only [RoadKit.slotOf, g2, gV, gC, Option.map_some, Option.getD_some] at n1 n2
    exact ⟨E', cf, k, i, f, q1.1, g2, g3, by rw [q2.1]; exact g4, by rw [q2.1]; exact g5, by rw [q2.2.1]; exact g6, by rw [q2.2.2 f.slot (by simp [n1, n2])]; exact g7⟩
end StrChars.Road
namespace StrChars.Road
open Jvm Sem ClassFile Op Lib Jvm.Stand Jvm.Free Jvm.Free.XT
/-- WHAT COMES BACK, the byte[] as a list of values -/
def QA (Z : State) (x : Addr) (zn : Int32) (cs : List Int32) (h : Heap) (v : Option Value) (h' : Heap) (L : List Loc) : Prop := v = none ∧ (∀ y ∈ L, y.base = x) ∧ RoadKit.Keep h h' [x] ∧ h'.size = h.size + 1 ∧ RoadKit.Exa Z h' x ST ∧ RoadKit.Fld Z h' x ST "value" "[B" (.ref h.size) ∧ RoadKit.Fld Z h' x ST "coder" "B" (.int 0) ∧
  (∃ kb, Z.vm.findClass "[B" = some kb ∧ RoadKit.Arv Z h' h.size kb .byte zn (cs.map fun c => .int (lo8 c)) (.int 0)) ∧
  ∀ (O n d : String) (w : Value), RoadKit.Fld Z h x O n d w → RoadKit.slotOf Z O n d ≠ RoadKit.slotOf Z ST "value" "[B" → RoadKit.slotOf Z O n d ≠ RoadKit.slotOf Z ST "coder" "B" → RoadKit.Fld Z h' x O n d w
/-- **new String(chars) AT A CALL, THE ARRAYS AS LISTS**: the char[] at b holds cs, not empty, no char above 255 -/
theorem backArv {p : Program} {l : Launch} {e : Env} {R : Room} {s : State} {args : Array Value} {below : List Frame} {len W : Nat} {Z : State} {a0 : Array Value} {h : Heap} (hZ : Z.Warmed39 s.vm) (hw : ∀ d ∈ words, d.before a0 Z = true) {kI : Nat} (wi : (Jvm.Cond.instantiable ST kI).before a0 Z = true)
    {x b : Addr} {k : ClassId} {zn z : Int32} {cs : List Int32} {dv v0 c0 : Value} (E : RoadKit.Exa Z h x ST) (V : RoadKit.Fld Z h x ST "value" "[B" v0) (C : RoadKit.Fld Z h x ST "coder" "B" c0) (K : RoadKit.Arv Z h b k .char zn (cs.map Value.int) dv) (S : RoadKit.Sta Z h ST "COMPACT_STRINGS" "Z" (.int z)) (hz : ¬ z = 0)
    (hlen : zn.toNatClampNeg = cs.length) (h0 : 0 < cs.length) (hbig : cs.length ≤ 536870912) (hall : ∀ c ∈ cs, ¬ 255 < c) (hfr : 4 ≤ R.frames) (hlo : W + 65 ≤ R.locals) :
    Back l R p e below s args New1.yN len W (fun P a => a = #[.ref x, .ref b] ∧ P.U.heap = h ∧ P.cells + 1 ≤ R.cells ∧ P.slots + cs.length ≤ R.slots)
      (fun P _ v B => ∃ L, QA Z x zn cs h v B.U.heap L ∧ B.locs = P.locs ++ L ∧ B.cells = P.cells + 1 ∧ B.slots = P.slots + cs.length) := by
  obtain ⟨A, K1, K2, K3, K4, K5, K6⟩ := K
  have e : A.slots.size = cs.length := K3.trans hlen
  have hat : ∀ (i : Nat) (hi : i < cs.length), A.slots[i]? = some (.int cs[i]) := fun i hi => by rw [K5 i (by omega)]; simp [List.getD_eq_getElem?_getD, hi]
  have hcv : ∀ (i : Nat) (hi : i < cs.length), cv A i = cs[i] := fun i hi => by unfold cv; rw [hat i hi]
  have hty : Typed .char A := fun i v hv => by
    have hi : i < A.slots.size := (Array.getElem?_eq_some_iff.mp hv).1
    have q := K5 i hi
    rw [hv] at q
    rw [Option.some.inj q]
    exact K6 i hi
  refine Back.mono (back hZ hw wi E V C K1 hty S hz (by omega) (by omega) (fun i hi => by rw [hcv i (by omega)]; exact hall _ (List.getElem_mem _)) hfr hlo) (fun P a hp => ⟨hp.1, hp.2.1, hp.2.2.1, by rw [e]; exact hp.2.2.2⟩) (fun P a v B hp hq => ?_)
  obtain ⟨L, ⟨q1, q2, q3, q4, q5, q6, q7, ⟨V', v1, v2, v3, v4, v5⟩, q9⟩, hl, hc, hs⟩ := hq
  refine ⟨L, ⟨q1, q2, q3, q4, q5, q6, q7, ⟨V'.cls, v3, V', v1, rfl, by rw [v4, e, hlen], K4, fun i hi => ?_, fun i hi => ?_⟩, q9⟩, hl, hc, by rw [hs, e]⟩
  · have hi' : i < cs.length := by omega
    rw [v5 i (by omega), hcv i hi']; simp [List.getD_eq_getElem?_getD, hi']
  · have hi' : i < cs.length := by omega
    simp only [List.getD_eq_getElem?_getD, List.getElem?_map, List.getElem?_eq_getElem hi', Option.map_some, Option.getD_some]
    exact fits_lo8 _
end StrChars.Road
namespace StrChars.Road
open Jvm Sem ClassFile Op Lib Jvm.Stand Jvm.Free Jvm.Free.XT
/-- WHAT COMES BACK, in the writer's own shape -/
def QV (Z : State) (x : Addr) (N : Int32) (bs : List Int32) (h : Heap) (n0 : Nat) (v : Option Value) (h' : Heap) (L : List Loc) : Prop := v = none ∧ RoadKit.Fr n0 L ∧ RoadKit.Keep h h' [x] ∧ RoadKit.Exa Z h' x ST ∧ RoadKit.Fld Z h' x ST "coder" "B" (.int 0) ∧
  ∃ (t : Addr) (kb : ClassId), n0 ≤ t ∧ h.size ≤ t ∧ ¬ t = x ∧ RoadKit.Fld Z h' x ST "value" "[B" (.ref t) ∧ RoadKit.Arv Z h' t kb .byte N (bs.map Value.int) (.int 0)
/-- **new String(chars) AT A CALL, FOR THE WRITER**: a char[] of n known ints, each 0 to 255 -/
theorem backV {p : Program} {l : Launch} {e : Env} {R : Room} {s : State} {args : Array Value} {below : List Frame} {len W : Nat} {Z : State} {a0 : Array Value} {h : Heap} (hZ : Z.Warmed39 s.vm) (hw : ∀ d ∈ words, d.before a0 Z = true) {kI : Nat} (wi : (Jvm.Cond.instantiable ST kI).before a0 Z = true)
    {x b : Addr} {kC : ClassId} {cs bs : List Int32} {d v0 c0 : Value} {z N : Int32} {n n0 : Nat} (hx0 : n0 ≤ x) (hh0 : n0 ≤ h.size) (E : RoadKit.Exa Z h x ST) (V : RoadKit.Fld Z h x ST "value" "[B" v0) (C : RoadKit.Fld Z h x ST "coder" "B" c0) (K : RoadKit.Arv Z h b kC .char N (cs.map Value.int) d) (S : RoadKit.Sta Z h ST "COMPACT_STRINGS" "Z" (.int z)) (hz : ¬ z = 0)
    (hn : cs.length = n) (hN : N = Int32.ofNat n) (l0 : 0 < n) (l2 : n ≤ 4000) (hp : ∀ c ∈ cs, ¬ c < 0 ∧ ¬ (255 : Int32) < c) (hb : bs = cs.map (fun c => c.toInt8.toInt32)) (hfr : 4 ≤ R.frames) (hlo : W + 65 ≤ R.locals) :
    Back l R p e below s args (⟨"java/lang/String", "<init>", "([C)V"⟩ : MethodName) len W (fun P a => a = #[.ref x, .ref b] ∧ P.U.heap = h ∧ P.cells + 1 ≤ R.cells ∧ P.slots + n ≤ R.slots)
      (fun P _ v B => ∃ L, QV Z x N bs h n0 v B.U.heap L ∧ B.locs = P.locs ++ L ∧ B.cells = P.cells + 1 ∧ B.slots = P.slots + n) := by
  subst hn hN hb
  refine Back.mono (backArv hZ hw wi E V C K S hz (n32 (by omega)) l0 (by omega) (fun c hc => (hp c hc).2) hfr hlo) (fun P a hp => hp) (fun P a v B hp hq => ?_)
  obtain ⟨L, ⟨q1, q2, q3, q4, q5, q6, q7, ⟨kb, v1, v2⟩, q9⟩, hl, hc, hs⟩ := hq
  exact ⟨L, ⟨q1, fun y hy => by rw [q2 y hy]; exact hx0, q3, q5, q7, h.size, kb, hh0, Nat.le_refl _, Nat.ne_of_gt E.lt, q6, by rw [List.map_map]; exact v2⟩, hl, hc, hs⟩
end StrChars.Road
end Jvm.Pilot.@@N@@
namespace Jvm.Pilot.@@N@@
open Jvm Jvm.ClassFile Sem Op Lib Jvm.Free Jvm.Stand Jvm.LawKit Jvm.RoadKit Bundle Jvm.Pilot.@@N@@.Jvm.D
section Own
variable {p : Program} {l : Launch} {e : Env} {R : Room} {s : State} {m : MethodId} {args : Array Value} {below : List Frame} {meth : Method} {c : Code} {T : State} {locs : List Loc} {cells slots : Nat} {Z : State} {a0 : Array Value} {h h' : Heap} {n0 : Nat} {Q : Option Value → Heap → Prop} {kc ks : Nat} {Fn : Outcome → State → List Loc → Prop} {Ls : Array Slot} {St : List Value} {pc : Nat} {own nm : String} {bytes : ByteArray} {maxL : Nat} {ret : Option FieldType}
/-- the rest of a run: from S the method ends by returning; Q says what it returns and leaves; nothing below n0 is written -/
def OGo (p : Program) (e : Env) (below : List Frame) (Fn : Outcome → State → List Loc → Prop) (n0 : Nat) (Q : Option Value → Heap → Prop) (S : State) : Prop :=
  ∃ U o, Steps p.tables e below S U ∧ U.status = .running ∧ Ended U below o ∧ ∃ v L, o = .returned v ∧ (Q v U.heap ∧ Fr n0 L) ∧ Fn o U L
/-- the end's frame: as FrameEnd has it; or the wide one, where String constants may have been interned -/
def OFin (s : State) (kc ks : Nat) (o : Outcome) (U : State) (L : List Loc) : Prop := FrameEnd s o U L kc ks
def OFinW (s : State) (kc ks : Nat) (o : Outcome) (U : State) (L : List Loc) : Prop := Jvm.ReturnedEndW s o U L kc ks
theorem OGo.st {A B : State} (k : ∀ t, Steps p.tables e below A t → Steps p.tables e below B t) (g : OGo p e below Fn n0 Q A) : OGo p e below Fn n0 Q B := by
  obtain ⟨U, o, h1, r⟩ := g
  exact ⟨U, o, k U h1, r⟩
theorem OGo.imp {A : State} {Q' : Option Value → Heap → Prop} (k : ∀ v h, Q' v h → Q v h) (g : OGo p e below Fn n0 Q' A) : OGo p e below Fn n0 Q A := by
  obtain ⟨U, o, h1, h2, h3, v, L, h4, ⟨h5, h6⟩, h7⟩ := g
  exact ⟨U, o, h1, h2, h3, v, L, h4, ⟨k _ _ h5, h6⟩, h7⟩
/-- what a walk knows of the method in which it stands -/
def OCx (p : Program) (s : State) (m : MethodId) (meth : Method) (c : Code) (Z : State) (own nm : String) (bytes : ByteArray) (maxL : Nat) (ret : Option FieldType) : Prop :=
  p.tables.exec = Jvm.exec ∧ Z.Warmed39 s.vm ∧ c.code = bytes ∧ c.maxLocals = maxL ∧ s.vm.findClass own = some m.cls ∧ meth.name = nm ∧ meth.sig.returnType = ret ∧ meth.locks = false
theorem OCx.hx (K : OCx p s m meth c Z own nm bytes maxL ret) : p.tables.exec = Jvm.exec := K.1
theorem OCx.hZ (K : OCx p s m meth c Z own nm bytes maxL ret) : Z.Warmed39 s.vm := K.2.1
theorem OCx.hby (K : OCx p s m meth c Z own nm bytes maxL ret) : c.code = bytes := K.2.2.1
theorem OCx.hml (K : OCx p s m meth c Z own nm bytes maxL ret) : c.maxLocals = maxL := K.2.2.2.1
theorem OCx.hown (K : OCx p s m meth c Z own nm bytes maxL ret) : s.vm.findClass own = some m.cls := K.2.2.2.2.1
theorem OCx.hnm (K : OCx p s m meth c Z own nm bytes maxL ret) : meth.name = nm := K.2.2.2.2.2.1
theorem OCx.hret (K : OCx p s m meth c Z own nm bytes maxL ret) : meth.sig.returnType = ret := K.2.2.2.2.2.2.1
theorem OCx.hlk (K : OCx p s m meth c Z own nm bytes maxL ret) : meth.locks = false := K.2.2.2.2.2.2.2
/-- a body's contract: called with these arguments at this heap it returns, and Q -/
def OCon (l : Launch) (Z : State) (n0 : Nat) (y : MethodName) (bytes : ByteArray) (maxL : Nat) (ret : Option FieldType) (rm : Room) (as : Array Value) (h0 : Heap) (Q : Option Value → Heap → Prop) : Prop :=
  ∀ ws, MetFree l y (head1 (Jvm.Cond.code y bytes maxL ret :: ws) rm) (fun a U => a = as ∧ Z.Warmed39 U.vm ∧ U.heap = h0) (fun _ _ _ _ _ => True) (fun _ U o U' => ∃ v L, o = .returned v ∧ (Q v U'.heap ∧ Fr n0 L) ∧ FrameEnd U o U' L rm.cells rm.slots)
theorem OCon.of {y : MethodName} {rm : Room} {as : Array Value} {h0 : Heap} {Ls : Array Slot} (hpl : plainFor y = true) (ho : y.cls = own) (hn : y.name = nm) (hen : ∀ m, entryFrame m as maxL = mkF m 0 Ls [])
    (H : ∀ (p : Program) (e : Env) (s : State) (m : MethodId) (below : List Frame) (meth : Method) (c : Code) (T : State), Stand p l e rm s m as below meth c T [] 0 0 → OCx p s m meth c Z own nm bytes maxL ret → T.heap = h0 → OGo p e below (OFin s rm.cells rm.slots) n0 Q (T.setTop (mkF m 0 Ls []))) : OCon l Z n0 y bytes maxL ret rm as h0 Q := by
  intro ws
  refine MetFree.of_bodySF hpl hisR ?_
  intro p e s m args below meth c s₁ Bd hml0 hP hK
  obtain ⟨rfl, hZ, hh⟩ := hP
  subst ho hn
  obtain ⟨U, o, h1, r⟩ := H p e s m below meth c s₁ (Stand.of_body Bd) ⟨Bd.exec, hZ, Bd.bytes, hml0, findClass_of_methodNamed Bd.named, (name_of_methodNamed Bd.named Bd.method).1, Bd.returns, Bd.notSynchronized⟩ (by rw [← hh, Bd.state]; rfl)
  exact ⟨U, o, castTop (hen m) h1, r⟩
theorem OCon.imp {y : MethodName} {rm : Room} {as : Array Value} {h0 : Heap} {Q' : Option Value → Heap → Prop} (g : OCon l Z n0 y bytes maxL ret rm as h0 Q) (k : ∀ v h, Q v h → Q' v h) : OCon l Z n0 y bytes maxL ret rm as h0 Q' := by
  intro ws p e ha hc hk s m args below hf happ hP hK
  obtain ⟨n, o, h1, h2, h3, v, L, h4, ⟨h5, h6⟩, h7⟩ := g ws p e ha hc hk s m args below hf happ hP hK
  exact ⟨n, o, h1, h2, h3, v, L, h4, ⟨k _ _ h5, h6⟩, h7⟩

theorem o_iload (X : Stand p l e R s m args below meth c T locs cells slots) (K : OCx p s m meth c Z own nm bytes maxL ret) {k : Nat} {v : Int32} (hd : decode bytes pc = .ok (.iload k, 2)) (pc' : Nat) (hp : pc + 2 = pc') (hl : Ls[k]? = some (.val (.int v))) (hr : OGo p e below Fn n0 Q (T.setTop (mkF m pc' Ls (.int v :: St)))) : OGo p e below Fn n0 Q (T.setTop (mkF m pc Ls St)) := by
  subst hp
  exact OGo.st (fun _ k => XS.iload X.here K.hx rfl (hb K.hby hd) hl k) hr
theorem o_iloadN (X : Stand p l e R s m args below meth c T locs cells slots) (K : OCx p s m meth c Z own nm bytes maxL ret) {k : Fin 4} {v : Int32} (hd : decode bytes pc = .ok (.iload_n k, 1)) (pc' : Nat) (hp : pc + 1 = pc') (hl : Ls[k.val]? = some (.val (.int v))) (hr : OGo p e below Fn n0 Q (T.setTop (mkF m pc' Ls (.int v :: St)))) : OGo p e below Fn n0 Q (T.setTop (mkF m pc Ls St)) := by
  subst hp
  exact OGo.st (fun _ k => XS.iloadN X.here K.hx rfl (hb K.hby hd) hl k) hr
theorem o_lload (X : Stand p l e R s m args below meth c T locs cells slots) (K : OCx p s m meth c Z own nm bytes maxL ret) {k : Nat} {v : Int64} (hd : decode bytes pc = .ok (.lload k, 2)) (pc' : Nat) (hp : pc + 2 = pc') (hl : Ls[k]? = some (.val (.long v))) (hr : OGo p e below Fn n0 Q (T.setTop (mkF m pc' Ls (.long v :: St)))) : OGo p e below Fn n0 Q (T.setTop (mkF m pc Ls St)) := by
  subst hp
  exact OGo.st (fun _ k => XS.lload X.here K.hx rfl (hb K.hby hd) hl k) hr
theorem o_lloadN (X : Stand p l e R s m args below meth c T locs cells slots) (K : OCx p s m meth c Z own nm bytes maxL ret) {k : Fin 4} {v : Int64} (hd : decode bytes pc = .ok (.lload_n k, 1)) (pc' : Nat) (hp : pc + 1 = pc') (hl : Ls[k.val]? = some (.val (.long v))) (hr : OGo p e below Fn n0 Q (T.setTop (mkF m pc' Ls (.long v :: St)))) : OGo p e below Fn n0 Q (T.setTop (mkF m pc Ls St)) := by
  subst hp
  exact OGo.st (fun _ k => XS.lloadN X.here K.hx rfl (hb K.hby hd) hl k) hr
theorem o_aload (X : Stand p l e R s m args below meth c T locs cells slots) (K : OCx p s m meth c Z own nm bytes maxL ret) {k : Nat} {v : Value} (hd : decode bytes pc = .ok (.aload k, 2)) (pc' : Nat) (hp : pc + 2 = pc') (hl : Ls[k]? = some (.val v)) (hv : v.isRef = true) (hr : OGo p e below Fn n0 Q (T.setTop (mkF m pc' Ls (v :: St)))) : OGo p e below Fn n0 Q (T.setTop (mkF m pc Ls St)) := by
  subst hp
  exact OGo.st (fun _ k => XS.aload X.here K.hx rfl (hb K.hby hd) hl hv k) hr
theorem o_aloadN (X : Stand p l e R s m args below meth c T locs cells slots) (K : OCx p s m meth c Z own nm bytes maxL ret) {k : Fin 4} {v : Value} (hd : decode bytes pc = .ok (.aload_n k, 1)) (pc' : Nat) (hp : pc + 1 = pc') (hl : Ls[k.val]? = some (.val v)) (hv : v.isRef = true) (hr : OGo p e below Fn n0 Q (T.setTop (mkF m pc' Ls (v :: St)))) : OGo p e below Fn n0 Q (T.setTop (mkF m pc Ls St)) := by
  subst hp
  exact OGo.st (fun _ k => XS.aloadN X.here K.hx rfl (hb K.hby hd) hl hv k) hr
theorem o_istore (X : Stand p l e R s m args below meth c T locs cells slots) (K : OCx p s m meth c Z own nm bytes maxL ret) {k : Nat} {x x' : Int32} (hd : decode bytes pc = .ok (.istore k, 2)) (pc' : Nat) (hp : pc + 2 = pc') (Ls' : Array Slot) (hv : x = x') (hl : storeLocals Ls k (.int x') = some Ls') (hr : OGo p e below Fn n0 Q (T.setTop (mkF m pc' Ls' St))) : OGo p e below Fn n0 Q (T.setTop (mkF m pc Ls (.int x :: St))) := by
  subst hp
  exact OGo.st (fun _ k => XS.istore X.here K.hx rfl (hb K.hby hd) rfl (hv ▸ hl) k) hr
theorem o_istoreN (X : Stand p l e R s m args below meth c T locs cells slots) (K : OCx p s m meth c Z own nm bytes maxL ret) {k : Fin 4} {x x' : Int32} (hd : decode bytes pc = .ok (.istore_n k, 1)) (pc' : Nat) (hp : pc + 1 = pc') (Ls' : Array Slot) (hv : x = x') (hl : storeLocals Ls k.val (.int x') = some Ls') (hr : OGo p e below Fn n0 Q (T.setTop (mkF m pc' Ls' St))) : OGo p e below Fn n0 Q (T.setTop (mkF m pc Ls (.int x :: St))) := by
  subst hp
  exact OGo.st (fun _ k => XS.istoreN X.here K.hx rfl (hb K.hby hd) rfl (hv ▸ hl) k) hr
theorem o_lstore (X : Stand p l e R s m args below meth c T locs cells slots) (K : OCx p s m meth c Z own nm bytes maxL ret) {k : Nat} {x x' : Int64} (hd : decode bytes pc = .ok (.lstore k, 2)) (pc' : Nat) (hp : pc + 2 = pc') (Ls' : Array Slot) (hv : x = x') (hl : storeLocals Ls k (.long x') = some Ls') (hr : OGo p e below Fn n0 Q (T.setTop (mkF m pc' Ls' St))) : OGo p e below Fn n0 Q (T.setTop (mkF m pc Ls (.long x :: St))) := by
  subst hp
  exact OGo.st (fun _ k => XS.lstore X.here K.hx rfl (hb K.hby hd) rfl (hv ▸ hl) k) hr
theorem o_lstoreN (X : Stand p l e R s m args below meth c T locs cells slots) (K : OCx p s m meth c Z own nm bytes maxL ret) {k : Fin 4} {x x' : Int64} (hd : decode bytes pc = .ok (.lstore_n k, 1)) (pc' : Nat) (hp : pc + 1 = pc') (Ls' : Array Slot) (hv : x = x') (hl : storeLocals Ls k.val (.long x') = some Ls') (hr : OGo p e below Fn n0 Q (T.setTop (mkF m pc' Ls' St))) : OGo p e below Fn n0 Q (T.setTop (mkF m pc Ls (.long x :: St))) := by
  subst hp
  exact OGo.st (fun _ k => XS.lstoreN X.here K.hx rfl (hb K.hby hd) rfl (hv ▸ hl) k) hr
theorem o_astore (X : Stand p l e R s m args below meth c T locs cells slots) (K : OCx p s m meth c Z own nm bytes maxL ret) {k : Nat} {x : Value} (hd : decode bytes pc = .ok (.astore k, 2)) (pc' : Nat) (hp : pc + 2 = pc') (Ls' : Array Slot) (hv : x.isRef = true) (hl : storeLocals Ls k x = some Ls') (hr : OGo p e below Fn n0 Q (T.setTop (mkF m pc' Ls' St))) : OGo p e below Fn n0 Q (T.setTop (mkF m pc Ls (x :: St))) := by
  subst hp
  exact OGo.st (fun _ k => XS.astore X.here K.hx rfl (hb K.hby hd) rfl hv hl k) hr
theorem o_astoreN (X : Stand p l e R s m args below meth c T locs cells slots) (K : OCx p s m meth c Z own nm bytes maxL ret) {k : Fin 4} {x : Value} (hd : decode bytes pc = .ok (.astore_n k, 1)) (pc' : Nat) (hp : pc + 1 = pc') (Ls' : Array Slot) (hv : x.isRef = true) (hl : storeLocals Ls k.val x = some Ls') (hr : OGo p e below Fn n0 Q (T.setTop (mkF m pc' Ls' St))) : OGo p e below Fn n0 Q (T.setTop (mkF m pc Ls (x :: St))) := by
  subst hp
  exact OGo.st (fun _ k => XS.astoreN X.here K.hx rfl (hb K.hby hd) rfl hv hl k) hr
theorem o_iinc (X : Stand p l e R s m args below meth c T locs cells slots) (K : OCx p s m meth c Z own nm bytes maxL ret) {k : Nat} {cst : Int} {x x' : Int32} (hd : decode bytes pc = .ok (.iinc k cst, 3)) (pc' : Nat) (hp : pc + 3 = pc') (Ls' : Array Slot) (hl : Ls[k]? = some (.val (.int x))) (hv : x + Int32.ofInt cst = x') (hl' : storeLocals Ls k (.int x') = some Ls') (hr : OGo p e below Fn n0 Q (T.setTop (mkF m pc' Ls' St))) : OGo p e below Fn n0 Q (T.setTop (mkF m pc Ls St)) := by
  subst hp
  exact OGo.st (fun _ k => XS.iinc X.here K.hx rfl (hb K.hby hd) hl (hv ▸ hl') k) hr
theorem o_iconst (X : Stand p l e R s m args below meth c T locs cells slots) (K : OCx p s m meth c Z own nm bytes maxL ret) {i : Int} (v : Int32) (hd : decode bytes pc = .ok (.iconst i, 1)) (pc' : Nat) (hp : pc + 1 = pc') (hv : Int32.ofInt i = v) (hr : OGo p e below Fn n0 Q (T.setTop (mkF m pc' Ls (.int v :: St)))) : OGo p e below Fn n0 Q (T.setTop (mkF m pc Ls St)) := by
  subst hp
  exact OGo.st (fun _ k => XS.iconst X.here K.hx rfl (hb K.hby hd) (by rw [hv]; exact k)) hr
theorem o_bipush (X : Stand p l e R s m args below meth c T locs cells slots) (K : OCx p s m meth c Z own nm bytes maxL ret) {i : Int} (v : Int32) (hd : decode bytes pc = .ok (.bipush i, 2)) (pc' : Nat) (hp : pc + 2 = pc') (hv : (Int8.ofInt i).toInt32 = v) (hr : OGo p e below Fn n0 Q (T.setTop (mkF m pc' Ls (.int v :: St)))) : OGo p e below Fn n0 Q (T.setTop (mkF m pc Ls St)) := by
  subst hp
  exact OGo.st (fun _ k => XS.bipush X.here K.hx rfl (hb K.hby hd) (by rw [hv]; exact k)) hr
theorem o_sipush (X : Stand p l e R s m args below meth c T locs cells slots) (K : OCx p s m meth c Z own nm bytes maxL ret) {i : Int} (v : Int32) (hd : decode bytes pc = .ok (.sipush i, 3)) (pc' : Nat) (hp : pc + 3 = pc') (hv : (Int16.ofInt i).toInt32 = v) (hr : OGo p e below Fn n0 Q (T.setTop (mkF m pc' Ls (.int v :: St)))) : OGo p e below Fn n0 Q (T.setTop (mkF m pc Ls St)) := by
  subst hp
  exact OGo.st (fun _ k => XS.sipush X.here K.hx rfl (hb K.hby hd) (by rw [hv]; exact k)) hr
theorem o_lconst (X : Stand p l e R s m args below meth c T locs cells slots) (K : OCx p s m meth c Z own nm bytes maxL ret) {i : Fin 2} (v : Int64) (hd : decode bytes pc = .ok (.lconst i, 1)) (pc' : Nat) (hp : pc + 1 = pc') (hv : Int64.ofNat i = v) (hr : OGo p e below Fn n0 Q (T.setTop (mkF m pc' Ls (.long v :: St)))) : OGo p e below Fn n0 Q (T.setTop (mkF m pc Ls St)) := by
  subst hp
  exact OGo.st (fun _ k => XS.lconst X.here K.hx rfl (hb K.hby hd) (by rw [hv]; exact k)) hr
theorem o_aconst_null (X : Stand p l e R s m args below meth c T locs cells slots) (K : OCx p s m meth c Z own nm bytes maxL ret) (hd : decode bytes pc = .ok (.aconst_null, 1)) (pc' : Nat) (hp : pc + 1 = pc') (hr : OGo p e below Fn n0 Q (T.setTop (mkF m pc' Ls (.null :: St)))) : OGo p e below Fn n0 Q (T.setTop (mkF m pc Ls St)) := by
  subst hp
  exact OGo.st (fun _ k => XS.aconstNull X.here K.hx rfl (hb K.hby hd) k) hr
theorem o_ldcI (X : Stand p l e R s m args below meth c T locs cells slots) (K : OCx p s m meth c Z own nm bytes maxL ret) {index : Nat} {v : Int32} (hd : decode bytes pc = .ok (.ldc index, 2)) (pc' : Nat) (hp : pc + 2 = pc') (w : (Jvm.Cond.constant own index v).before a0 Z = true) (hr : OGo p e below Fn n0 Q (T.setTop (mkF m pc' Ls (.int v :: St)))) : OGo p e below Fn n0 Q (T.setTop (mkF m pc Ls St)) := by
  subst hp
  exact OGo.st (fun _ k => Stand.ldcI X K.hx K.hown (mvT K.hZ w) rfl (hb K.hby hd) k) hr
theorem o_ldcWI (X : Stand p l e R s m args below meth c T locs cells slots) (K : OCx p s m meth c Z own nm bytes maxL ret) {index : Nat} {v : Int32} (hd : decode bytes pc = .ok (.ldc_w index, 3)) (pc' : Nat) (hp : pc + 3 = pc') (w : (Jvm.Cond.constant own index v).before a0 Z = true) (hr : OGo p e below Fn n0 Q (T.setTop (mkF m pc' Ls (.int v :: St)))) : OGo p e below Fn n0 Q (T.setTop (mkF m pc Ls St)) := by
  subst hp
  exact OGo.st (fun _ k => Stand.ldcWI X K.hx K.hown (mvT K.hZ w) rfl (hb K.hby hd) k) hr
theorem o_ldc2J (X : Stand p l e R s m args below meth c T locs cells slots) (K : OCx p s m meth c Z own nm bytes maxL ret) {index : Nat} {v : Int64} (hd : decode bytes pc = .ok (.ldc2_w index, 3)) (pc' : Nat) (hp : pc + 3 = pc') (w : (Jvm.Cond.constantLong own index v).before a0 Z = true) (hr : OGo p e below Fn n0 Q (T.setTop (mkF m pc' Ls (.long v :: St)))) : OGo p e below Fn n0 Q (T.setTop (mkF m pc Ls St)) := by
  subst hp
  exact OGo.st (fun _ k => Stand.ldc2J X K.hx K.hown (mvT K.hZ w) rfl (hb K.hby hd) k) hr
theorem o_iadd (X : Stand p l e R s m args below meth c T locs cells slots) (K : OCx p s m meth c Z own nm bytes maxL ret) {x y : Int32} (hd : decode bytes pc = .ok (.iadd, 1)) (pc' : Nat) (hp : pc + 1 = pc') (hr : OGo p e below Fn n0 Q (T.setTop (mkF m pc' Ls (.int (x + y) :: St)))) : OGo p e below Fn n0 Q (T.setTop (mkF m pc Ls (.int y :: .int x :: St))) := by
  subst hp
  exact OGo.st (fun _ k => XS.iadd X.here K.hx rfl (hb K.hby hd) rfl k) hr
theorem o_isub (X : Stand p l e R s m args below meth c T locs cells slots) (K : OCx p s m meth c Z own nm bytes maxL ret) {x y : Int32} (hd : decode bytes pc = .ok (.isub, 1)) (pc' : Nat) (hp : pc + 1 = pc') (hr : OGo p e below Fn n0 Q (T.setTop (mkF m pc' Ls (.int (x - y) :: St)))) : OGo p e below Fn n0 Q (T.setTop (mkF m pc Ls (.int y :: .int x :: St))) := by
  subst hp
  exact OGo.st (fun _ k => XS.isub X.here K.hx rfl (hb K.hby hd) rfl k) hr
theorem o_imul (X : Stand p l e R s m args below meth c T locs cells slots) (K : OCx p s m meth c Z own nm bytes maxL ret) {x y : Int32} (hd : decode bytes pc = .ok (.imul, 1)) (pc' : Nat) (hp : pc + 1 = pc') (hr : OGo p e below Fn n0 Q (T.setTop (mkF m pc' Ls (.int (x * y) :: St)))) : OGo p e below Fn n0 Q (T.setTop (mkF m pc Ls (.int y :: .int x :: St))) := by
  subst hp
  exact OGo.st (fun _ k => XS.imul X.here K.hx rfl (hb K.hby hd) rfl k) hr
theorem o_iand (X : Stand p l e R s m args below meth c T locs cells slots) (K : OCx p s m meth c Z own nm bytes maxL ret) {x y : Int32} (hd : decode bytes pc = .ok (.iand, 1)) (pc' : Nat) (hp : pc + 1 = pc') (hr : OGo p e below Fn n0 Q (T.setTop (mkF m pc' Ls (.int (x &&& y) :: St)))) : OGo p e below Fn n0 Q (T.setTop (mkF m pc Ls (.int y :: .int x :: St))) := by
  subst hp
  exact OGo.st (fun _ k => XS.iand X.here K.hx rfl (hb K.hby hd) rfl k) hr
theorem o_ior (X : Stand p l e R s m args below meth c T locs cells slots) (K : OCx p s m meth c Z own nm bytes maxL ret) {x y : Int32} (hd : decode bytes pc = .ok (.ior, 1)) (pc' : Nat) (hp : pc + 1 = pc') (hr : OGo p e below Fn n0 Q (T.setTop (mkF m pc' Ls (.int (x ||| y) :: St)))) : OGo p e below Fn n0 Q (T.setTop (mkF m pc Ls (.int y :: .int x :: St))) := by
  subst hp
  exact OGo.st (fun _ k => XS.ior X.here K.hx rfl (hb K.hby hd) rfl k) hr
theorem o_ixor (X : Stand p l e R s m args below meth c T locs cells slots) (K : OCx p s m meth c Z own nm bytes maxL ret) {x y : Int32} (hd : decode bytes pc = .ok (.ixor, 1)) (pc' : Nat) (hp : pc + 1 = pc') (hr : OGo p e below Fn n0 Q (T.setTop (mkF m pc' Ls (.int (x ^^^ y) :: St)))) : OGo p e below Fn n0 Q (T.setTop (mkF m pc Ls (.int y :: .int x :: St))) := by
  subst hp
  exact OGo.st (fun _ k => XS.ixor X.here K.hx rfl (hb K.hby hd) rfl k) hr
theorem o_ishl (X : Stand p l e R s m args below meth c T locs cells slots) (K : OCx p s m meth c Z own nm bytes maxL ret) {x y : Int32} (hd : decode bytes pc = .ok (.ishl, 1)) (pc' : Nat) (hp : pc + 1 = pc') (hr : OGo p e below Fn n0 Q (T.setTop (mkF m pc' Ls (.int (x <<< (y &&& 31)) :: St)))) : OGo p e below Fn n0 Q (T.setTop (mkF m pc Ls (.int y :: .int x :: St))) := by
  subst hp
  exact OGo.st (fun _ k => XS.ishl X.here K.hx rfl (hb K.hby hd) rfl k) hr
theorem o_ishr (X : Stand p l e R s m args below meth c T locs cells slots) (K : OCx p s m meth c Z own nm bytes maxL ret) {x y : Int32} (hd : decode bytes pc = .ok (.ishr, 1)) (pc' : Nat) (hp : pc + 1 = pc') (hr : OGo p e below Fn n0 Q (T.setTop (mkF m pc' Ls (.int (x >>> (y &&& 31)) :: St)))) : OGo p e below Fn n0 Q (T.setTop (mkF m pc Ls (.int y :: .int x :: St))) := by
  subst hp
  exact OGo.st (fun _ k => XS.ishr X.here K.hx rfl (hb K.hby hd) rfl k) hr
theorem o_iushr (X : Stand p l e R s m args below meth c T locs cells slots) (K : OCx p s m meth c Z own nm bytes maxL ret) {x y : Int32} (hd : decode bytes pc = .ok (.iushr, 1)) (pc' : Nat) (hp : pc + 1 = pc') (hr : OGo p e below Fn n0 Q (T.setTop (mkF m pc' Ls (.int ((x.toUInt32 >>> (y &&& 31).toUInt32).toInt32) :: St)))) : OGo p e below Fn n0 Q (T.setTop (mkF m pc Ls (.int y :: .int x :: St))) := by
  subst hp
  exact OGo.st (fun _ k => XS.iushr X.here K.hx rfl (hb K.hby hd) rfl k) hr
theorem o_ladd (X : Stand p l e R s m args below meth c T locs cells slots) (K : OCx p s m meth c Z own nm bytes maxL ret) {x y : Int64} (hd : decode bytes pc = .ok (.ladd, 1)) (pc' : Nat) (hp : pc + 1 = pc') (hr : OGo p e below Fn n0 Q (T.setTop (mkF m pc' Ls (.long (x + y) :: St)))) : OGo p e below Fn n0 Q (T.setTop (mkF m pc Ls (.long y :: .long x :: St))) := by
  subst hp
  exact OGo.st (fun _ k => XS.ladd X.here K.hx rfl (hb K.hby hd) rfl k) hr
theorem o_lsub (X : Stand p l e R s m args below meth c T locs cells slots) (K : OCx p s m meth c Z own nm bytes maxL ret) {x y : Int64} (hd : decode bytes pc = .ok (.lsub, 1)) (pc' : Nat) (hp : pc + 1 = pc') (hr : OGo p e below Fn n0 Q (T.setTop (mkF m pc' Ls (.long (x - y) :: St)))) : OGo p e below Fn n0 Q (T.setTop (mkF m pc Ls (.long y :: .long x :: St))) := by
  subst hp
  exact OGo.st (fun _ k => XS.lsub X.here K.hx rfl (hb K.hby hd) rfl k) hr
theorem o_lmul (X : Stand p l e R s m args below meth c T locs cells slots) (K : OCx p s m meth c Z own nm bytes maxL ret) {x y : Int64} (hd : decode bytes pc = .ok (.lmul, 1)) (pc' : Nat) (hp : pc + 1 = pc') (hr : OGo p e below Fn n0 Q (T.setTop (mkF m pc' Ls (.long (x * y) :: St)))) : OGo p e below Fn n0 Q (T.setTop (mkF m pc Ls (.long y :: .long x :: St))) := by
  subst hp
  exact OGo.st (fun _ k => XS.lmul X.here K.hx rfl (hb K.hby hd) rfl k) hr
theorem o_land (X : Stand p l e R s m args below meth c T locs cells slots) (K : OCx p s m meth c Z own nm bytes maxL ret) {x y : Int64} (hd : decode bytes pc = .ok (.land, 1)) (pc' : Nat) (hp : pc + 1 = pc') (hr : OGo p e below Fn n0 Q (T.setTop (mkF m pc' Ls (.long (x &&& y) :: St)))) : OGo p e below Fn n0 Q (T.setTop (mkF m pc Ls (.long y :: .long x :: St))) := by
  subst hp
  exact OGo.st (fun _ k => XS.land X.here K.hx rfl (hb K.hby hd) rfl k) hr
theorem o_lor (X : Stand p l e R s m args below meth c T locs cells slots) (K : OCx p s m meth c Z own nm bytes maxL ret) {x y : Int64} (hd : decode bytes pc = .ok (.lor, 1)) (pc' : Nat) (hp : pc + 1 = pc') (hr : OGo p e below Fn n0 Q (T.setTop (mkF m pc' Ls (.long (x ||| y) :: St)))) : OGo p e below Fn n0 Q (T.setTop (mkF m pc Ls (.long y :: .long x :: St))) := by
  subst hp
  exact OGo.st (fun _ k => XS.lor X.here K.hx rfl (hb K.hby hd) rfl k) hr
theorem o_lxor (X : Stand p l e R s m args below meth c T locs cells slots) (K : OCx p s m meth c Z own nm bytes maxL ret) {x y : Int64} (hd : decode bytes pc = .ok (.lxor, 1)) (pc' : Nat) (hp : pc + 1 = pc') (hr : OGo p e below Fn n0 Q (T.setTop (mkF m pc' Ls (.long (x ^^^ y) :: St)))) : OGo p e below Fn n0 Q (T.setTop (mkF m pc Ls (.long y :: .long x :: St))) := by
  subst hp
  exact OGo.st (fun _ k => XS.lxor X.here K.hx rfl (hb K.hby hd) rfl k) hr
theorem o_lshl (X : Stand p l e R s m args below meth c T locs cells slots) (K : OCx p s m meth c Z own nm bytes maxL ret) {x : Int64} {y : Int32} (hd : decode bytes pc = .ok (.lshl, 1)) (pc' : Nat) (hp : pc + 1 = pc') (hr : OGo p e below Fn n0 Q (T.setTop (mkF m pc' Ls (.long (x <<< (y &&& 0x3f).toInt64) :: St)))) : OGo p e below Fn n0 Q (T.setTop (mkF m pc Ls (.int y :: .long x :: St))) := by
  subst hp
  exact OGo.st (fun _ k => XS.lshl X.here K.hx rfl (hb K.hby hd) rfl k) hr
theorem o_lshr (X : Stand p l e R s m args below meth c T locs cells slots) (K : OCx p s m meth c Z own nm bytes maxL ret) {x : Int64} {y : Int32} (hd : decode bytes pc = .ok (.lshr, 1)) (pc' : Nat) (hp : pc + 1 = pc') (hr : OGo p e below Fn n0 Q (T.setTop (mkF m pc' Ls (.long (x >>> (y &&& 0x3f).toInt64) :: St)))) : OGo p e below Fn n0 Q (T.setTop (mkF m pc Ls (.int y :: .long x :: St))) := by
  subst hp
  exact OGo.st (fun _ k => XS.lshr X.here K.hx rfl (hb K.hby hd) rfl k) hr
theorem o_lushr (X : Stand p l e R s m args below meth c T locs cells slots) (K : OCx p s m meth c Z own nm bytes maxL ret) {x : Int64} {y : Int32} (hd : decode bytes pc = .ok (.lushr, 1)) (pc' : Nat) (hp : pc + 1 = pc') (hr : OGo p e below Fn n0 Q (T.setTop (mkF m pc' Ls (.long ((x.toUInt64 >>> (y &&& 0x3f).toInt64.toUInt64).toInt64) :: St)))) : OGo p e below Fn n0 Q (T.setTop (mkF m pc Ls (.int y :: .long x :: St))) := by
  subst hp
  exact OGo.st (fun _ k => XS.lushr X.here K.hx rfl (hb K.hby hd) rfl k) hr
theorem o_ldiv (X : Stand p l e R s m args below meth c T locs cells slots) (K : OCx p s m meth c Z own nm bytes maxL ret) {x y : Int64} (hd : decode bytes pc = .ok (.ldiv, 1)) (pc' : Nat) (hp : pc + 1 = pc') (hy : y ≠ 0) (hr : OGo p e below Fn n0 Q (T.setTop (mkF m pc' Ls (.long (x / y) :: St)))) : OGo p e below Fn n0 Q (T.setTop (mkF m pc Ls (.long y :: .long x :: St))) := by
  subst hp
  exact OGo.st (fun _ k => XS.ldiv X.here K.hx rfl (hb K.hby hd) rfl hy k) hr
theorem o_idiv (X : Stand p l e R s m args below meth c T locs cells slots) (K : OCx p s m meth c Z own nm bytes maxL ret) {x y : Int32} (hd : decode bytes pc = .ok (.idiv, 1)) (pc' : Nat) (hp : pc + 1 = pc') (hy : y ≠ 0) (hr : OGo p e below Fn n0 Q (T.setTop (mkF m pc' Ls (.int (x / y) :: St)))) : OGo p e below Fn n0 Q (T.setTop (mkF m pc Ls (.int y :: .int x :: St))) := by
  subst hp
  exact OGo.st (fun _ k => XS.idiv X.here K.hx rfl (hb K.hby hd) rfl hy k) hr
theorem o_irem (X : Stand p l e R s m args below meth c T locs cells slots) (K : OCx p s m meth c Z own nm bytes maxL ret) {x y : Int32} (hd : decode bytes pc = .ok (.irem, 1)) (pc' : Nat) (hp : pc + 1 = pc') (hy : y ≠ 0) (hr : OGo p e below Fn n0 Q (T.setTop (mkF m pc' Ls (.int (x % y) :: St)))) : OGo p e below Fn n0 Q (T.setTop (mkF m pc Ls (.int y :: .int x :: St))) := by
  subst hp
  exact OGo.st (fun _ k => iremM X K.hx rfl (hb K.hby hd) rfl hy k) hr
theorem o_ineg (X : Stand p l e R s m args below meth c T locs cells slots) (K : OCx p s m meth c Z own nm bytes maxL ret) {x : Int32} (hd : decode bytes pc = .ok (.ineg, 1)) (pc' : Nat) (hp : pc + 1 = pc') (hr : OGo p e below Fn n0 Q (T.setTop (mkF m pc' Ls (.int (-x) :: St)))) : OGo p e below Fn n0 Q (T.setTop (mkF m pc Ls (.int x :: St))) := by
  subst hp
  exact OGo.st (fun _ k => XS.ineg X.here K.hx rfl (hb K.hby hd) rfl k) hr
theorem o_lneg (X : Stand p l e R s m args below meth c T locs cells slots) (K : OCx p s m meth c Z own nm bytes maxL ret) {x : Int64} (hd : decode bytes pc = .ok (.lneg, 1)) (pc' : Nat) (hp : pc + 1 = pc') (hr : OGo p e below Fn n0 Q (T.setTop (mkF m pc' Ls (.long (-x) :: St)))) : OGo p e below Fn n0 Q (T.setTop (mkF m pc Ls (.long x :: St))) := by
  subst hp
  exact OGo.st (fun _ k => XS.lneg X.here K.hx rfl (hb K.hby hd) rfl k) hr
theorem o_i2b (X : Stand p l e R s m args below meth c T locs cells slots) (K : OCx p s m meth c Z own nm bytes maxL ret) {x : Int32} (hd : decode bytes pc = .ok (.i2b, 1)) (pc' : Nat) (hp : pc + 1 = pc') (hr : OGo p e below Fn n0 Q (T.setTop (mkF m pc' Ls (.int (x.toInt8.toInt32) :: St)))) : OGo p e below Fn n0 Q (T.setTop (mkF m pc Ls (.int x :: St))) := by
  subst hp
  exact OGo.st (fun _ k => XS.i2b X.here K.hx rfl (hb K.hby hd) rfl k) hr
theorem o_i2c (X : Stand p l e R s m args below meth c T locs cells slots) (K : OCx p s m meth c Z own nm bytes maxL ret) {x : Int32} (hd : decode bytes pc = .ok (.i2c, 1)) (pc' : Nat) (hp : pc + 1 = pc') (hr : OGo p e below Fn n0 Q (T.setTop (mkF m pc' Ls (.int (x.toUInt32.toUInt16.toUInt32.toInt32) :: St)))) : OGo p e below Fn n0 Q (T.setTop (mkF m pc Ls (.int x :: St))) := by
  subst hp
  exact OGo.st (fun _ k => XS.i2c X.here K.hx rfl (hb K.hby hd) rfl k) hr
theorem o_i2s (X : Stand p l e R s m args below meth c T locs cells slots) (K : OCx p s m meth c Z own nm bytes maxL ret) {x : Int32} (hd : decode bytes pc = .ok (.i2s, 1)) (pc' : Nat) (hp : pc + 1 = pc') (hr : OGo p e below Fn n0 Q (T.setTop (mkF m pc' Ls (.int (x.toInt16.toInt32) :: St)))) : OGo p e below Fn n0 Q (T.setTop (mkF m pc Ls (.int x :: St))) := by
  subst hp
  exact OGo.st (fun _ k => XS.i2s X.here K.hx rfl (hb K.hby hd) rfl k) hr
theorem o_i2l (X : Stand p l e R s m args below meth c T locs cells slots) (K : OCx p s m meth c Z own nm bytes maxL ret) {x : Int32} (hd : decode bytes pc = .ok (.i2l, 1)) (pc' : Nat) (hp : pc + 1 = pc') (hr : OGo p e below Fn n0 Q (T.setTop (mkF m pc' Ls (.long (x.toInt64) :: St)))) : OGo p e below Fn n0 Q (T.setTop (mkF m pc Ls (.int x :: St))) := by
  subst hp
  exact OGo.st (fun _ k => XS.i2l X.here K.hx rfl (hb K.hby hd) rfl k) hr
theorem o_l2i (X : Stand p l e R s m args below meth c T locs cells slots) (K : OCx p s m meth c Z own nm bytes maxL ret) {x : Int64} (hd : decode bytes pc = .ok (.l2i, 1)) (pc' : Nat) (hp : pc + 1 = pc') (hr : OGo p e below Fn n0 Q (T.setTop (mkF m pc' Ls (.int (x.toInt32) :: St)))) : OGo p e below Fn n0 Q (T.setTop (mkF m pc Ls (.long x :: St))) := by
  subst hp
  exact OGo.st (fun _ k => XS.l2i X.here K.hx rfl (hb K.hby hd) rfl k) hr
theorem o_lcmp (X : Stand p l e R s m args below meth c T locs cells slots) (K : OCx p s m meth c Z own nm bytes maxL ret) {x y : Int64} (hd : decode bytes pc = .ok (.lcmp, 1)) (pc' : Nat) (hp : pc + 1 = pc') (hr : OGo p e below Fn n0 Q (T.setTop (mkF m pc' Ls (.int (lcmpW x y) :: St)))) : OGo p e below Fn n0 Q (T.setTop (mkF m pc Ls (.long y :: .long x :: St))) := by
  subst hp
  exact OGo.st (fun _ k => XS.lcmp X.here K.hx rfl (hb K.hby hd) rfl k) hr
theorem o_dup (X : Stand p l e R s m args below meth c T locs cells slots) (K : OCx p s m meth c Z own nm bytes maxL ret) {x : Value} (hd : decode bytes pc = .ok (.dup, 1)) (pc' : Nat) (hp : pc + 1 = pc') (hc : x.category = 1) (hr : OGo p e below Fn n0 Q (T.setTop (mkF m pc' Ls (x :: x :: St)))) : OGo p e below Fn n0 Q (T.setTop (mkF m pc Ls (x :: St))) := by
  subst hp
  exact OGo.st (fun _ k => XS.dup X.here K.hx rfl (hb K.hby hd) rfl hc k) hr
theorem o_pop (X : Stand p l e R s m args below meth c T locs cells slots) (K : OCx p s m meth c Z own nm bytes maxL ret) {x : Value} (hd : decode bytes pc = .ok (.pop, 1)) (pc' : Nat) (hp : pc + 1 = pc') (hc : x.category = 1) (hr : OGo p e below Fn n0 Q (T.setTop (mkF m pc' Ls St))) : OGo p e below Fn n0 Q (T.setTop (mkF m pc Ls (x :: St))) := by
  subst hp
  exact OGo.st (fun _ k => XS.pop X.here K.hx rfl (hb K.hby hd) rfl hc k) hr
theorem o_dupX1 (X : Stand p l e R s m args below meth c T locs cells slots) (K : OCx p s m meth c Z own nm bytes maxL ret) {x y : Value} (hd : decode bytes pc = .ok (.dup_x1, 1)) (pc' : Nat) (hp : pc + 1 = pc') (hc : x.category = 1) (hc' : y.category = 1) (hr : OGo p e below Fn n0 Q (T.setTop (mkF m pc' Ls (x :: y :: x :: St)))) : OGo p e below Fn n0 Q (T.setTop (mkF m pc Ls (x :: y :: St))) := by
  subst hp
  exact OGo.st (fun _ k => XS.dupX1 X.here K.hx rfl (hb K.hby hd) rfl hc hc' k) hr
theorem o_dup2 (X : Stand p l e R s m args below meth c T locs cells slots) (K : OCx p s m meth c Z own nm bytes maxL ret) {x y : Value} (hd : decode bytes pc = .ok (.dup2, 1)) (pc' : Nat) (hp : pc + 1 = pc') (hc : x.category = 1) (hc' : y.category = 1) (hr : OGo p e below Fn n0 Q (T.setTop (mkF m pc' Ls (x :: y :: x :: y :: St)))) : OGo p e below Fn n0 Q (T.setTop (mkF m pc Ls (x :: y :: St))) := by
  subst hp
  exact OGo.st (fun _ k => Jvm.Free.XT.dup2 X.here K.hx rfl (hb K.hby hd) rfl hc hc' k) hr
theorem o_dup2L (X : Stand p l e R s m args below meth c T locs cells slots) (K : OCx p s m meth c Z own nm bytes maxL ret) {x : Int64} (hd : decode bytes pc = .ok (.dup2, 1)) (pc' : Nat) (hp : pc + 1 = pc') (hr : OGo p e below Fn n0 Q (T.setTop (mkF m pc' Ls (.long x :: .long x :: St)))) : OGo p e below Fn n0 Q (T.setTop (mkF m pc Ls (.long x :: St))) := by
  subst hp
  exact OGo.st (fun _ k => Jvm.Free.XT.dup2L X.here K.hx rfl (hb K.hby hd) rfl k) hr
theorem o_goto (X : Stand p l e R s m args below meth c T locs cells slots) (K : OCx p s m meth c Z own nm bytes maxL ret) {o : Int} (hd : decode bytes pc = .ok (.goto o, 3)) (pc' : Nat) (ho : 0 ≤ (pc : Int) + o) (hp : ((pc : Int) + o).toNat = pc') (hr : OGo p e below Fn n0 Q (T.setTop (mkF m pc' Ls St))) : OGo p e below Fn n0 Q (T.setTop (mkF m pc Ls St)) :=
  OGo.st (fun _ k => XS.goto X.here K.hx rfl (pc0 := pc) rfl (hb K.hby hd) ho hp k) hr
theorem o_icmp_lt_t (X : Stand p l e R s m args below meth c T locs cells slots) (K : OCx p s m meth c Z own nm bytes maxL ret) {x y : Int32} {o : Int} (hd : decode bytes pc = .ok (.if_icmp .lt o, 3)) (pt : Nat) (ho : 0 ≤ (pc : Int) + o) (hp : ((pc : Int) + o).toNat = pt) (q : x.toInt < y.toInt) (hr : OGo p e below Fn n0 Q (T.setTop (mkF m pt Ls St))) : OGo p e below Fn n0 Q (T.setTop (mkF m pc Ls (.int y :: .int x :: St))) :=
  OGo.st (fun _ k => XS.icmpYes X.here K.hx rfl (pc0 := pc) rfl (hb K.hby hd) rfl ((tlt (Int32.lt_iff_toInt_lt.mpr q)).1) ho hp k) hr
theorem o_icmp_lt_f (X : Stand p l e R s m args below meth c T locs cells slots) (K : OCx p s m meth c Z own nm bytes maxL ret) {x y : Int32} {o : Int} (hd : decode bytes pc = .ok (.if_icmp .lt o, 3)) (pc' : Nat) (hp : pc + 3 = pc') (q : y.toInt ≤ x.toInt) (hr : OGo p e below Fn n0 Q (T.setTop (mkF m pc' Ls St))) : OGo p e below Fn n0 Q (T.setTop (mkF m pc Ls (.int y :: .int x :: St))) := by
  subst hp
  exact OGo.st (fun _ k => XS.icmpNo X.here K.hx rfl (hb K.hby hd) rfl ((flt (fun r => Int.not_lt.mpr q (Int32.lt_iff_toInt_lt.mp r))).1) k) hr
theorem o_icmp_lt (X : Stand p l e R s m args below meth c T locs cells slots) (K : OCx p s m meth c Z own nm bytes maxL ret) {x y : Int32} {o : Int} (hd : decode bytes pc = .ok (.if_icmp .lt o, 3)) (pt : Nat) (ho : 0 ≤ (pc : Int) + o) (hp : ((pc : Int) + o).toNat = pt) (pc' : Nat) (hp' : pc + 3 = pc') (h1 : x.toInt < y.toInt → OGo p e below Fn n0 Q (T.setTop (mkF m pt Ls St))) (h2 : y.toInt ≤ x.toInt → OGo p e below Fn n0 Q (T.setTop (mkF m pc' Ls St))) : OGo p e below Fn n0 Q (T.setTop (mkF m pc Ls (.int y :: .int x :: St))) :=
  (Classical.em (x.toInt < y.toInt)).elim (fun q => o_icmp_lt_t X K hd pt ho hp q (h1 q)) (fun q => o_icmp_lt_f X K hd pc' hp' (Int.not_lt.mp q) (h2 (Int.not_lt.mp q)))
theorem o_if_lt_t (X : Stand p l e R s m args below meth c T locs cells slots) (K : OCx p s m meth c Z own nm bytes maxL ret) {x : Int32} {o : Int} (hd : decode bytes pc = .ok (.ifCond .lt o, 3)) (pt : Nat) (ho : 0 ≤ (pc : Int) + o) (hp : ((pc : Int) + o).toNat = pt) (q : x.toInt < 0) (hr : OGo p e below Fn n0 Q (T.setTop (mkF m pt Ls St))) : OGo p e below Fn n0 Q (T.setTop (mkF m pc Ls (.int x :: St))) :=
  OGo.st (fun _ k => XS.ifYes X.here K.hx rfl (pc0 := pc) rfl (hb K.hby hd) rfl ((if0 _ _).trans (tlt (Int32.lt_iff_toInt_lt.mpr (show x.toInt < (0 : Int32).toInt from q))).1) ho hp k) hr
theorem o_if_lt_f (X : Stand p l e R s m args below meth c T locs cells slots) (K : OCx p s m meth c Z own nm bytes maxL ret) {x : Int32} {o : Int} (hd : decode bytes pc = .ok (.ifCond .lt o, 3)) (pc' : Nat) (hp : pc + 3 = pc') (q : 0 ≤ x.toInt) (hr : OGo p e below Fn n0 Q (T.setTop (mkF m pc' Ls St))) : OGo p e below Fn n0 Q (T.setTop (mkF m pc Ls (.int x :: St))) := by
  subst hp
  exact OGo.st (fun _ k => XS.ifNo X.here K.hx rfl (hb K.hby hd) rfl ((if0 _ _).trans (flt (fun r => Int.not_lt.mpr (show (0 : Int32).toInt ≤ x.toInt from q) (Int32.lt_iff_toInt_lt.mp r))).1) k) hr
theorem o_if_lt (X : Stand p l e R s m args below meth c T locs cells slots) (K : OCx p s m meth c Z own nm bytes maxL ret) {x : Int32} {o : Int} (hd : decode bytes pc = .ok (.ifCond .lt o, 3)) (pt : Nat) (ho : 0 ≤ (pc : Int) + o) (hp : ((pc : Int) + o).toNat = pt) (pc' : Nat) (hp' : pc + 3 = pc') (h1 : x.toInt < 0 → OGo p e below Fn n0 Q (T.setTop (mkF m pt Ls St))) (h2 : 0 ≤ x.toInt → OGo p e below Fn n0 Q (T.setTop (mkF m pc' Ls St))) : OGo p e below Fn n0 Q (T.setTop (mkF m pc Ls (.int x :: St))) :=
  (Classical.em (x.toInt < 0)).elim (fun q => o_if_lt_t X K hd pt ho hp q (h1 q)) (fun q => o_if_lt_f X K hd pc' hp' (Int.not_lt.mp q) (h2 (Int.not_lt.mp q)))
theorem o_icmp_ge_t (X : Stand p l e R s m args below meth c T locs cells slots) (K : OCx p s m meth c Z own nm bytes maxL ret) {x y : Int32} {o : Int} (hd : decode bytes pc = .ok (.if_icmp .ge o, 3)) (pt : Nat) (ho : 0 ≤ (pc : Int) + o) (hp : ((pc : Int) + o).toNat = pt) (q : y.toInt ≤ x.toInt) (hr : OGo p e below Fn n0 Q (T.setTop (mkF m pt Ls St))) : OGo p e below Fn n0 Q (T.setTop (mkF m pc Ls (.int y :: .int x :: St))) :=
  OGo.st (fun _ k => XS.icmpYes X.here K.hx rfl (pc0 := pc) rfl (hb K.hby hd) rfl ((flt (fun r => Int.not_lt.mpr q (Int32.lt_iff_toInt_lt.mp r))).2.1) ho hp k) hr
theorem o_icmp_ge_f (X : Stand p l e R s m args below meth c T locs cells slots) (K : OCx p s m meth c Z own nm bytes maxL ret) {x y : Int32} {o : Int} (hd : decode bytes pc = .ok (.if_icmp .ge o, 3)) (pc' : Nat) (hp : pc + 3 = pc') (q : x.toInt < y.toInt) (hr : OGo p e below Fn n0 Q (T.setTop (mkF m pc' Ls St))) : OGo p e below Fn n0 Q (T.setTop (mkF m pc Ls (.int y :: .int x :: St))) := by
  subst hp
  exact OGo.st (fun _ k => XS.icmpNo X.here K.hx rfl (hb K.hby hd) rfl ((tlt (Int32.lt_iff_toInt_lt.mpr q)).2.1) k) hr
theorem o_icmp_ge (X : Stand p l e R s m args below meth c T locs cells slots) (K : OCx p s m meth c Z own nm bytes maxL ret) {x y : Int32} {o : Int} (hd : decode bytes pc = .ok (.if_icmp .ge o, 3)) (pt : Nat) (ho : 0 ≤ (pc : Int) + o) (hp : ((pc : Int) + o).toNat = pt) (pc' : Nat) (hp' : pc + 3 = pc') (h1 : y.toInt ≤ x.toInt → OGo p e below Fn n0 Q (T.setTop (mkF m pt Ls St))) (h2 : x.toInt < y.toInt → OGo p e below Fn n0 Q (T.setTop (mkF m pc' Ls St))) : OGo p e below Fn n0 Q (T.setTop (mkF m pc Ls (.int y :: .int x :: St))) :=
  (Classical.em (y.toInt ≤ x.toInt)).elim (fun q => o_icmp_ge_t X K hd pt ho hp q (h1 q)) (fun q => o_icmp_ge_f X K hd pc' hp' (Int.not_le.mp q) (h2 (Int.not_le.mp q)))
theorem o_if_ge_t (X : Stand p l e R s m args below meth c T locs cells slots) (K : OCx p s m meth c Z own nm bytes maxL ret) {x : Int32} {o : Int} (hd : decode bytes pc = .ok (.ifCond .ge o, 3)) (pt : Nat) (ho : 0 ≤ (pc : Int) + o) (hp : ((pc : Int) + o).toNat = pt) (q : 0 ≤ x.toInt) (hr : OGo p e below Fn n0 Q (T.setTop (mkF m pt Ls St))) : OGo p e below Fn n0 Q (T.setTop (mkF m pc Ls (.int x :: St))) :=
  OGo.st (fun _ k => XS.ifYes X.here K.hx rfl (pc0 := pc) rfl (hb K.hby hd) rfl ((if0 _ _).trans (flt (fun r => Int.not_lt.mpr (show (0 : Int32).toInt ≤ x.toInt from q) (Int32.lt_iff_toInt_lt.mp r))).2.1) ho hp k) hr
theorem o_if_ge_f (X : Stand p l e R s m args below meth c T locs cells slots) (K : OCx p s m meth c Z own nm bytes maxL ret) {x : Int32} {o : Int} (hd : decode bytes pc = .ok (.ifCond .ge o, 3)) (pc' : Nat) (hp : pc + 3 = pc') (q : x.toInt < 0) (hr : OGo p e below Fn n0 Q (T.setTop (mkF m pc' Ls St))) : OGo p e below Fn n0 Q (T.setTop (mkF m pc Ls (.int x :: St))) := by
  subst hp
  exact OGo.st (fun _ k => XS.ifNo X.here K.hx rfl (hb K.hby hd) rfl ((if0 _ _).trans (tlt (Int32.lt_iff_toInt_lt.mpr (show x.toInt < (0 : Int32).toInt from q))).2.1) k) hr
theorem o_if_ge (X : Stand p l e R s m args below meth c T locs cells slots) (K : OCx p s m meth c Z own nm bytes maxL ret) {x : Int32} {o : Int} (hd : decode bytes pc = .ok (.ifCond .ge o, 3)) (pt : Nat) (ho : 0 ≤ (pc : Int) + o) (hp : ((pc : Int) + o).toNat = pt) (pc' : Nat) (hp' : pc + 3 = pc') (h1 : 0 ≤ x.toInt → OGo p e below Fn n0 Q (T.setTop (mkF m pt Ls St))) (h2 : x.toInt < 0 → OGo p e below Fn n0 Q (T.setTop (mkF m pc' Ls St))) : OGo p e below Fn n0 Q (T.setTop (mkF m pc Ls (.int x :: St))) :=
  (Classical.em (0 ≤ x.toInt)).elim (fun q => o_if_ge_t X K hd pt ho hp q (h1 q)) (fun q => o_if_ge_f X K hd pc' hp' (Int.not_le.mp q) (h2 (Int.not_le.mp q)))
theorem o_icmp_gt_t (X : Stand p l e R s m args below meth c T locs cells slots) (K : OCx p s m meth c Z own nm bytes maxL ret) {x y : Int32} {o : Int} (hd : decode bytes pc = .ok (.if_icmp .gt o, 3)) (pt : Nat) (ho : 0 ≤ (pc : Int) + o) (hp : ((pc : Int) + o).toNat = pt) (q : y.toInt < x.toInt) (hr : OGo p e below Fn n0 Q (T.setTop (mkF m pt Ls St))) : OGo p e below Fn n0 Q (T.setTop (mkF m pc Ls (.int y :: .int x :: St))) :=
  OGo.st (fun _ k => XS.icmpYes X.here K.hx rfl (pc0 := pc) rfl (hb K.hby hd) rfl ((tlt (Int32.lt_iff_toInt_lt.mpr q)).2.2.1) ho hp k) hr
theorem o_icmp_gt_f (X : Stand p l e R s m args below meth c T locs cells slots) (K : OCx p s m meth c Z own nm bytes maxL ret) {x y : Int32} {o : Int} (hd : decode bytes pc = .ok (.if_icmp .gt o, 3)) (pc' : Nat) (hp : pc + 3 = pc') (q : x.toInt ≤ y.toInt) (hr : OGo p e below Fn n0 Q (T.setTop (mkF m pc' Ls St))) : OGo p e below Fn n0 Q (T.setTop (mkF m pc Ls (.int y :: .int x :: St))) := by
  subst hp
  exact OGo.st (fun _ k => XS.icmpNo X.here K.hx rfl (hb K.hby hd) rfl ((flt (fun r => Int.not_lt.mpr q (Int32.lt_iff_toInt_lt.mp r))).2.2.1) k) hr
theorem o_icmp_gt (X : Stand p l e R s m args below meth c T locs cells slots) (K : OCx p s m meth c Z own nm bytes maxL ret) {x y : Int32} {o : Int} (hd : decode bytes pc = .ok (.if_icmp .gt o, 3)) (pt : Nat) (ho : 0 ≤ (pc : Int) + o) (hp : ((pc : Int) + o).toNat = pt) (pc' : Nat) (hp' : pc + 3 = pc') (h1 : y.toInt < x.toInt → OGo p e below Fn n0 Q (T.setTop (mkF m pt Ls St))) (h2 : x.toInt ≤ y.toInt → OGo p e below Fn n0 Q (T.setTop (mkF m pc' Ls St))) : OGo p e below Fn n0 Q (T.setTop (mkF m pc Ls (.int y :: .int x :: St))) :=
  (Classical.em (y.toInt < x.toInt)).elim (fun q => o_icmp_gt_t X K hd pt ho hp q (h1 q)) (fun q => o_icmp_gt_f X K hd pc' hp' (Int.not_lt.mp q) (h2 (Int.not_lt.mp q)))
theorem o_if_gt_t (X : Stand p l e R s m args below meth c T locs cells slots) (K : OCx p s m meth c Z own nm bytes maxL ret) {x : Int32} {o : Int} (hd : decode bytes pc = .ok (.ifCond .gt o, 3)) (pt : Nat) (ho : 0 ≤ (pc : Int) + o) (hp : ((pc : Int) + o).toNat = pt) (q : 0 < x.toInt) (hr : OGo p e below Fn n0 Q (T.setTop (mkF m pt Ls St))) : OGo p e below Fn n0 Q (T.setTop (mkF m pc Ls (.int x :: St))) :=
  OGo.st (fun _ k => XS.ifYes X.here K.hx rfl (pc0 := pc) rfl (hb K.hby hd) rfl ((if0 _ _).trans (tlt (Int32.lt_iff_toInt_lt.mpr (show (0 : Int32).toInt < x.toInt from q))).2.2.1) ho hp k) hr
theorem o_if_gt_f (X : Stand p l e R s m args below meth c T locs cells slots) (K : OCx p s m meth c Z own nm bytes maxL ret) {x : Int32} {o : Int} (hd : decode bytes pc = .ok (.ifCond .gt o, 3)) (pc' : Nat) (hp : pc + 3 = pc') (q : x.toInt ≤ 0) (hr : OGo p e below Fn n0 Q (T.setTop (mkF m pc' Ls St))) : OGo p e below Fn n0 Q (T.setTop (mkF m pc Ls (.int x :: St))) := by
  subst hp
  exact OGo.st (fun _ k => XS.ifNo X.here K.hx rfl (hb K.hby hd) rfl ((if0 _ _).trans (flt (fun r => Int.not_lt.mpr (show x.toInt ≤ (0 : Int32).toInt from q) (Int32.lt_iff_toInt_lt.mp r))).2.2.1) k) hr
theorem o_if_gt (X : Stand p l e R s m args below meth c T locs cells slots) (K : OCx p s m meth c Z own nm bytes maxL ret) {x : Int32} {o : Int} (hd : decode bytes pc = .ok (.ifCond .gt o, 3)) (pt : Nat) (ho : 0 ≤ (pc : Int) + o) (hp : ((pc : Int) + o).toNat = pt) (pc' : Nat) (hp' : pc + 3 = pc') (h1 : 0 < x.toInt → OGo p e below Fn n0 Q (T.setTop (mkF m pt Ls St))) (h2 : x.toInt ≤ 0 → OGo p e below Fn n0 Q (T.setTop (mkF m pc' Ls St))) : OGo p e below Fn n0 Q (T.setTop (mkF m pc Ls (.int x :: St))) :=
  (Classical.em (0 < x.toInt)).elim (fun q => o_if_gt_t X K hd pt ho hp q (h1 q)) (fun q => o_if_gt_f X K hd pc' hp' (Int.not_lt.mp q) (h2 (Int.not_lt.mp q)))
theorem o_icmp_le_t (X : Stand p l e R s m args below meth c T locs cells slots) (K : OCx p s m meth c Z own nm bytes maxL ret) {x y : Int32} {o : Int} (hd : decode bytes pc = .ok (.if_icmp .le o, 3)) (pt : Nat) (ho : 0 ≤ (pc : Int) + o) (hp : ((pc : Int) + o).toNat = pt) (q : x.toInt ≤ y.toInt) (hr : OGo p e below Fn n0 Q (T.setTop (mkF m pt Ls St))) : OGo p e below Fn n0 Q (T.setTop (mkF m pc Ls (.int y :: .int x :: St))) :=
  OGo.st (fun _ k => XS.icmpYes X.here K.hx rfl (pc0 := pc) rfl (hb K.hby hd) rfl ((flt (fun r => Int.not_lt.mpr q (Int32.lt_iff_toInt_lt.mp r))).2.2.2) ho hp k) hr
theorem o_icmp_le_f (X : Stand p l e R s m args below meth c T locs cells slots) (K : OCx p s m meth c Z own nm bytes maxL ret) {x y : Int32} {o : Int} (hd : decode bytes pc = .ok (.if_icmp .le o, 3)) (pc' : Nat) (hp : pc + 3 = pc') (q : y.toInt < x.toInt) (hr : OGo p e below Fn n0 Q (T.setTop (mkF m pc' Ls St))) : OGo p e below Fn n0 Q (T.setTop (mkF m pc Ls (.int y :: .int x :: St))) := by
  subst hp
  exact OGo.st (fun _ k => XS.icmpNo X.here K.hx rfl (hb K.hby hd) rfl ((tlt (Int32.lt_iff_toInt_lt.mpr q)).2.2.2) k) hr
theorem o_icmp_le (X : Stand p l e R s m args below meth c T locs cells slots) (K : OCx p s m meth c Z own nm bytes maxL ret) {x y : Int32} {o : Int} (hd : decode bytes pc = .ok (.if_icmp .le o, 3)) (pt : Nat) (ho : 0 ≤ (pc : Int) + o) (hp : ((pc : Int) + o).toNat = pt) (pc' : Nat) (hp' : pc + 3 = pc') (h1 : x.toInt ≤ y.toInt → OGo p e below Fn n0 Q (T.setTop (mkF m pt Ls St))) (h2 : y.toInt < x.toInt → OGo p e below Fn n0 Q (T.setTop (mkF m pc' Ls St))) : OGo p e below Fn n0 Q (T.setTop (mkF m pc Ls (.int y :: .int x :: St))) :=
  (Classical.em (x.toInt ≤ y.toInt)).elim (fun q => o_icmp_le_t X K hd pt ho hp q (h1 q)) (fun q => o_icmp_le_f X K hd pc' hp' (Int.not_le.mp q) (h2 (Int.not_le.mp q)))
theorem o_if_le_t (X : Stand p l e R s m args below meth c T locs cells slots) (K : OCx p s m meth c Z own nm bytes maxL ret) {x : Int32} {o : Int} (hd : decode bytes pc = .ok (.ifCond .le o, 3)) (pt : Nat) (ho : 0 ≤ (pc : Int) + o) (hp : ((pc : Int) + o).toNat = pt) (q : x.toInt ≤ 0) (hr : OGo p e below Fn n0 Q (T.setTop (mkF m pt Ls St))) : OGo p e below Fn n0 Q (T.setTop (mkF m pc Ls (.int x :: St))) :=
  OGo.st (fun _ k => XS.ifYes X.here K.hx rfl (pc0 := pc) rfl (hb K.hby hd) rfl ((if0 _ _).trans (flt (fun r => Int.not_lt.mpr (show x.toInt ≤ (0 : Int32).toInt from q) (Int32.lt_iff_toInt_lt.mp r))).2.2.2) ho hp k) hr
theorem o_if_le_f (X : Stand p l e R s m args below meth c T locs cells slots) (K : OCx p s m meth c Z own nm bytes maxL ret) {x : Int32} {o : Int} (hd : decode bytes pc = .ok (.ifCond .le o, 3)) (pc' : Nat) (hp : pc + 3 = pc') (q : 0 < x.toInt) (hr : OGo p e below Fn n0 Q (T.setTop (mkF m pc' Ls St))) : OGo p e below Fn n0 Q (T.setTop (mkF m pc Ls (.int x :: St))) := by
  subst hp
  exact OGo.st (fun _ k => XS.ifNo X.here K.hx rfl (hb K.hby hd) rfl ((if0 _ _).trans (tlt (Int32.lt_iff_toInt_lt.mpr (show (0 : Int32).toInt < x.toInt from q))).2.2.2) k) hr
theorem o_if_le (X : Stand p l e R s m args below meth c T locs cells slots) (K : OCx p s m meth c Z own nm bytes maxL ret) {x : Int32} {o : Int} (hd : decode bytes pc = .ok (.ifCond .le o, 3)) (pt : Nat) (ho : 0 ≤ (pc : Int) + o) (hp : ((pc : Int) + o).toNat = pt) (pc' : Nat) (hp' : pc + 3 = pc') (h1 : x.toInt ≤ 0 → OGo p e below Fn n0 Q (T.setTop (mkF m pt Ls St))) (h2 : 0 < x.toInt → OGo p e below Fn n0 Q (T.setTop (mkF m pc' Ls St))) : OGo p e below Fn n0 Q (T.setTop (mkF m pc Ls (.int x :: St))) :=
  (Classical.em (x.toInt ≤ 0)).elim (fun q => o_if_le_t X K hd pt ho hp q (h1 q)) (fun q => o_if_le_f X K hd pc' hp' (Int.not_le.mp q) (h2 (Int.not_le.mp q)))
theorem o_icmp_eq_t (X : Stand p l e R s m args below meth c T locs cells slots) (K : OCx p s m meth c Z own nm bytes maxL ret) {x y : Int32} {o : Int} (hd : decode bytes pc = .ok (.if_icmp .eq o, 3)) (pt : Nat) (ho : 0 ≤ (pc : Int) + o) (hp : ((pc : Int) + o).toNat = pt) (q : x = y) (hr : OGo p e below Fn n0 Q (T.setTop (mkF m pt Ls St))) : OGo p e below Fn n0 Q (T.setTop (mkF m pc Ls (.int y :: .int x :: St))) :=
  OGo.st (fun _ k => XS.icmpYes X.here K.hx rfl (pc0 := pc) rfl (hb K.hby hd) rfl ((teq q).1) ho hp k) hr
theorem o_icmp_eq_f (X : Stand p l e R s m args below meth c T locs cells slots) (K : OCx p s m meth c Z own nm bytes maxL ret) {x y : Int32} {o : Int} (hd : decode bytes pc = .ok (.if_icmp .eq o, 3)) (pc' : Nat) (hp : pc + 3 = pc') (q : ¬ x = y) (hr : OGo p e below Fn n0 Q (T.setTop (mkF m pc' Ls St))) : OGo p e below Fn n0 Q (T.setTop (mkF m pc Ls (.int y :: .int x :: St))) := by
  subst hp
  exact OGo.st (fun _ k => XS.icmpNo X.here K.hx rfl (hb K.hby hd) rfl ((feq q).1) k) hr
theorem o_icmp_eq (X : Stand p l e R s m args below meth c T locs cells slots) (K : OCx p s m meth c Z own nm bytes maxL ret) {x y : Int32} {o : Int} (hd : decode bytes pc = .ok (.if_icmp .eq o, 3)) (pt : Nat) (ho : 0 ≤ (pc : Int) + o) (hp : ((pc : Int) + o).toNat = pt) (pc' : Nat) (hp' : pc + 3 = pc') (h1 : x = y → OGo p e below Fn n0 Q (T.setTop (mkF m pt Ls St))) (h2 : ¬ x = y → OGo p e below Fn n0 Q (T.setTop (mkF m pc' Ls St))) : OGo p e below Fn n0 Q (T.setTop (mkF m pc Ls (.int y :: .int x :: St))) :=
  (Classical.em (x = y)).elim (fun q => o_icmp_eq_t X K hd pt ho hp q (h1 q)) (fun q => o_icmp_eq_f X K hd pc' hp' (id q) (h2 (id q)))
theorem o_if_eq_t (X : Stand p l e R s m args below meth c T locs cells slots) (K : OCx p s m meth c Z own nm bytes maxL ret) {x : Int32} {o : Int} (hd : decode bytes pc = .ok (.ifCond .eq o, 3)) (pt : Nat) (ho : 0 ≤ (pc : Int) + o) (hp : ((pc : Int) + o).toNat = pt) (q : x = 0) (hr : OGo p e below Fn n0 Q (T.setTop (mkF m pt Ls St))) : OGo p e below Fn n0 Q (T.setTop (mkF m pc Ls (.int x :: St))) :=
  OGo.st (fun _ k => XS.ifYes X.here K.hx rfl (pc0 := pc) rfl (hb K.hby hd) rfl ((if0 _ _).trans (teq (show x = (0 : Int32) from q)).1) ho hp k) hr
theorem o_if_eq_f (X : Stand p l e R s m args below meth c T locs cells slots) (K : OCx p s m meth c Z own nm bytes maxL ret) {x : Int32} {o : Int} (hd : decode bytes pc = .ok (.ifCond .eq o, 3)) (pc' : Nat) (hp : pc + 3 = pc') (q : ¬ x = 0) (hr : OGo p e below Fn n0 Q (T.setTop (mkF m pc' Ls St))) : OGo p e below Fn n0 Q (T.setTop (mkF m pc Ls (.int x :: St))) := by
  subst hp
  exact OGo.st (fun _ k => XS.ifNo X.here K.hx rfl (hb K.hby hd) rfl ((if0 _ _).trans (feq (show ¬ x = (0 : Int32) from q)).1) k) hr
theorem o_if_eq (X : Stand p l e R s m args below meth c T locs cells slots) (K : OCx p s m meth c Z own nm bytes maxL ret) {x : Int32} {o : Int} (hd : decode bytes pc = .ok (.ifCond .eq o, 3)) (pt : Nat) (ho : 0 ≤ (pc : Int) + o) (hp : ((pc : Int) + o).toNat = pt) (pc' : Nat) (hp' : pc + 3 = pc') (h1 : x = 0 → OGo p e below Fn n0 Q (T.setTop (mkF m pt Ls St))) (h2 : ¬ x = 0 → OGo p e below Fn n0 Q (T.setTop (mkF m pc' Ls St))) : OGo p e below Fn n0 Q (T.setTop (mkF m pc Ls (.int x :: St))) :=
  (Classical.em (x = 0)).elim (fun q => o_if_eq_t X K hd pt ho hp q (h1 q)) (fun q => o_if_eq_f X K hd pc' hp' (id q) (h2 (id q)))
theorem o_icmp_ne_t (X : Stand p l e R s m args below meth c T locs cells slots) (K : OCx p s m meth c Z own nm bytes maxL ret) {x y : Int32} {o : Int} (hd : decode bytes pc = .ok (.if_icmp .ne o, 3)) (pt : Nat) (ho : 0 ≤ (pc : Int) + o) (hp : ((pc : Int) + o).toNat = pt) (q : ¬ x = y) (hr : OGo p e below Fn n0 Q (T.setTop (mkF m pt Ls St))) : OGo p e below Fn n0 Q (T.setTop (mkF m pc Ls (.int y :: .int x :: St))) :=
  OGo.st (fun _ k => XS.icmpYes X.here K.hx rfl (pc0 := pc) rfl (hb K.hby hd) rfl ((feq q).2) ho hp k) hr
theorem o_icmp_ne_f (X : Stand p l e R s m args below meth c T locs cells slots) (K : OCx p s m meth c Z own nm bytes maxL ret) {x y : Int32} {o : Int} (hd : decode bytes pc = .ok (.if_icmp .ne o, 3)) (pc' : Nat) (hp : pc + 3 = pc') (q : x = y) (hr : OGo p e below Fn n0 Q (T.setTop (mkF m pc' Ls St))) : OGo p e below Fn n0 Q (T.setTop (mkF m pc Ls (.int y :: .int x :: St))) := by
  subst hp
  exact OGo.st (fun _ k => XS.icmpNo X.here K.hx rfl (hb K.hby hd) rfl ((teq q).2) k) hr
theorem o_icmp_ne (X : Stand p l e R s m args below meth c T locs cells slots) (K : OCx p s m meth c Z own nm bytes maxL ret) {x y : Int32} {o : Int} (hd : decode bytes pc = .ok (.if_icmp .ne o, 3)) (pt : Nat) (ho : 0 ≤ (pc : Int) + o) (hp : ((pc : Int) + o).toNat = pt) (pc' : Nat) (hp' : pc + 3 = pc') (h1 : ¬ x = y → OGo p e below Fn n0 Q (T.setTop (mkF m pt Ls St))) (h2 : x = y → OGo p e below Fn n0 Q (T.setTop (mkF m pc' Ls St))) : OGo p e below Fn n0 Q (T.setTop (mkF m pc Ls (.int y :: .int x :: St))) :=
  (Classical.em (¬ x = y)).elim (fun q => o_icmp_ne_t X K hd pt ho hp q (h1 q)) (fun q => o_icmp_ne_f X K hd pc' hp' (Classical.not_not.mp q) (h2 (Classical.not_not.mp q)))
theorem o_if_ne_t (X : Stand p l e R s m args below meth c T locs cells slots) (K : OCx p s m meth c Z own nm bytes maxL ret) {x : Int32} {o : Int} (hd : decode bytes pc = .ok (.ifCond .ne o, 3)) (pt : Nat) (ho : 0 ≤ (pc : Int) + o) (hp : ((pc : Int) + o).toNat = pt) (q : ¬ x = 0) (hr : OGo p e below Fn n0 Q (T.setTop (mkF m pt Ls St))) : OGo p e below Fn n0 Q (T.setTop (mkF m pc Ls (.int x :: St))) :=
  OGo.st (fun _ k => XS.ifYes X.here K.hx rfl (pc0 := pc) rfl (hb K.hby hd) rfl ((if0 _ _).trans (feq (show ¬ x = (0 : Int32) from q)).2) ho hp k) hr
theorem o_if_ne_f (X : Stand p l e R s m args below meth c T locs cells slots) (K : OCx p s m meth c Z own nm bytes maxL ret) {x : Int32} {o : Int} (hd : decode bytes pc = .ok (.ifCond .ne o, 3)) (pc' : Nat) (hp : pc + 3 = pc') (q : x = 0) (hr : OGo p e below Fn n0 Q (T.setTop (mkF m pc' Ls St))) : OGo p e below Fn n0 Q (T.setTop (mkF m pc Ls (.int x :: St))) := by
  subst hp
  exact OGo.st (fun _ k => XS.ifNo X.here K.hx rfl (hb K.hby hd) rfl ((if0 _ _).trans (teq (show x = (0 : Int32) from q)).2) k) hr
theorem o_if_ne (X : Stand p l e R s m args below meth c T locs cells slots) (K : OCx p s m meth c Z own nm bytes maxL ret) {x : Int32} {o : Int} (hd : decode bytes pc = .ok (.ifCond .ne o, 3)) (pt : Nat) (ho : 0 ≤ (pc : Int) + o) (hp : ((pc : Int) + o).toNat = pt) (pc' : Nat) (hp' : pc + 3 = pc') (h1 : ¬ x = 0 → OGo p e below Fn n0 Q (T.setTop (mkF m pt Ls St))) (h2 : x = 0 → OGo p e below Fn n0 Q (T.setTop (mkF m pc' Ls St))) : OGo p e below Fn n0 Q (T.setTop (mkF m pc Ls (.int x :: St))) :=
  (Classical.em (¬ x = 0)).elim (fun q => o_if_ne_t X K hd pt ho hp q (h1 q)) (fun q => o_if_ne_f X K hd pc' hp' (Classical.not_not.mp q) (h2 (Classical.not_not.mp q)))
theorem o_lw_lt {x y : Int64} : (lcmpW x y).toInt < 0 ↔ x.toInt < y.toInt := by
  have q := lw_lt x y
  rw [Int32.lt_iff_toInt_lt, Int64.lt_iff_toInt_lt] at q
  exact q
theorem o_lw_gt {x y : Int64} : 0 < (lcmpW x y).toInt ↔ y.toInt < x.toInt := by
  have q := lw_gt x y
  rw [Int32.lt_iff_toInt_lt, Int64.lt_iff_toInt_lt] at q
  exact q
theorem o_lw_le {x y : Int64} : (lcmpW x y).toInt ≤ 0 ↔ x.toInt ≤ y.toInt := by
  have q := @o_lw_gt x y
  omega
theorem o_lw_ge {x y : Int64} : 0 ≤ (lcmpW x y).toInt ↔ y.toInt ≤ x.toInt := by
  have q := @o_lw_lt x y
  omega
theorem o_lw_eq {x y : Int64} : lcmpW x y = 0 ↔ x = y := lw_eq x y
theorem o_ifnull_t (X : Stand p l e R s m args below meth c T locs cells slots) (K : OCx p s m meth c Z own nm bytes maxL ret) {o : Int} (hd : decode bytes pc = .ok (.ifnull o, 3)) (pt : Nat) (ho : 0 ≤ (pc : Int) + o) (hp : ((pc : Int) + o).toNat = pt) (hr : OGo p e below Fn n0 Q (T.setTop (mkF m pt Ls St))) : OGo p e below Fn n0 Q (T.setTop (mkF m pc Ls (.null :: St))) :=
  OGo.st (fun _ k => XS.ifnullYes X.here K.hx rfl (pc0 := pc) rfl (hb K.hby hd) rfl ho hp k) hr
theorem o_ifnull_f (X : Stand p l e R s m args below meth c T locs cells slots) (K : OCx p s m meth c Z own nm bytes maxL ret) {o : Int} {b : Addr} (hd : decode bytes pc = .ok (.ifnull o, 3)) (pc' : Nat) (hp : pc + 3 = pc') (hr : OGo p e below Fn n0 Q (T.setTop (mkF m pc' Ls St))) : OGo p e below Fn n0 Q (T.setTop (mkF m pc Ls (.ref b :: St))) := by
  subst hp
  exact OGo.st (fun _ k => XS.ifnullNo X.here K.hx rfl (hb K.hby hd) rfl k) hr
theorem o_ifnonnull_t (X : Stand p l e R s m args below meth c T locs cells slots) (K : OCx p s m meth c Z own nm bytes maxL ret) {o : Int} {b : Addr} (hd : decode bytes pc = .ok (.ifnonnull o, 3)) (pt : Nat) (ho : 0 ≤ (pc : Int) + o) (hp : ((pc : Int) + o).toNat = pt) (hr : OGo p e below Fn n0 Q (T.setTop (mkF m pt Ls St))) : OGo p e below Fn n0 Q (T.setTop (mkF m pc Ls (.ref b :: St))) :=
  OGo.st (fun _ k => XS.ifnonnullYes X.here K.hx rfl (pc0 := pc) rfl (hb K.hby hd) rfl ho hp k) hr
theorem o_ifnonnull_f (X : Stand p l e R s m args below meth c T locs cells slots) (K : OCx p s m meth c Z own nm bytes maxL ret) {o : Int} (hd : decode bytes pc = .ok (.ifnonnull o, 3)) (pc' : Nat) (hp : pc + 3 = pc') (hr : OGo p e below Fn n0 Q (T.setTop (mkF m pc' Ls St))) : OGo p e below Fn n0 Q (T.setTop (mkF m pc Ls (.null :: St))) := by
  subst hp
  exact OGo.st (fun _ k => XS.ifnonnullNo X.here K.hx rfl (hb K.hby hd) rfl k) hr
theorem o_acmp (X : Stand p l e R s m args below meth c T locs cells slots) (K : OCx p s m meth c Z own nm bytes maxL ret) {cd : ACond} {x y : Value} {o : Int} (hd : decode bytes pc = .ok (.if_acmp cd o, 3)) (pc' : Nat) (h1 : x.isRef = true) (h2 : y.isRef = true) (same : Bool) (hq : decide (x = y) = same) (ho : 0 ≤ (pc : Int) + o) (hp : pc' = if acV cd same = true then ((pc : Int) + o).toNat else pc + 3) (hr : OGo p e below Fn n0 Q (T.setTop (mkF m pc' Ls St))) : OGo p e below Fn n0 Q (T.setTop (mkF m pc Ls (y :: x :: St))) :=
  OGo.st (fun _ k => Jvm.RoadKit.acmp (g := mkF m pc Ls (y :: x :: St)) X K.hx rfl h1 h2 (pc0 := pc) rfl (hb K.hby hd) rfl hq ho hp k) hr
theorem o_leave (X : Stand p l e R s m args below meth c T locs cells slots) (hlk : meth.locks = false) {v : Option Value} (hv : meth.sig.returnType = none → v = none) {S : State} (hc : cells ≤ kc) (hs : slots ≤ ks) (N : Fr n0 locs) (hQ : Q v T.heap)
    (k : ∀ fs, (∀ (f : JFrame) (acts : List Action), f.method = m → f.locked = none → f.entered = [] → (doReturn e (T.setTop f) acts v).1 = T.setFrames fs) → Steps p.tables e below S (T.setFrames fs)) : OGo p e below (OFin s kc ks) n0 Q S := by
  obtain ⟨fs, hr, hrun, hended, hW, hsame⟩ := X.leave (v := v) hv
  exact ⟨_, _, k fs hr, hrun, hended, v, locs, rfl, ⟨hQ, N⟩, ⟨v, rfl⟩, hW, hsame.mono hc hs⟩
theorem o_ireturn (X : Stand p l e R s m args below meth c T locs cells slots) (K : OCx p s m meth c Z own nm bytes maxL (some .int)) {z : Int32} (hd : decode bytes pc = .ok (.ireturn, 1)) (hc : cells ≤ kc) (hs : slots ≤ ks) (N : Fr n0 locs) (hQ : Q (some (.int z)) T.heap) : OGo p e below (OFin s kc ks) n0 Q (T.setTop (mkF m pc Ls (.int z :: St))) :=
  o_leave X K.hlk (fun h => by rw [K.hret] at h; cases h) hc hs N hQ (fun fs hr => retI X K.hx K.hret (hb K.hby hd) hr)
theorem o_ireturnN {t : FieldType} (X : Stand p l e R s m args below meth c T locs cells slots) (K : OCx p s m meth c Z own nm bytes maxL (some t)) (ht : t = .boolean ∨ t = .byte ∨ t = .char ∨ t = .short) {z : Int32} (hd : decode bytes pc = .ok (.ireturn, 1)) (hc : cells ≤ kc) (hs : slots ≤ ks) (N : Fr n0 locs) (hQ : Q (some (.int (nar t z))) T.heap) : OGo p e below (OFin s kc ks) n0 Q (T.setTop (mkF m pc Ls (.int z :: St))) :=
  o_leave X K.hlk (fun h => by rw [K.hret] at h; cases h) hc hs N hQ (fun fs hr => retN X K.hx K.hret ht (hb K.hby hd) hr)
theorem o_lreturn (X : Stand p l e R s m args below meth c T locs cells slots) (K : OCx p s m meth c Z own nm bytes maxL (some .long)) {z : Int64} (hd : decode bytes pc = .ok (.lreturn, 1)) (hc : cells ≤ kc) (hs : slots ≤ ks) (N : Fr n0 locs) (hQ : Q (some (.long z)) T.heap) : OGo p e below (OFin s kc ks) n0 Q (T.setTop (mkF m pc Ls (.long z :: St))) :=
  o_leave X K.hlk (fun h => by rw [K.hret] at h; cases h) hc hs N hQ (fun fs hr => retOut X K.hx K.hret rfl (Or.inr (Or.inl ⟨rfl, rfl, z, rfl⟩)) (hb K.hby hd) hr)
theorem o_areturn {t : FieldType} (X : Stand p l e R s m args below meth c T locs cells slots) (K : OCx p s m meth c Z own nm bytes maxL (some t)) (ht : t.isReference = true) {z : Value} (hn : narrow t z = z) (hz : z.isRef = true) (hd : decode bytes pc = .ok (.areturn, 1)) (hc : cells ≤ kc) (hs : slots ≤ ks) (N : Fr n0 locs) (hQ : Q (some z) T.heap) : OGo p e below (OFin s kc ks) n0 Q (T.setTop (mkF m pc Ls (z :: St))) :=
  o_leave X K.hlk (fun h => by rw [K.hret] at h; cases h) hc hs N hQ (fun fs hr => retOut X K.hx K.hret hn (Or.inr (Or.inr (Or.inr (Or.inr ⟨rfl, ht, hz⟩)))) (hb K.hby hd) hr)
theorem o_return (X : Stand p l e R s m args below meth c T locs cells slots) (K : OCx p s m meth c Z own nm bytes maxL none) (hd : decode bytes pc = .ok (.return_, 1)) (hc : cells ≤ kc) (hs : slots ≤ ks) (N : Fr n0 locs) (hQ : Q none T.heap) : OGo p e below (OFin s kc ks) n0 Q (T.setTop (mkF m pc Ls [])) :=
  o_leave X K.hlk (fun _ => rfl) hc hs N hQ (fun fs hr => X.returnOut K.hx K.hret (hb K.hby hd) hr)
/-- an array: its kind, its length, what each place holds -/
def OAr (Z : State) (h : Heap) (a : Addr) (ty : FieldType) (n : Nat) (f : Nat → Value) : Prop := ∃ c : Cell, Arr Z h a c ty ∧ c.slots.size = n ∧ n < 2147483648 ∧ (∀ j, j < n → c.slots[j]? = some (f j)) ∧ ∀ j, j < n → fits ty (f j) = true
theorem OAr.lt {a : Addr} {ty : FieldType} {n : Nat} {f : Nat → Value} (A : OAr Z h a ty n f) : a < h.size := by obtain ⟨c, A, -⟩ := A; exact A.lt
theorem OAr.len {a : Addr} {ty : FieldType} {n : Nat} {f : Nat → Value} (A : OAr Z h a ty n f) : n < 2147483648 := by obtain ⟨c, -, -, A, -⟩ := A; exact A
theorem OAr.fit {a : Addr} {ty : FieldType} {n : Nat} {f : Nat → Value} (A : OAr Z h a ty n f) {j : Nat} (hj : j < n) : fits ty (f j) = true := by obtain ⟨c, -, -, -, -, A⟩ := A; exact A j hj
theorem OAr.ext {a : Addr} {ty : FieldType} {n : Nat} {f : Nat → Value} (A : OAr Z h a ty n f) (E : Ext h h') : OAr Z h' a ty n f := by obtain ⟨c, A, r⟩ := A; exact ⟨c, A.ext E, r⟩
theorem OAr.other {a b : Addr} {ty : FieldType} {n sl : Nat} {f : Nat → Value} {v : Value} (A : OAr Z h b ty n f) (W : Wr h h' a sl v) (q : b ≠ a) : OAr Z h' b ty n f := by obtain ⟨c, A, r⟩ := A; exact ⟨c, A.other W q, r⟩
theorem OAr.keep {a : Addr} {ty : FieldType} {n : Nat} {f : Nat → Value} {ws : List Addr} (A : OAr Z h a ty n f) (E : Keep h h' ws) (q : a ∉ ws) : OAr Z h' a ty n f := by obtain ⟨c, A, r⟩ := A; exact ⟨c, ⟨E.2.1 _ _ A.1 q, A.2⟩, r⟩
theorem OAr.congr {a : Addr} {ty : FieldType} {n : Nat} {f g : Nat → Value} (A : OAr Z h a ty n f) (q : ∀ j, j < n → f j = g j) : OAr Z h a ty n g := by
  obtain ⟨c, A, r1, r2, r3, r4⟩ := A
  exact ⟨c, A, r1, r2, fun j hj => by rw [← q j hj]; exact r3 j hj, fun j hj => by rw [← q j hj]; exact r4 j hj⟩
theorem OAr.same {a : Addr} {ty : FieldType} {n i : Nat} {f : Nat → Value} {v : Value} (A : OAr Z h a ty n f) (W : Wr h h' a i v) (hv : fits ty v = true) : OAr Z h' a ty n (fun q => if q = i then v else f q) := by
  obtain ⟨c, A, r1, r2, r3, r4⟩ := A
  refine ⟨_, A.same W, by rw [sz_set]; exact r1, r2, fun j hj => ?_, fun j hj => ?_⟩
  · by_cases e : j = i
    · subst e; simp [Cell.setSlot, r1, hj]
    · have e' : ¬ i = j := fun z => e z.symm
      simp [Cell.setSlot, e, e', r3 j hj]
  · by_cases e : j = i
    · simp [e, hv]
    · simp [e, r4 j hj]
theorem o_idx {j : Int32} {i n : Nat} {c : Cell} (hj : j.toInt = (i : Int)) (hi : i < n) (r1 : c.slots.size = n) : ¬ (j < 0 ∨ c.slots.size ≤ j.toNatClampNeg) ∧ j.toNatClampNeg = i := by
  have e : j.toNatClampNeg = i := by rw [← Int32.toNat_toInt, hj]; rfl
  refine ⟨?_, e⟩
  rw [e, r1, Int32.lt_iff_toInt_lt, hj]
  intro q
  rcases q with q | q
  · have : (0 : Int32).toInt = 0 := rfl
    omega
  · omega
theorem o_len {n : Nat} (h : n < 2147483648) : (n.toInt32).toInt = n := by
  have := len_toInt (n := n) (by omega)
  exact this
theorem o_arraylength (X : Stand p l e R s m args below meth c T locs cells slots) (K : OCx p s m meth c Z own nm bytes maxL ret) {a : Addr} {ty : FieldType} {n : Nat} {f : Nat → Value} (hd : decode bytes pc = .ok (.arraylength, 1)) (pc' : Nat) (hp : pc + 1 = pc') (eT : T.heap = h) (A : OAr Z h a ty n f) {v : Int32} (hv : v.toInt = n) (hr : OGo p e below Fn n0 Q (T.setTop (mkF m pc' Ls (.int v :: St)))) : OGo p e below Fn n0 Q (T.setTop (mkF m pc Ls (.ref a :: St))) := by
  subst hp
  obtain ⟨cl, A, r1, r2, -⟩ := A
  have e1 : cl.slots.size.toInt32 = v := by rw [← Int32.toInt_inj, hv, r1]; exact o_len r2
  refine OGo.st (fun t k => ?_) hr
  refine X.arraylength K.hx (g := mkF m pc Ls (.ref a :: St)) (by rw [eT]; exact A.1) (State.isArrayOf_alike K.hZ.alike A.2.1) rfl rfl (hb K.hby hd) t ?_
  rw [e1]
  exact k
theorem o_iaload (X : Stand p l e R s m args below meth c T locs cells slots) (K : OCx p s m meth c Z own nm bytes maxL ret) {a : Addr} {n i : Nat} {f : Nat → Value} {j : Int32} {v : Value} (hd : decode bytes pc = .ok (.iaload, 1)) (pc' : Nat) (hp : pc + 1 = pc') (eT : T.heap = h) (A : OAr Z h a .int n f) (hj : j.toInt = (i : Int)) (hi : i < n) (hv : f i = v) (hr : OGo p e below Fn n0 Q (T.setTop (mkF m pc' Ls (v :: St)))) : OGo p e below Fn n0 Q (T.setTop (mkF m pc Ls (.int j :: .ref a :: St))) := by
  subst hp
  obtain ⟨cl, A, r1, r2, r3, -⟩ := A
  obtain ⟨q1, q2⟩ := o_idx (c := cl) hj hi r1
  exact OGo.st (fun t k => X.iaload K.hx (g := mkF m pc Ls (.int j :: .ref a :: St)) (by rw [eT]; exact A.1) (State.isArrayOf_alike K.hZ.alike A.2.1) A.2.2 q1 (by rw [q2, r3 i hi, hv]) rfl rfl (hb K.hby hd) t k) hr
theorem o_laload (X : Stand p l e R s m args below meth c T locs cells slots) (K : OCx p s m meth c Z own nm bytes maxL ret) {a : Addr} {n i : Nat} {f : Nat → Value} {j : Int32} {v : Value} (hd : decode bytes pc = .ok (.laload, 1)) (pc' : Nat) (hp : pc + 1 = pc') (eT : T.heap = h) (A : OAr Z h a .long n f) (hj : j.toInt = (i : Int)) (hi : i < n) (hv : f i = v) (hr : OGo p e below Fn n0 Q (T.setTop (mkF m pc' Ls (v :: St)))) : OGo p e below Fn n0 Q (T.setTop (mkF m pc Ls (.int j :: .ref a :: St))) := by
  subst hp
  obtain ⟨cl, A, r1, r2, r3, -⟩ := A
  obtain ⟨q1, q2⟩ := o_idx (c := cl) hj hi r1
  exact OGo.st (fun t k => X.laload K.hx (g := mkF m pc Ls (.int j :: .ref a :: St)) (by rw [eT]; exact A.1) (State.isArrayOf_alike K.hZ.alike A.2.1) A.2.2 q1 (by rw [q2, r3 i hi, hv]) rfl rfl (hb K.hby hd) t k) hr
theorem o_caload (X : Stand p l e R s m args below meth c T locs cells slots) (K : OCx p s m meth c Z own nm bytes maxL ret) {a : Addr} {n i : Nat} {f : Nat → Value} {j : Int32} {v : Value} (hd : decode bytes pc = .ok (.caload, 1)) (pc' : Nat) (hp : pc + 1 = pc') (eT : T.heap = h) (A : OAr Z h a .char n f) (hj : j.toInt = (i : Int)) (hi : i < n) (hv : f i = v) (hr : OGo p e below Fn n0 Q (T.setTop (mkF m pc' Ls (v :: St)))) : OGo p e below Fn n0 Q (T.setTop (mkF m pc Ls (.int j :: .ref a :: St))) := by
  subst hp
  obtain ⟨cl, A, r1, r2, r3, -⟩ := A
  obtain ⟨q1, q2⟩ := o_idx (c := cl) hj hi r1
  exact OGo.st (fun t k => X.caload K.hx (g := mkF m pc Ls (.int j :: .ref a :: St)) (by rw [eT]; exact A.1) (State.isArrayOf_alike K.hZ.alike A.2.1) A.2.2 q1 (by rw [q2, r3 i hi, hv]) rfl rfl (hb K.hby hd) t k) hr
theorem o_saload (X : Stand p l e R s m args below meth c T locs cells slots) (K : OCx p s m meth c Z own nm bytes maxL ret) {a : Addr} {n i : Nat} {f : Nat → Value} {j : Int32} {v : Value} (hd : decode bytes pc = .ok (.saload, 1)) (pc' : Nat) (hp : pc + 1 = pc') (eT : T.heap = h) (A : OAr Z h a .short n f) (hj : j.toInt = (i : Int)) (hi : i < n) (hv : f i = v) (hr : OGo p e below Fn n0 Q (T.setTop (mkF m pc' Ls (v :: St)))) : OGo p e below Fn n0 Q (T.setTop (mkF m pc Ls (.int j :: .ref a :: St))) := by
  subst hp
  obtain ⟨cl, A, r1, r2, r3, -⟩ := A
  obtain ⟨q1, q2⟩ := o_idx (c := cl) hj hi r1
  exact OGo.st (fun t k => X.saload K.hx (g := mkF m pc Ls (.int j :: .ref a :: St)) (by rw [eT]; exact A.1) (State.isArrayOf_alike K.hZ.alike A.2.1) A.2.2 q1 (by rw [q2, r3 i hi, hv]) rfl rfl (hb K.hby hd) t k) hr
theorem o_baload (X : Stand p l e R s m args below meth c T locs cells slots) (K : OCx p s m meth c Z own nm bytes maxL ret) {a : Addr} {n i : Nat} {f : Nat → Value} {j : Int32} {v : Value} (hd : decode bytes pc = .ok (.baload, 1)) (pc' : Nat) (hp : pc + 1 = pc') (eT : T.heap = h) (A : OAr Z h a .byte n f) (hj : j.toInt = (i : Int)) (hi : i < n) (hv : f i = v) (hr : OGo p e below Fn n0 Q (T.setTop (mkF m pc' Ls (v :: St)))) : OGo p e below Fn n0 Q (T.setTop (mkF m pc Ls (.int j :: .ref a :: St))) := by
  subst hp
  obtain ⟨cl, A, r1, r2, r3, -⟩ := A
  obtain ⟨q1, q2⟩ := o_idx (c := cl) hj hi r1
  exact OGo.st (fun t k => X.baloadBytes K.hx (g := mkF m pc Ls (.int j :: .ref a :: St)) (by rw [eT]; exact A.1) (State.isArrayOf_alike K.hZ.alike A.2.1) A.2.2 q1 (by rw [q2, r3 i hi, hv]) rfl rfl (hb K.hby hd) t k) hr
theorem o_zaload (X : Stand p l e R s m args below meth c T locs cells slots) (K : OCx p s m meth c Z own nm bytes maxL ret) {a : Addr} {n i : Nat} {f : Nat → Value} {j : Int32} {v : Value} (hd : decode bytes pc = .ok (.baload, 1)) (pc' : Nat) (hp : pc + 1 = pc') (eT : T.heap = h) (A : OAr Z h a .boolean n f) (hj : j.toInt = (i : Int)) (hi : i < n) (hv : f i = v) (hr : OGo p e below Fn n0 Q (T.setTop (mkF m pc' Ls (v :: St)))) : OGo p e below Fn n0 Q (T.setTop (mkF m pc Ls (.int j :: .ref a :: St))) := by
  subst hp
  obtain ⟨cl, A, r1, r2, r3, -⟩ := A
  obtain ⟨q1, q2⟩ := o_idx (c := cl) hj hi r1
  exact OGo.st (fun t k => X.baloadBooleans K.hx (g := mkF m pc Ls (.int j :: .ref a :: St)) (by rw [eT]; exact A.1) (State.isArrayOf_alike K.hZ.alike A.2.1) A.2.2 q1 (by rw [q2, r3 i hi, hv]) rfl rfl (hb K.hby hd) t k) hr
theorem o_aaload (X : Stand p l e R s m args below meth c T locs cells slots) (K : OCx p s m meth c Z own nm bytes maxL ret) {a : Addr} {ty : FieldType} {n i : Nat} {f : Nat → Value} {j : Int32} {v : Value} (hd : decode bytes pc = .ok (.aaload, 1)) (pc' : Nat) (hp : pc + 1 = pc') (eT : T.heap = h) (A : OAr Z h a ty n f) (hty : ty.isReference = true) (hj : j.toInt = (i : Int)) (hi : i < n) (hv : f i = v) (hr : OGo p e below Fn n0 Q (T.setTop (mkF m pc' Ls (v :: St)))) : OGo p e below Fn n0 Q (T.setTop (mkF m pc Ls (.int j :: .ref a :: St))) := by
  subst hp
  obtain ⟨cl, A, r1, r2, r3, -⟩ := A
  obtain ⟨q1, q2⟩ := o_idx (c := cl) hj hi r1
  exact OGo.st (fun t k => X.aaload K.hx (g := mkF m pc Ls (.int j :: .ref a :: St)) (by rw [eT]; exact A.1) (State.isArrayOf_alike K.hZ.alike A.2.1) hty A.2.2 q1 (by rw [q2, r3 i hi, hv]) rfl rfl (hb K.hby hd) t k) hr
theorem o_bastore (X : Stand p l e R s m args below meth c T locs cells slots) (K : OCx p s m meth c Z own nm bytes maxL ret) {a : Addr} {n i : Nat} {f : Nat → Value} {j : Int32} {x x' : Int32} (hd : decode bytes pc = .ok (.bastore, 1)) (pc' : Nat) (hp : pc + 1 = pc') (eT : T.heap = h) (A : OAr Z h a .byte n f) (hj : j.toInt = (i : Int)) (hi : i < n) (hv : nar .byte x = x') (N : Fr n0 locs) (ge : n0 ≤ a)
    (hr : ∀ T' h' locs', Stand p l e R s m args below meth c T' locs' cells slots → T'.heap = h' → Wr h h' a i (.int x') → OAr Z h' a .byte n (fun q => if q = i then (.int x') else f q) → Fr n0 locs' → OGo p e below Fn n0 Q (T'.setTop (mkF m pc' Ls St))) : OGo p e below Fn n0 Q (T.setTop (mkF m pc Ls (.int x :: .int j :: .ref a :: St))) := by
  subst hp hv
  obtain ⟨cl, B, r1, r2, r3, -⟩ := id A
  obtain ⟨q1, q2⟩ := o_idx (c := cl) hj hi r1
  obtain ⟨T', h', X', e', W', st'⟩ := stB X K.hx K.hZ eT B q1 (g := mkF m pc Ls (.int x :: .int j :: .ref a :: St)) rfl rfl (hb K.hby hd)
  have N' := Fr.snoc X' N ge
  rw [q2] at W'
  exact OGo.st st' (hr T' h' _ X' e' W' (A.same W' (fits_nar_byte x)) N')
theorem o_castore (X : Stand p l e R s m args below meth c T locs cells slots) (K : OCx p s m meth c Z own nm bytes maxL ret) {a : Addr} {n i : Nat} {f : Nat → Value} {j : Int32} {x x' : Int32} (hd : decode bytes pc = .ok (.castore, 1)) (pc' : Nat) (hp : pc + 1 = pc') (eT : T.heap = h) (A : OAr Z h a .char n f) (hj : j.toInt = (i : Int)) (hi : i < n) (hv : nar .char x = x') (N : Fr n0 locs) (ge : n0 ≤ a)
    (hr : ∀ T' h' locs', Stand p l e R s m args below meth c T' locs' cells slots → T'.heap = h' → Wr h h' a i (.int x') → OAr Z h' a .char n (fun q => if q = i then (.int x') else f q) → Fr n0 locs' → OGo p e below Fn n0 Q (T'.setTop (mkF m pc' Ls St))) : OGo p e below Fn n0 Q (T.setTop (mkF m pc Ls (.int x :: .int j :: .ref a :: St))) := by
  subst hp hv
  obtain ⟨cl, B, r1, r2, r3, -⟩ := id A
  obtain ⟨q1, q2⟩ := o_idx (c := cl) hj hi r1
  obtain ⟨T', h', X', e', W', st'⟩ := stC X K.hx K.hZ eT B q1 (g := mkF m pc Ls (.int x :: .int j :: .ref a :: St)) rfl rfl (hb K.hby hd)
  have N' := Fr.snoc X' N ge
  rw [q2] at W'
  exact OGo.st st' (hr T' h' _ X' e' W' (A.same W' (fits_nar_char x)) N')
theorem o_sastore (X : Stand p l e R s m args below meth c T locs cells slots) (K : OCx p s m meth c Z own nm bytes maxL ret) {a : Addr} {n i : Nat} {f : Nat → Value} {j : Int32} {x x' : Int32} (hd : decode bytes pc = .ok (.sastore, 1)) (pc' : Nat) (hp : pc + 1 = pc') (eT : T.heap = h) (A : OAr Z h a .short n f) (hj : j.toInt = (i : Int)) (hi : i < n) (hv : nar .short x = x') (N : Fr n0 locs) (ge : n0 ≤ a)
    (hr : ∀ T' h' locs', Stand p l e R s m args below meth c T' locs' cells slots → T'.heap = h' → Wr h h' a i (.int x') → OAr Z h' a .short n (fun q => if q = i then (.int x') else f q) → Fr n0 locs' → OGo p e below Fn n0 Q (T'.setTop (mkF m pc' Ls St))) : OGo p e below Fn n0 Q (T.setTop (mkF m pc Ls (.int x :: .int j :: .ref a :: St))) := by
  subst hp hv
  obtain ⟨cl, B, r1, r2, r3, -⟩ := id A
  obtain ⟨q1, q2⟩ := o_idx (c := cl) hj hi r1
  obtain ⟨T', h', X', e', W', st'⟩ := stS X K.hx K.hZ eT B q1 (g := mkF m pc Ls (.int x :: .int j :: .ref a :: St)) rfl rfl (hb K.hby hd)
  have N' := Fr.snoc X' N ge
  rw [q2] at W'
  exact OGo.st st' (hr T' h' _ X' e' W' (A.same W' (fits_nar_short x)) N')
theorem o_zastore (X : Stand p l e R s m args below meth c T locs cells slots) (K : OCx p s m meth c Z own nm bytes maxL ret) {a : Addr} {n i : Nat} {f : Nat → Value} {j : Int32} {x x' : Int32} (hd : decode bytes pc = .ok (.bastore, 1)) (pc' : Nat) (hp : pc + 1 = pc') (eT : T.heap = h) (A : OAr Z h a .boolean n f) (hj : j.toInt = (i : Int)) (hi : i < n) (hv : nar .boolean x = x') (N : Fr n0 locs) (ge : n0 ≤ a)
    (hr : ∀ T' h' locs', Stand p l e R s m args below meth c T' locs' cells slots → T'.heap = h' → Wr h h' a i (.int x') → OAr Z h' a .boolean n (fun q => if q = i then (.int x') else f q) → Fr n0 locs' → OGo p e below Fn n0 Q (T'.setTop (mkF m pc' Ls St))) : OGo p e below Fn n0 Q (T.setTop (mkF m pc Ls (.int x :: .int j :: .ref a :: St))) := by
  subst hp hv
  obtain ⟨cl, B, r1, r2, r3, -⟩ := id A
  obtain ⟨q1, q2⟩ := o_idx (c := cl) hj hi r1
  obtain ⟨T', h', X', e', W', st'⟩ := stZ X K.hx K.hZ eT B q1 (g := mkF m pc Ls (.int x :: .int j :: .ref a :: St)) rfl rfl (hb K.hby hd)
  have N' := Fr.snoc X' N ge
  rw [q2] at W'
  exact OGo.st st' (hr T' h' _ X' e' W' (A.same W' (fits_nar_bool x)) N')
theorem o_iastore (X : Stand p l e R s m args below meth c T locs cells slots) (K : OCx p s m meth c Z own nm bytes maxL ret) {a : Addr} {n i : Nat} {f : Nat → Value} {j : Int32} {x x' : Int32} (hd : decode bytes pc = .ok (.iastore, 1)) (pc' : Nat) (hp : pc + 1 = pc') (eT : T.heap = h) (A : OAr Z h a .int n f) (hj : j.toInt = (i : Int)) (hi : i < n) (hv : x = x') (N : Fr n0 locs) (ge : n0 ≤ a)
    (hr : ∀ T' h' locs', Stand p l e R s m args below meth c T' locs' cells slots → T'.heap = h' → Wr h h' a i (.int x') → OAr Z h' a .int n (fun q => if q = i then (.int x') else f q) → Fr n0 locs' → OGo p e below Fn n0 Q (T'.setTop (mkF m pc' Ls St))) : OGo p e below Fn n0 Q (T.setTop (mkF m pc Ls (.int x :: .int j :: .ref a :: St))) := by
  subst hp hv
  obtain ⟨cl, B, r1, r2, r3, -⟩ := id A
  obtain ⟨q1, q2⟩ := o_idx (c := cl) hj hi r1
  obtain ⟨T', h', X', e', W', st'⟩ := stI X K.hx K.hZ eT B q1 (g := mkF m pc Ls (.int x :: .int j :: .ref a :: St)) rfl rfl (hb K.hby hd)
  have N' := Fr.snoc X' N ge
  rw [q2] at W'
  exact OGo.st st' (hr T' h' _ X' e' W' (A.same W' (rfl)) N')
theorem o_lastore (X : Stand p l e R s m args below meth c T locs cells slots) (K : OCx p s m meth c Z own nm bytes maxL ret) {a : Addr} {n i : Nat} {f : Nat → Value} {j : Int32} {x x' : Int64} (hd : decode bytes pc = .ok (.lastore, 1)) (pc' : Nat) (hp : pc + 1 = pc') (eT : T.heap = h) (A : OAr Z h a .long n f) (hj : j.toInt = (i : Int)) (hi : i < n) (hv : x = x') (N : Fr n0 locs) (ge : n0 ≤ a)
    (hr : ∀ T' h' locs', Stand p l e R s m args below meth c T' locs' cells slots → T'.heap = h' → Wr h h' a i (.long x') → OAr Z h' a .long n (fun q => if q = i then (.long x') else f q) → Fr n0 locs' → OGo p e below Fn n0 Q (T'.setTop (mkF m pc' Ls St))) : OGo p e below Fn n0 Q (T.setTop (mkF m pc Ls (.long x :: .int j :: .ref a :: St))) := by
  subst hp hv
  obtain ⟨cl, B, r1, r2, r3, -⟩ := id A
  obtain ⟨q1, q2⟩ := o_idx (c := cl) hj hi r1
  obtain ⟨T', h', X', e', W', st'⟩ := stJ X K.hx K.hZ eT B q1 (g := mkF m pc Ls (.long x :: .int j :: .ref a :: St)) rfl rfl (hb K.hby hd)
  have N' := Fr.snoc X' N ge
  rw [q2] at W'
  exact OGo.st st' (hr T' h' _ X' e' W' (A.same W' (rfl)) N')
theorem o_newarray (X : Stand p l e R s m args below meth c T locs cells slots) (K : OCx p s m meth c Z own nm bytes maxL ret) {aty : ArrayType} {z : Int32} {n : Nat} (hd : decode bytes pc = .ok (.newarray aty, 2)) (pc' : Nat) (hp : pc + 2 = pc') (w : (Jvm.Cond.arrayClass (newarray.typeOf aty)).before a0 Z = true) (eT : T.heap = h) (hz : z.toInt = (n : Int)) (cap : Nat) (hcap : n ≤ cap) (hb8 : cap * 8 ≤ 536870912) (hc : cells + 1 ≤ R.cells) (hl : slots + cap ≤ R.slots)
    (hdv : fits (newarray.typeOf aty) (defaultValue (newarray.typeOf aty)) = true)
    (hr : ∀ T' h' a, a = h.size → Stand p l e R s m args below meth c T' locs (cells + 1) (slots + cap) → T'.heap = h' → Ext h h' → OAr Z h' a (newarray.typeOf aty) n (fun _ => defaultValue (newarray.typeOf aty)) → OGo p e below Fn n0 Q (T'.setTop (mkF m pc' Ls (.ref a :: St)))) : OGo p e below Fn n0 Q (T.setTop (mkF m pc Ls (.int z :: St))) := by
  subst hp
  have e1 : z.toNatClampNeg = n := by rw [← Int32.toNat_toInt, hz]; rfl
  have hneg : ¬ z < 0 := by
    rw [Int32.lt_iff_toInt_lt, hz]
    have : (0 : Int32).toInt = 0 := rfl
    omega
  obtain ⟨T', h', cA, X', e', E', A', st'⟩ := newP X K.hx K.hZ w eT (g := mkF m pc Ls (.int z :: St)) rfl (hb K.hby hd) rfl hneg (cap := cap) (by omega) hb8 hc hl
  refine OGo.st st' (hr T' h' _ rfl X' e' E' ⟨_, A', (sz_new _ _ _).trans e1, ?_, fun j hj => ?_, fun j _ => hdv⟩)
  · have := (rng32 z).2
    omega
  · simp [newA, e1, hj]
theorem o_anewarray (X : Stand p l e R s m args below meth c T locs cells slots) (K : OCx p s m meth c Z own nm bytes maxL ret) {C : String} {index : Nat} {z : Int32} {n : Nat} (hd : decode bytes pc = .ok (.anewarray index, 3)) (pc' : Nat) (hp : pc + 3 = pc') (w1 : (Jvm.Cond.classLink own index C).before a0 Z = true) (w2 : (Jvm.Cond.arrayOver (.object C)).before a0 Z = true) (eT : T.heap = h) (hz : z.toInt = (n : Int)) (cap : Nat) (hcap : n ≤ cap) (hb8 : cap * 8 ≤ 536870912) (hc : cells + 1 ≤ R.cells) (hl : slots + cap ≤ R.slots)
    (hr : ∀ T' h' a, a = h.size → Stand p l e R s m args below meth c T' locs (cells + 1) (slots + cap) → T'.heap = h' → Ext h h' → OAr Z h' a (.object C) n (fun _ => .null) → (∃ cl : Cell, h'[a]? = some cl ∧ Ovr Z cl.cls C) → OGo p e below Fn n0 Q (T'.setTop (mkF m pc' Ls (.ref a :: St)))) : OGo p e below Fn n0 Q (T.setTop (mkF m pc Ls (.int z :: St))) := by
  subst hp
  have e1 : z.toNatClampNeg = n := by rw [← Int32.toNat_toInt, hz]; rfl
  have hneg : ¬ z < 0 := by
    rw [Int32.lt_iff_toInt_lt, hz]
    have : (0 : Int32).toInt = 0 := rfl
    omega
  obtain ⟨T', h', cA, X', e', E', A', O', st'⟩ := newR X K.hx K.hZ K.hown w1 w2 eT (g := mkF m pc Ls (.int z :: St)) rfl (hb K.hby hd) rfl hneg (cap := cap) (by omega) hb8 hc hl
  refine OGo.st st' (hr T' h' _ rfl X' e' E' ⟨_, A', (sz_new _ _ _).trans e1, ?_, fun j hj => ?_, fun j _ => rfl⟩ ⟨_, A'.1, O'⟩)
  · have := (rng32 z).2
    omega
  · simp [newA, e1, hj, defaultValue]
theorem o_new (X : Stand p l e R s m args below meth c T locs cells slots) (K : OCx p s m meth c Z own nm bytes maxL ret) {C : String} {index k : Nat} (hd : decode bytes pc = .ok (.new index, 3)) (pc' : Nat) (hp : pc + 3 = pc') (w : (Jvm.Cond.classLink own index C).before a0 Z = true) (wi : (Jvm.Cond.instantiable C k).before a0 Z = true) (wz : (Jvm.Cond.initialized C).before a0 Z = true) (eT : T.heap = h) (hc : cells + 1 ≤ R.cells) (hl : slots + k ≤ R.slots)
    (hr : ∀ T' h' a, a = h.size → Stand p l e R s m args below meth c T' locs (cells + 1) (slots + k) → T'.heap = h' → Ext h h' → Exa Z h' a C → (∀ {O nm d : String} {ty : FieldType}, Laid Z a0 C O nm d → parseFieldDescriptor d = some ty → Fld Z h' a O nm d (defaultValue ty)) → OGo p e below Fn n0 Q (T'.setTop (mkF m pc' Ls (.ref a :: St)))) : OGo p e below Fn n0 Q (T.setTop (mkF m pc Ls St)) := by
  subst hp
  obtain ⟨T', h', X', e', E', A', D', -, st'⟩ := newO X K.hx K.hZ K.hown w wi wz eT (g := mkF m pc Ls St) rfl (hb K.hby hd) hc hl
  exact OGo.st st' (hr T' h' _ rfl X' e' E' A' D')
theorem o_initO (X : Stand p l e R s m args below meth c T locs cells slots) (K : OCx p s m meth c Z own nm bytes maxL ret) {idx : Nat} {a : Addr} (hd : decode bytes pc = .ok (.invokespecial idx, 3)) (pc' : Nat) (hp : pc + 3 = pc') (w1 : (Jvm.Cond.methodLink own idx Lib.objectInit).before a0 Z = true) (w2 : (Jvm.Cond.instanceMethod Lib.objectInit).before a0 Z = true) (w3 : (Jvm.Cond.code Lib.objectInit ⟨#[0xb1]⟩ 1 none).before a0 Z = true) (eT : T.heap = h) (hsz : Ls.size = maxL)
    (hf : 1 ≤ R.frames) (W : Nat) (hW : (St.map fun v => v.category).sum ≤ W) (hl : W + 12 ≤ R.locals) (hr : ∀ T', Stand p l e R s m args below meth c T' locs cells slots → T'.heap = h → OGo p e below Fn n0 Q (T'.setTop (mkF m pc' Ls St))) : OGo p e below Fn n0 Q (T.setTop (mkF m pc Ls (.ref a :: St))) := by
  subst hp
  obtain ⟨T', X', e', st'⟩ := initO X K.hx K.hZ K.hown w1 w2 w3 eT (g := mkF m pc Ls (.ref a :: St)) rfl (by rw [K.hml]; exact hsz) rfl (hb K.hby hd) hf (W := W) (by show 2 * 0 + _ ≤ _; omega) hl
  exact OGo.st st' (hr T' X' e')
theorem o_getfield (X : Stand p l e R s m args below meth c T locs cells slots) (K : OCx p s m meth c Z own nm bytes maxL ret) {index : Nat} {R0 O n d host : String} {a : Addr} {v : Value} (hd : decode bytes pc = .ok (.getfield index, 3)) (pc' : Nat) (hp : pc + 3 = pc') (w : (Jvm.Cond.fieldLink own index R0 n d).before a0 Z = true ∨ (Jvm.Cond.fieldLinkNest own index R0 n d host).before a0 Z = true) (via : Via Z R0 O n d) (eT : T.heap = h) (F : Fld Z h a O n d v)
    (hr : ∀ T', Stand p l e R s m args below meth c T' locs cells slots → T'.heap = h → OGo p e below Fn n0 Q (T'.setTop (mkF m pc' Ls (v :: St)))) : OGo p e below Fn n0 Q (T.setTop (mkF m pc Ls (.ref a :: St))) := by
  subst hp
  obtain ⟨T', X', e', st'⟩ := getF X K.hx K.hZ K.hown w via eT F (g := mkF m pc Ls (.ref a :: St)) rfl rfl (hb K.hby hd)
  exact OGo.st st' (hr T' X' e')
theorem o_getstatic (X : Stand p l e R s m args below meth c T locs cells slots) (K : OCx p s m meth c Z own nm bytes maxL ret) {index : Nat} {R0 O n d host : String} {v : Value} (hd : decode bytes pc = .ok (.getstatic index, 3)) (pc' : Nat) (hp : pc + 3 = pc') (w : (Jvm.Cond.fieldLink own index R0 n d).before a0 Z = true ∨ (Jvm.Cond.fieldLinkNest own index R0 n d host).before a0 Z = true) (via : Via Z R0 O n d) (eT : T.heap = h) (F : Sta Z h O n d v)
    (hr : ∀ T', Stand p l e R s m args below meth c T' locs cells slots → T'.heap = h → OGo p e below Fn n0 Q (T'.setTop (mkF m pc' Ls (v :: St)))) : OGo p e below Fn n0 Q (T.setTop (mkF m pc Ls St)) := by
  subst hp
  obtain ⟨T', X', e', st'⟩ := getS2 X K.hx K.hZ K.hown w via eT F (g := mkF m pc Ls St) rfl (hb K.hby hd)
  exact OGo.st st' (hr T' X' e')
theorem o_putfield (X : Stand p l e R s m args below meth c T locs cells slots) (K : OCx p s m meth c Z own nm bytes maxL ret) {index kk : Nat} {R0 O n d host C : String} {a : Addr} {v old : Value} {ty : FieldType} (hd : decode bytes pc = .ok (.putfield index, 3)) (pc' : Nat) (hp : pc + 3 = pc') (w : (Jvm.Cond.fieldLink own index R0 n d).before a0 Z = true ∨ (Jvm.Cond.fieldLinkNest own index R0 n d host).before a0 Z = true) (via : Via Z R0 O n d) (eT : T.heap = h) (F : Fld Z h a O n d old) (E : Exa Z h a C)
    (L : (Jvm.Cond.lays C O n d).before a0 Z = true ∨ ((Jvm.Cond.laysFinal C O n d).before a0 Z = true ∧ own = O ∧ nm = "<init>")) (wi : (Jvm.Cond.instantiable C kk).before a0 Z = true) (hty : parseFieldDescriptor d = some ty) (hn : narrow ty v = v) (hf : fits ty v = true) (N : Fr n0 locs) (ge : n0 ≤ a)
    (hr : ∀ T' h' locs', Stand p l e R s m args below meth c T' locs' cells slots → T'.heap = h' → Wr h h' a (Jvm.RoadKit.slotOf Z O n d) v → Fr n0 locs' → OGo p e below Fn n0 Q (T'.setTop (mkF m pc' Ls St))) : OGo p e below Fn n0 Q (T.setTop (mkF m pc Ls (v :: .ref a :: St))) := by
  subst hp
  obtain ⟨T', h', X', e', W', st'⟩ := putF X K.hx K.hZ K.hown w via eT F E (L.imp id fun q => ⟨q.1, q.2.1, K.hnm.trans q.2.2⟩) wi hty hn hf (g := mkF m pc Ls (v :: .ref a :: St)) rfl rfl (hb K.hby hd)
  exact OGo.st st' (hr T' h' _ X' e' W' (Fr.snoc X' N ge))
theorem o_putfieldN (X : Stand p l e R s m args below meth c T locs cells slots) (K : OCx p s m meth c Z own nm bytes maxL ret) {index kk : Nat} {R0 O n d C : String} {a : Addr} {v v' old : Value} {ty : FieldType} (hd : decode bytes pc = .ok (.putfield index, 3)) (pc' : Nat) (hp : pc + 3 = pc') (w : (Jvm.Cond.fieldLink own index R0 n d).before a0 Z = true) (via : Via Z R0 O n d) (eT : T.heap = h) (F : Fld Z h a O n d old) (E : Exa Z h a C)
    (L : (Jvm.Cond.lays C O n d).before a0 Z = true ∨ ((Jvm.Cond.laysFinal C O n d).before a0 Z = true ∧ own = O ∧ nm = "<init>")) (wi : (Jvm.Cond.instantiable C kk).before a0 Z = true) (hty : parseFieldDescriptor d = some ty) (hn : narrow ty v = v') (hf : fits ty v' = true) (N : Fr n0 locs) (ge : n0 ≤ a)
    (hr : ∀ T' h' locs', Stand p l e R s m args below meth c T' locs' cells slots → T'.heap = h' → Wr h h' a (Jvm.RoadKit.slotOf Z O n d) v' → Fr n0 locs' → OGo p e below Fn n0 Q (T'.setTop (mkF m pc' Ls St))) : OGo p e below Fn n0 Q (T.setTop (mkF m pc Ls (v :: .ref a :: St))) := by
  subst hp
  obtain ⟨T', h', X', e', W', st'⟩ := putFN X K.hx K.hZ K.hown w via eT F E (L.imp id fun q => ⟨q.1, q.2.1, K.hnm.trans q.2.2⟩) wi hty hn hf (g := mkF m pc Ls (v :: .ref a :: St)) rfl rfl (hb K.hby hd)
  exact OGo.st st' (hr T' h' _ X' e' W' (Fr.snoc X' N ge))
theorem o_invokestatic (X : Stand p l e R s m args below meth c T locs cells slots) (K : OCx p s m meth c Z own nm bytes maxL ret) {index : Nat} {y : MethodName} {bytes' : ByteArray} {maxL' : Nat} {ret' : Option FieldType} {rm : Room} {Q' : Option Value → Heap → Prop} (hd : decode bytes pc = .ok (.invokestatic index, 3)) (pc' : Nat) (hp : pc + 3 = pc') (w1 : (Jvm.Cond.methodLink own index y).before a0 Z = true) (w2 : (Jvm.Cond.static y).before a0 Z = true) (w3 : (Jvm.Cond.initialized y.cls).before a0 Z = true) (w4 : (Jvm.Cond.code y bytes' maxL' ret').before a0 Z = true) (hy : y.cls ≠ "java/lang/invoke/MethodHandle" ∧ y.cls ≠ "java/lang/invoke/VarHandle")
    (argsL rest : List Value) (hst : St = argsL.reverse ++ rest) (con : OCon l Z n0 y bytes' maxL' ret' rm argsL.toArray h Q') (eT : T.heap = h) (hsz : Ls.size = maxL) (hlen : ∀ sig, parseMethodDescriptor y.desc = some sig → argsL.length = sig.parameters.length) (hf : rm.frames + 1 ≤ R.frames) (W : Nat) (hW : (rest.map fun v => v.category).sum ≤ W) (hlo : W + (maxL' + 11) + rm.locals ≤ R.locals) (hc : cells + rm.cells ≤ R.cells) (hs : slots + rm.slots ≤ R.slots) (N : Fr n0 locs)
    (hr : ∀ v T' h' locs', Stand p l e R s m args below meth c T' locs' (cells + rm.cells) (slots + rm.slots) → T'.heap = h' → Q' v h' → Fr n0 locs' → OGo p e below Fn n0 Q (T'.setTop (mkF m pc' Ls (v.toList ++ rest)))) : OGo p e below Fn n0 Q (T.setTop (mkF m pc Ls St)) := by
  subst hp hst
  obtain ⟨v, vm₁, ⟨T', L', k', n'⟩, -, X', ⟨Lc, ⟨hQ, hF⟩, l1, y1, z1⟩, st⟩ := Jvm.LawKit.callS X K.hx K.hown (mvT K.hZ w1) (mvT K.hZ w2) (mvT K.hZ w3) (mvT K.hZ w4) hy (backOf (W := W) (Q := fun v h L => Q' v h ∧ Fr n0 L) (con []) K.hZ w4 w3 hf hlo) (g := mkF m pc Ls (argsL.reverse ++ rest)) rfl (by rw [K.hml]; exact hsz) (argsL := argsL) (rest := rest) hlen rfl (by show 2 * 0 + _ ≤ _; omega) (hb K.hby hd) (fun _ _ => ⟨rfl, eT, hc, hs⟩)
  dsimp only [Pt.U, Pt.locs, Pt.cells, Pt.slots] at X' l1 y1 z1 st hQ
  subst l1 y1 z1
  exact OGo.st st (hr v T' _ _ X' rfl hQ (Fr.app N hF))
theorem o_invokespecial (X : Stand p l e R s m args below meth c T locs cells slots) (K : OCx p s m meth c Z own nm bytes maxL ret) {index : Nat} {y : MethodName} {bytes' : ByteArray} {maxL' : Nat} {rm : Room} {Q' : Option Value → Heap → Prop} {a : Addr} (hd : decode bytes pc = .ok (.invokespecial index, 3)) (pc' : Nat) (hp : pc + 3 = pc') (hy1 : y.name = "<init>") (w1 : (Jvm.Cond.methodLink own index y).before a0 Z = true) (w2 : (Jvm.Cond.instanceMethod y).before a0 Z = true) (w3 : (Jvm.Cond.initialized y.cls).before a0 Z = true) (w4 : (Jvm.Cond.code y bytes' maxL' none).before a0 Z = true) (hy : y.cls ≠ "java/lang/invoke/MethodHandle" ∧ y.cls ≠ "java/lang/invoke/VarHandle")
    (argsL rest : List Value) (hst : St = argsL.reverse ++ .ref a :: rest) (con : OCon l Z n0 y bytes' maxL' none rm (.ref a :: argsL).toArray h Q') (eT : T.heap = h) (hsz : Ls.size = maxL) (hlen : ∀ sig, parseMethodDescriptor y.desc = some sig → argsL.length = sig.parameters.length) (hf : rm.frames + 1 ≤ R.frames) (W : Nat) (hW : (rest.map fun v => v.category).sum ≤ W) (hlo : W + (maxL' + 11) + rm.locals ≤ R.locals) (hc : cells + rm.cells ≤ R.cells) (hs : slots + rm.slots ≤ R.slots) (N : Fr n0 locs)
    (hr : ∀ v T' h' locs', Stand p l e R s m args below meth c T' locs' (cells + rm.cells) (slots + rm.slots) → T'.heap = h' → Q' v h' → Fr n0 locs' → OGo p e below Fn n0 Q (T'.setTop (mkF m pc' Ls (v.toList ++ rest)))) : OGo p e below Fn n0 Q (T.setTop (mkF m pc Ls St)) := by
  subst hp hst
  obtain ⟨v, vm₁, ⟨T', L', k', n'⟩, -, X', ⟨Lc, ⟨hQ, hF⟩, l1, y1, z1⟩, st⟩ := X.specialBack K.hx hy1 K.hown (mvT K.hZ w1) (mvT K.hZ w2) (mvT K.hZ w4) hy (backOf (W := W) (Q := fun v h L => Q' v h ∧ Fr n0 L) (con []) K.hZ w4 w3 hf hlo) (g := mkF m pc Ls (argsL.reverse ++ .ref a :: rest)) rfl (by rw [K.hml]; exact hsz) (Steps.refl _) (argsL := argsL) (rest := rest) hlen rfl (by show 2 * 0 + _ ≤ _; omega) (hb K.hby hd) (fun _ _ => ⟨rfl, eT, hc, hs⟩)
  dsimp only [Pt.U, Pt.locs, Pt.cells, Pt.slots] at X' l1 y1 z1 st hQ
  subst l1 y1 z1
  exact OGo.st (fun t k => st.trans k) (hr v T' _ _ X' rfl hQ (Fr.app N hF))
theorem o_invokevirtual (X : Stand p l e R s m args below meth c T locs cells slots) (K : OCx p s m meth c Z own nm bytes maxL ret) {index : Nat} {y : MethodName} {bytes' : ByteArray} {maxL' : Nat} {ret' : Option FieldType} {rm : Room} {Q' : Option Value → Heap → Prop} {C : String} {a : Addr} (hd : decode bytes pc = .ok (.invokevirtual index, 3)) (pc' : Nat) (hp : pc + 3 = pc') (w1 : (Jvm.Cond.methodLink own index y).before a0 Z = true) (w2 : (Jvm.Cond.declares y).before a0 Z = true) (wsel : (Jvm.Cond.selects C y y).before a0 Z = true) (w5 : (Jvm.Cond.instanceMethod y).before a0 Z = true) (w3 : (Jvm.Cond.initialized y.cls).before a0 Z = true) (w4 : (Jvm.Cond.code y bytes' maxL' ret').before a0 Z = true) (hy : y.cls ≠ "java/lang/invoke/MethodHandle" ∧ y.cls ≠ "java/lang/invoke/VarHandle")
    (E : Exa Z h a C) (argsL rest : List Value) (hst : St = argsL.reverse ++ .ref a :: rest) (con : OCon l Z n0 y bytes' maxL' ret' rm (.ref a :: argsL).toArray h Q') (eT : T.heap = h) (hsz : Ls.size = maxL) (hlen : ∀ sig, parseMethodDescriptor y.desc = some sig → argsL.length = sig.parameters.length) (hf : rm.frames + 1 ≤ R.frames) (W : Nat) (hW : (rest.map fun v => v.category).sum ≤ W) (hlo : W + (maxL' + 11) + rm.locals ≤ R.locals) (hc : cells + rm.cells ≤ R.cells) (hs : slots + rm.slots ≤ R.slots) (N : Fr n0 locs)
    (hr : ∀ v T' h' locs', Stand p l e R s m args below meth c T' locs' (cells + rm.cells) (slots + rm.slots) → T'.heap = h' → Q' v h' → Fr n0 locs' → OGo p e below Fn n0 Q (T'.setTop (mkF m pc' Ls (v.toList ++ rest)))) : OGo p e below Fn n0 Q (T.setTop (mkF m pc Ls St)) := by
  subst hp hst
  obtain ⟨cq, kq, qa, qb, qc⟩ := isOf K.hZ eT E
  obtain ⟨v, vm₁, ⟨T', L', k', n'⟩, -, X', ⟨Lc, ⟨hQ, hF⟩, l1, y1, z1⟩, st⟩ := X.virtualBack K.hx K.hown (mvT K.hZ w1) (mvT K.hZ w2) (notFace_of_selects (args := #[]) (mvT K.hZ wsel)) (mvT K.hZ wsel) (mvT K.hZ w5) hy (backOf (W := W) (Q := fun v h L => Q' v h ∧ Fr n0 L) (con []) K.hZ w4 w3 hf hlo) qa qc (g := mkF m pc Ls (argsL.reverse ++ .ref a :: rest)) rfl (by rw [K.hml]; exact hsz) (Steps.refl _) (argsL := argsL) (rest := rest) hlen rfl (by show 2 * 0 + _ ≤ _; omega) (hb K.hby hd) (fun _ _ => ⟨rfl, eT, hc, hs⟩)
  dsimp only [Pt.U, Pt.locs, Pt.cells, Pt.slots] at X' l1 y1 z1 st hQ
  subst l1 y1 z1
  exact OGo.st (fun t k => st.trans k) (hr v T' _ _ X' rfl hQ (Fr.app N hF))
theorem o_nb (x : Int32) : nar .byte (x.toInt8.toInt32) = x.toInt8.toInt32 := by
  show x.toInt8.toInt32.toInt8.toInt32 = _
  simp
theorem o_join {α : Type} (F : α → State) (P : α → Prop) {S : State} (hgo : (∀ b, P b → OGo p e below Fn n0 Q (F b)) → OGo p e below Fn n0 Q S) (hrest : ∀ b, P b → OGo p e below Fn n0 Q (F b)) : OGo p e below Fn n0 Q S := hgo hrest
theorem o_ind {α : Type} (F : α → State) (Inv : Nat → α → Prop) (hz : ∀ a, Inv 0 a → OGo p e below Fn n0 Q (F a)) (hs : ∀ d, (∀ a, Inv d a → OGo p e below Fn n0 Q (F a)) → ∀ a, Inv (d + 1) a → OGo p e below Fn n0 Q (F a)) (d : Nat) (a : α) (i : Inv d a) : OGo p e below Fn n0 Q (F a) := by
  induction d generalizing a with
  | zero => exact hz a i
  | succ d ih => exact hs d ih a i
theorem o_sta_keep {C n d : String} {v : Value} {ws : List Addr} (F : Sta Z h C n d v) (k : Keep h h' ws) (q : ∀ x ∈ ws, ∀ cell : Cell, h[x]? = some cell → cell.vm.isStatics = false) : Sta Z h' C n d v := by
  obtain ⟨cf, i, kk, f, st, cell, h1, h2, h3, h4, h5, h6, h7⟩ := F
  refine ⟨cf, i, kk, f, st, cell, h1, h2, h3, h4, k.2.1 _ _ h5 (fun z => ?_), h6, h7⟩
  rw [q st z cell h5] at h6
  cases h6
theorem o_nat {n : Nat} (h : n < 2147483648) : (n.toInt32).toNatClampNeg = n := by
  rw [← Int32.toNat_toInt, o_len h]
  rfl
theorem o_getD {n i : Nat} {f : Nat → Value} {d : Value} (h : i < n) : ((List.range n).map f).getD i d = f i := by
  simp [List.getD_eq_getElem?_getD, h]
theorem OAr.arv {a : Addr} {ty : FieldType} {n : Nat} {f : Nat → Value} (A : OAr Z h a ty n f) (dv : Value) : ∃ k, Arv Z h a k ty n.toInt32 ((List.range n).map f) dv := by
  obtain ⟨cl, A, r1, r2, r3, r4⟩ := A
  refine ⟨cl.cls, cl, A, rfl, by rw [r1, o_nat r2], ?_, fun k hk => ?_, fun i hi => ?_⟩
  · rw [Int32.lt_iff_toInt_lt, o_len r2]
    have : (0 : Int32).toInt = 0 := rfl
    omega
  · rw [o_getD (by omega)]
    exact r3 k (by omega)
  · rw [o_getD (by omega)]
    exact r4 i (by omega)
theorem OAr.of_arv {a : Addr} {k : ClassId} {ty : FieldType} {n : Nat} {vs : List Value} {dv : Value} {f : Nat → Value} (hn : n < 2147483648) (A : Arv Z h a k ty n.toInt32 vs dv) (q : ∀ j, j < n → vs.getD j dv = f j) : OAr Z h a ty n f := by
  obtain ⟨cl, A, -, r1, -, r3, r4⟩ := A
  rw [o_nat hn] at r1
  refine ⟨cl, A, r1, hn, fun j hj => ?_, fun j hj => ?_⟩
  · rw [← q j hj]
    exact r3 j (by omega)
  · rw [← q j hj]
    exact r4 j (by omega)
theorem OAr.of_arh {a : Addr} {k : ClassId} {ty : FieldType} {n : Nat} {vs : List Value} {dv : Value} {f : Nat → Value} (hn : n < 2147483648) (A : Arh Z h a k ty n.toInt32 [] vs dv) (q : ∀ j, j < n → vs.getD j dv = f j) : OAr Z h a ty n f := by
  obtain ⟨cl, A, -, r1, -, r3, r4⟩ := A
  rw [o_nat hn] at r1
  refine ⟨cl, A, r1, hn, fun j hj => ?_, fun j hj => ?_⟩
  · rw [← q j hj]
    exact r3 j (by omega)
  · rw [← q j hj]
    exact r4 j (by omega)
theorem o_splice {n' i j k : Nat} {f g : Nat → Value} {dd : Value} (h5 : j + k ≤ n') (q : Nat) (hq : q < n') : (((List.range n').map g).take j ++ (List.range k).map (fun z => f (i + z)) ++ ((List.range n').map g).drop (j + k)).getD q dd = if j ≤ q ∧ q < j + k then f (i + (q - j)) else g q := by
  rw [List.getD_eq_getElem?_getD]
  by_cases h1 : q < j
  · rw [if_neg (by omega), List.append_assoc, List.getElem?_append_left (by simp; omega)]
    simp [List.getElem?_take, h1, hq]
  · by_cases h2 : q < j + k
    · rw [if_pos ⟨by omega, h2⟩, List.append_assoc, List.getElem?_append_right (by simp; omega), List.getElem?_append_left (by simp; omega)]
      have e : min j n' = j := by omega
      have h3 : q - j < k := by omega
      simp [e, h3]
    · rw [if_neg (by omega), List.getElem?_append_right (by simp; omega)]
      have e : min j n' = j := by omega
      have e2 : j + k + (q - (j + k)) = q := by omega
      simp [List.getElem?_drop, e, e2, hq]
theorem o_arraycopy (X : Stand p l e R s m args below meth c T locs cells slots) (K : OCx p s m meth c Z own nm bytes maxL ret) {index : Nat} {a b : Addr} {n n' : Nat} {f g : Nat → Value} {ty : FieldType} {sp dp nn : Int32} {i j k : Nat} (hd : decode bytes pc = .ok (.invokestatic index, 3)) (pc' : Nat) (hp : pc + 3 = pc') (w1 : (Jvm.Cond.methodLink own index Jvm.Stand.acN).before a0 Z = true) (w2 : (Jvm.Cond.native Jvm.Stand.acN).before a0 Z = true) (w3 : (Jvm.Cond.static Jvm.Stand.acN).before a0 Z = true) (w4 : (Jvm.Cond.initialized "java/lang/System").before a0 Z = true) (eT : T.heap = h)
    (A : OAr Z h a ty n f) (B : OAr Z h b ty n' g) (hty : refKind ty = false) (h1 : sp.toInt = (i : Int)) (h2 : dp.toInt = (j : Int)) (h3 : nn.toInt = (k : Int)) (h4 : i + k ≤ n) (h5 : j + k ≤ n') (N : Fr n0 locs) (ge : n0 ≤ b) (hsz : Ls.size = maxL) (hf : 1 ≤ R.frames) (W : Nat) (hW : (St.map fun v => v.category).sum ≤ W) (hlo : W + (nativeFrameWords "java/lang/System" "arraycopy" 5 + 11) ≤ R.locals)
    (hr : ∀ T' h' locs', Stand p l e R s m args below meth c T' locs' cells slots → T'.heap = h' → Keep h h' [b] → OAr Z h' b ty n' (fun q => if j ≤ q ∧ q < j + k then f (i + (q - j)) else g q) → Fr n0 locs' → OGo p e below Fn n0 Q (T'.setTop (mkF m pc' Ls St))) : OGo p e below Fn n0 Q (T.setTop (mkF m pc Ls (.int nn :: .int dp :: .ref b :: .int sp :: .ref a :: St))) := by
  subst hp
  have c1 : sp.toNatClampNeg = i := by rw [← Int32.toNat_toInt, h1]; rfl
  have c2 : dp.toNatClampNeg = j := by rw [← Int32.toNat_toInt, h2]; rfl
  have c3 : nn.toNatClampNeg = k := by rw [← Int32.toNat_toInt, h3]; rfl
  have z0 : (0 : Int32).toInt = 0 := rfl
  have la := A.len
  have lb := B.len
  obtain ⟨ka, A'⟩ := A.arv .null
  obtain ⟨kb, B'⟩ := B.arv .null
  obtain ⟨T', h', L, X', e', N', K', C', st'⟩ := cpA X K.hx K.hZ K.hown w1 w2 w3 w4 eT (sp := sp) (dp := dp) (nn := nn) (us := (List.range k).map (fun z => f (i + z))) A' B' (Or.inl ⟨rfl, hty⟩) (by rw [Int32.lt_iff_toInt_lt, h1]; omega) (by rw [Int32.lt_iff_toInt_lt, h2]; omega) (by rw [Int32.lt_iff_toInt_lt, h3]; omega) (by rw [c1, c3, o_nat la]; exact h4) (by rw [c2, c3, o_nat lb]; exact h5)
    (by rw [c1, c3]; exact List.map_congr_left fun z hz => (o_getD (by have := List.mem_range.mp hz; omega)).symm) (by rw [c2, c3]; simp; exact h5) N ge (g := mkF m pc Ls (.int nn :: .int dp :: .ref b :: .int sp :: .ref a :: St)) rfl (by rw [K.hml]; exact hsz) rfl (hb K.hby hd) hf (W := W) (by show 2 * 0 + _ ≤ _; omega) hlo
  rw [c2, c3] at C'
  exact OGo.st st' (hr T' h' L X' e' K' (OAr.of_arv lb C' (fun q hq => o_splice h5 q hq)) N')
theorem o_clone (X : Stand p l e R s m args below meth c T locs cells slots) (K : OCx p s m meth c Z own nm bytes maxL ret) {index : Nat} {ad : String} {a : Addr} {n : Nat} {f : Nat → Value} {ty : FieldType} (hd : decode bytes pc = .ok (.invokevirtual index, 3)) (pc' : Nat) (hp : pc + 3 = pc') (w1 : (Jvm.Cond.methodLink own index ⟨ad, "clone", "()Ljava/lang/Object;"⟩).before a0 Z = true) (w2 : (Jvm.Cond.sameMethod ad "java/lang/Object" "clone" "()Ljava/lang/Object;").before a0 Z = true) (w3 : (Jvm.Cond.native ⟨"java/lang/Object", "clone", "()Ljava/lang/Object;"⟩).before a0 Z = true)
    (w4 : (Jvm.Cond.instanceMethod ⟨"java/lang/Object", "clone", "()Ljava/lang/Object;"⟩).before a0 Z = true) (w5 : (Jvm.Cond.selects ad ⟨ad, "clone", "()Ljava/lang/Object;"⟩ ⟨"java/lang/Object", "clone", "()Ljava/lang/Object;"⟩).before a0 Z = true) (w6 : (Jvm.Cond.castable ad "java/lang/Cloneable").before a0 Z = true)
    (eT : T.heap = h) (A : OAr Z h a ty n f) (E : Exa Z h a ad) (hsz : Ls.size = maxL) (hf : 1 ≤ R.frames) (W cap : Nat) (hW : (St.map fun v => v.category).sum ≤ W) (hl : W + 14 ≤ R.locals) (hcap : n ≤ cap) (hc : cells + 1 ≤ R.cells) (hsl : slots + cap ≤ R.slots)
    (hr : ∀ T' h' b, b = h.size → Stand p l e R s m args below meth c T' locs (cells + 1) (slots + cap) → T'.heap = h' → Ext h h' → OAr Z h' b ty n f → Exa Z h' b ad → OGo p e below Fn n0 Q (T'.setTop (mkF m pc' Ls (.ref b :: St)))) : OGo p e below Fn n0 Q (T.setTop (mkF m pc Ls (.ref a :: St))) := by
  subst hp
  have la := A.len
  obtain ⟨ka, A'⟩ := A.arv .null
  obtain ⟨T', h', X', e', E', C', D', st'⟩ := cloneH X K.hx K.hZ K.hown w1 w2 w3 w4 w5 w6 eT A'.arh E (g := mkF m pc Ls (.ref a :: St)) rfl (by rw [K.hml]; exact hsz) rfl (hb K.hby hd) hf (W := W) (cap := cap) (by show 2 * 0 + _ ≤ _; omega) hl (by rw [o_nat la]; exact hcap) hc hsl
  exact OGo.st st' (hr T' h' _ rfl X' e' E' (OAr.of_arh la C' (fun q hq => o_getD hq)) D')
theorem o_checkcast (X : Stand p l e R s m args below meth c T locs cells slots) (K : OCx p s m meth c Z own nm bytes maxL ret) {index : Nat} {C : String} {a : Addr} (hd : decode bytes pc = .ok (.checkcast index, 3)) (pc' : Nat) (hp : pc + 3 = pc') (w : (Jvm.Cond.classLink own index C).before a0 Z = true) (eT : T.heap = h) (F : Ins Z h a C true)
    (hr : ∀ T', Stand p l e R s m args below meth c T' locs cells slots → T'.heap = h → OGo p e below Fn n0 Q (T'.setTop (mkF m pc' Ls (.ref a :: St)))) : OGo p e below Fn n0 Q (T.setTop (mkF m pc Ls (.ref a :: St))) := by
  subst hp
  obtain ⟨T', X', e', st'⟩ := castY X K.hx K.hZ K.hown w eT F (g := mkF m pc Ls (.ref a :: St)) rfl rfl (hb K.hby hd)
  exact OGo.st st' (hr T' X' e')
theorem o_invokeprivate (X : Stand p l e R s m args below meth c T locs cells slots) (K : OCx p s m meth c Z own nm bytes maxL ret) {index : Nat} {y : MethodName} {bytes' : ByteArray} {maxL' : Nat} {ret' : Option FieldType} {rm : Room} {Q' : Option Value → Heap → Prop} {a : Addr} {C : String} (hd : decode bytes pc = .ok (.invokevirtual index, 3)) (pc' : Nat) (hp : pc + 3 = pc') (w1 : (Jvm.Cond.methodLink own index y).before a0 Z = true) (w2 : (Jvm.Cond.instanceMethod y).before a0 Z = true) (wp : (Jvm.Cond.privateMethod y).before a0 Z = true) (w3 : (Jvm.Cond.initialized y.cls).before a0 Z = true) (w4 : (Jvm.Cond.code y bytes' maxL' ret').before a0 Z = true) (hy : y.cls ≠ "java/lang/invoke/MethodHandle" ∧ y.cls ≠ "java/lang/invoke/VarHandle") (wi : ∃ k, (Jvm.Cond.instantiable y.cls k).before a0 Z = true)
    (E : Exa Z h a C) (argsL rest : List Value) (hst : St = argsL.reverse ++ .ref a :: rest) (con : OCon l Z n0 y bytes' maxL' ret' rm (.ref a :: argsL).toArray h Q') (eT : T.heap = h) (hsz : Ls.size = maxL) (hlen : ∀ sig, parseMethodDescriptor y.desc = some sig → argsL.length = sig.parameters.length) (hf : rm.frames + 1 ≤ R.frames) (W : Nat) (hW : (rest.map fun v => v.category).sum ≤ W) (hlo : W + (maxL' + 11) + rm.locals ≤ R.locals) (hc : cells + rm.cells ≤ R.cells) (hs : slots + rm.slots ≤ R.slots) (N : Fr n0 locs)
    (hr : ∀ v T' h' locs', Stand p l e R s m args below meth c T' locs' (cells + rm.cells) (slots + rm.slots) → T'.heap = h' → Q' v h' → Fr n0 locs' → OGo p e below Fn n0 Q (T'.setTop (mkF m pc' Ls (v.toList ++ rest)))) : OGo p e below Fn n0 Q (T.setTop (mkF m pc Ls St)) := by
  subst hp hst
  obtain ⟨cell, hcell, hobj⟩ := E.cell
  obtain ⟨kk, wi⟩ := wi
  have hpriv : s.PrivateAt y := Cond.privateMethod_at (mvP K.hZ wp (args := #[]))
  have wi' : (Jvm.Cond.instantiable y.cls kk).before args s = true := mvT K.hZ wi
  obtain ⟨cI, kI, i1, i2, i3, i4⟩ := Cond.instantiable_spec wi'
  have hsel : (Jvm.Cond.selects y.cls y y).before args s = true := selects_self_of_private i1 i2 (Bool.or_eq_false_iff.mp i4.1).1 hpriv (mvT K.hZ w2) hy
  obtain ⟨v, vm₁, ⟨T', L', k', n'⟩, -, X', ⟨Lc, ⟨hQ, hF⟩, l1, y1, z1⟩, st⟩ := X.privateBack K.hx K.hown (mvT K.hZ w1) (mvT K.hZ w2) hsel hpriv (mvT K.hZ w4) hy (backOf (W := W) (Q := fun v h L => Q' v h ∧ Fr n0 L) (con []) K.hZ w4 w3 hf hlo) (g := mkF m pc Ls (argsL.reverse ++ .ref a :: rest)) rfl (by rw [K.hml]; exact hsz) (Steps.refl _) (a := a) (by rw [eT]; exact hcell) hobj (argsL := argsL) (rest := rest) hlen rfl (by show 2 * 0 + _ ≤ _; omega) (hb K.hby hd) (fun _ _ => ⟨rfl, eT, hc, hs⟩)
  dsimp only [Pt.U, Pt.locs, Pt.cells, Pt.slots] at X' l1 y1 z1 st hQ
  subst l1 y1 z1
  exact OGo.st (fun t k => st.trans k) (hr v T' _ _ X' rfl hQ (Fr.app N hF))
theorem o_fieldReady {vm : Vm} (hZ : Z.Warmed39 vm) {cur c : ClassId} {index : Nat} {f : Field} (r : Z.vm.fieldReady cur index c f) : vm.fieldReady cur index c f := by
  obtain ⟨k, i, kc, h1, h2, h3, h4⟩ := r
  obtain ⟨-, -, -, hk⟩ := hZ
  obtain ⟨k', a1, -, -, a3, -⟩ := hk _ _ h1
  obtain ⟨kc', b1, b2, -, -, -⟩ := hk _ _ h3
  refine ⟨k', i, kc', a1, ?_, b1, by rw [b2]; exact h4⟩
  rcases a3 index with q | ⟨q, -⟩
  · rw [q]; exact h2
  · rw [h2] at q; cases q
theorem o_getfieldR (X : Stand p l e R s m args below meth c T locs cells slots) (K : OCx p s m meth c Z own nm bytes maxL ret) {index : Nat} {O n d : String} {a : Addr} {v : Value} (hd : decode bytes pc = .ok (.getfield index, 3)) (pc' : Nat) (hp : pc + 3 = pc') (w : (Jvm.Cond.fieldRef own index O n d).before a0 Z = true) (eT : T.heap = h) (F : Fld Z h a O n d v) (hr : OGo p e below Fn n0 Q (T.setTop (mkF m pc' Ls (v :: St)))) : OGo p e below Fn n0 Q (T.setTop (mkF m pc Ls (.ref a :: St))) := by
  subst hp
  obtain ⟨cell, cf, k, i, f, h1, h2, h3, h4, -, -, h7⟩ := F
  have hZT : Z.Warmed39 T.vm := wtrans K.hZ X.warmed
  have hownZ : Z.vm.findClass own = some m.cls := by
    have q := K.hown
    have q2 := K.hZ.alike.findClass (name := own)
    rw [← q2]
    exact q
  obtain ⟨c', k', i', f', q1, q2⟩ := Cond.fieldRef_spec hownZ w
  cases q1.symm.trans h2
  have q2 := o_fieldReady hZT q2
  exact OGo.st (fun t k => (X.getfieldR K.hx (g := mkF m pc Ls (.ref a :: St)) rfl q2 h3 rfl (by rw [eT]; exact h1) h4 h7 (hb K.hby hd) (Steps.refl _)).trans k) hr
theorem o_invokespecialN (X : Stand p l e R s m args below meth c T locs cells slots) (K : OCx p s m meth c Z own nm bytes maxL ret) {index : Nat} {y : MethodName} {bytes' : ByteArray} {maxL' : Nat} {rm : Room} {Q' : Option Value → Heap → Prop} {a : Addr} {host : String} (hd : decode bytes pc = .ok (.invokespecial index, 3)) (pc' : Nat) (hp : pc + 3 = pc') (hy1 : y.name = "<init>") (w1 : (Jvm.Cond.methodLinkNest own index y host).before a0 Z = true) (w2 : (Jvm.Cond.instanceMethod y).before a0 Z = true) (w3 : (Jvm.Cond.initialized y.cls).before a0 Z = true) (w4 : (Jvm.Cond.code y bytes' maxL' none).before a0 Z = true) (hy : y.cls ≠ "java/lang/invoke/MethodHandle" ∧ y.cls ≠ "java/lang/invoke/VarHandle")
    (argsL rest : List Value) (hst : St = argsL.reverse ++ .ref a :: rest) (con : OCon l Z n0 y bytes' maxL' none rm (.ref a :: argsL).toArray h Q') (eT : T.heap = h) (hsz : Ls.size = maxL) (hlen : ∀ sig, parseMethodDescriptor y.desc = some sig → argsL.length = sig.parameters.length) (hf : rm.frames + 1 ≤ R.frames) (W : Nat) (hW : (rest.map fun v => v.category).sum ≤ W) (hlo : W + (maxL' + 11) + rm.locals ≤ R.locals) (hc : cells + rm.cells ≤ R.cells) (hs : slots + rm.slots ≤ R.slots) (N : Fr n0 locs)
    (hr : ∀ v T' h' locs', Stand p l e R s m args below meth c T' locs' (cells + rm.cells) (slots + rm.slots) → T'.heap = h' → Q' v h' → Fr n0 locs' → OGo p e below Fn n0 Q (T'.setTop (mkF m pc' Ls (v.toList ++ rest)))) : OGo p e below Fn n0 Q (T.setTop (mkF m pc Ls St)) := by
  subst hp hst
  have wn : (Jvm.Cond.methodLinkNest own index y host).before args s = true := Cond.methodLinkNest_wide K.hZ w1
  obtain ⟨v, vm₁, ⟨T', L', k', n'⟩, -, X', ⟨Lc, ⟨hQ, hF⟩, l1, y1, z1⟩, st⟩ := X.specialBackNest K.hx hy1 K.hown wn (mvT K.hZ w2) (mvT K.hZ w4) hy (backOf (W := W) (Q := fun v h L => Q' v h ∧ Fr n0 L) (con []) K.hZ w4 w3 hf hlo) (g := mkF m pc Ls (argsL.reverse ++ .ref a :: rest)) rfl (by rw [K.hml]; exact hsz) (Steps.refl _) (argsL := argsL) (rest := rest) hlen rfl (by show 2 * 0 + _ ≤ _; omega) (hb K.hby hd) (fun _ _ => ⟨rfl, eT, hc, hs⟩)
  dsimp only [Pt.U, Pt.locs, Pt.cells, Pt.slots] at X' l1 y1 z1 st hQ
  subst l1 y1 z1
  exact OGo.st (fun t k => st.trans k) (hr v T' _ _ X' rfl hQ (Fr.app N hF))
theorem o_plain0 : ∀ x ∈ ([] : List Addr), ∀ cell : Cell, h[x]? = some cell → cell.vm.isStatics = false := by
  intro x hx
  cases hx
theorem o_plainS {a : Addr} {C : String} {ws : List Addr} (E : Exa Z h a C) (r : ∀ x ∈ ws, ∀ cell : Cell, h[x]? = some cell → cell.vm.isStatics = false) : ∀ x ∈ a :: ws, ∀ cell : Cell, h[x]? = some cell → cell.vm.isStatics = false := by
  intro x hx cell hc
  rcases List.mem_cons.mp hx with rfl | hx
  · obtain ⟨c1, -, d1, -, -, d4, -⟩ := E
    cases hc.symm.trans d1
    exact d4
  · exact r x hx cell hc
/-- an array of ten Objects -/
def OAo (Z : State) (h : Heap) (a : Addr) : Prop := (∃ f, OAr Z h a (.object "java/lang/Object") 10 f) ∧ ∃ cl : Cell, h[a]? = some cl ∧ Ovr Z cl.cls "java/lang/Object"
theorem OAo.lt {a : Addr} (A : OAo Z h a) : a < h.size := by obtain ⟨⟨f, A⟩, -⟩ := A; exact A.lt
theorem OAo.ext {a : Addr} (A : OAo Z h a) (E : Ext h h') : OAo Z h' a := by obtain ⟨⟨f, A⟩, cl, q, O⟩ := A; exact ⟨⟨f, A.ext E⟩, cl, E.2 _ _ q, O⟩
theorem OAo.keep {a : Addr} {ws : List Addr} (A : OAo Z h a) (E : Keep h h' ws) (q : a ∉ ws) : OAo Z h' a := by obtain ⟨⟨f, A⟩, cl, q', O⟩ := A; exact ⟨⟨f, A.keep E q⟩, cl, E.2.1 _ _ q' q, O⟩
theorem OAo.other {a b : Addr} {sl : Nat} {v : Value} (A : OAo Z h b) (W : Wr h h' a sl v) (q : b ≠ a) : OAo Z h' b := by
  obtain ⟨⟨f, A⟩, cl, q', O⟩ := A
  obtain ⟨d1, a1, a2, -⟩ := wr_at W q'
  exact ⟨⟨f, A.other W q⟩, d1, a1, by rw [a2]; exact O⟩
theorem OAo.same {a : Addr} {i : Nat} {v : Value} (A : OAo Z h a) (W : Wr h h' a i v) (hv : fits (.object "java/lang/Object") v = true) : OAo Z h' a := by
  obtain ⟨⟨f, A⟩, cl, q', O⟩ := A
  obtain ⟨d1, a1, a2, -⟩ := wr_at W q'
  exact ⟨⟨_, A.same W hv⟩, d1, a1, by rw [a2]; exact O⟩
theorem o_plainA {a : Addr} {ws : List Addr} (A : OAo Z h a) (r : ∀ x ∈ ws, ∀ cell : Cell, h[x]? = some cell → cell.vm.isStatics = false) : ∀ x ∈ a :: ws, ∀ cell : Cell, h[x]? = some cell → cell.vm.isStatics = false := by
  intro x hx cell hc
  rcases List.mem_cons.mp hx with rfl | hx
  · obtain ⟨⟨f, c, B, -⟩, -⟩ := A
    cases hc.symm.trans B.1
    exact Arr.plain B
  · exact r x hx cell hc
theorem o_arraylengthO (X : Stand p l e R s m args below meth c T locs cells slots) (K : OCx p s m meth c Z own nm bytes maxL ret) {a : Addr} (hd : decode bytes pc = .ok (.arraylength, 1)) (pc' : Nat) (hp : pc + 1 = pc') (eT : T.heap = h) (A : OAo Z h a) (hr : OGo p e below Fn n0 Q (T.setTop (mkF m pc' Ls (.int (10 : Int32) :: St)))) : OGo p e below Fn n0 Q (T.setTop (mkF m pc Ls (.ref a :: St))) := by
  obtain ⟨⟨f, A⟩, -⟩ := A
  exact o_arraylength X K hd pc' hp eT A (v := (10 : Int32)) rfl hr
theorem o_aastore (X : Stand p l e R s m args below meth c T locs cells slots) (K : OCx p s m meth c Z own nm bytes maxL ret) {a y : Addr} {i : Nat} {j : Int32} (hd : decode bytes pc = .ok (.aastore, 1)) (pc' : Nat) (hp : pc + 1 = pc') (eT : T.heap = h) (A : OAo Z h a) (I : Ins Z h y "java/lang/Object" true) (hj : j.toInt = (i : Int)) (hi : i < 10) (N : Fr n0 locs) (ge : n0 ≤ a)
    (hr : ∀ T' h' locs', Stand p l e R s m args below meth c T' locs' cells slots → T'.heap = h' → Wr h h' a i (.ref y) → OAo Z h' a → Fr n0 locs' → OGo p e below Fn n0 Q (T'.setTop (mkF m pc' Ls St))) : OGo p e below Fn n0 Q (T.setTop (mkF m pc Ls (.ref y :: .int j :: .ref a :: St))) := by
  subst hp
  obtain ⟨⟨f, B⟩, cl0, g1, O⟩ := id A
  obtain ⟨cl, B, r1, r2, r3, -⟩ := B
  obtain ⟨q1, q2⟩ := o_idx (c := cl) hj hi r1
  cases g1.symm.trans B.1
  obtain ⟨T', h', X', e', W', st'⟩ := stR X K.hx K.hZ eT B (v := .ref y) q1 rfl (Sto.of B O I) (g := mkF m pc Ls (.ref y :: .int j :: .ref a :: St)) rfl rfl (hb K.hby hd)
  have N' := Fr.snoc X' N ge
  rw [q2] at W'
  exact OGo.st st' (hr T' h' _ X' e' W' (A.same W' rfl) N')
theorem o_invokeinterface (X : Stand p l e R s m args below meth c T locs cells slots) (K : OCx p s m meth c Z own nm bytes maxL ret) {index : Nat} {y : MethodName} {bytes' : ByteArray} {maxL' : Nat} {ret' : Option FieldType} {rm : Room} {Q' : Option Value → Heap → Prop} {C : String} {a : Addr} {xi : MethodName} {count : Nat} (hd : decode bytes pc = .ok (.invokeinterface index count, 5)) (pc' : Nat) (hp : pc + 5 = pc') (w1 : (Jvm.Cond.methodLink own index xi).before a0 Z = true) (w2 : (Jvm.Cond.declares xi).before a0 Z = true) (wf : (Jvm.Cond.interfaceMethod xi.cls xi.cls xi.name xi.desc).before a0 Z = true) (wsel : (Jvm.Cond.selects C xi y).before a0 Z = true) (w5 : (Jvm.Cond.instanceMethod y).before a0 Z = true) (wp : (Jvm.Cond.publicMethod y).before a0 Z = true) (wu : (Jvm.Cond.unhidden C xi.name xi.desc).before a0 Z = true) (wca : (Jvm.Cond.castable C xi.cls).before a0 Z = true) (w3 : (Jvm.Cond.initialized y.cls).before a0 Z = true) (w4 : (Jvm.Cond.code y bytes' maxL' ret').before a0 Z = true) (hy : xi.cls ≠ "java/lang/invoke/MethodHandle" ∧ xi.cls ≠ "java/lang/invoke/VarHandle")
    (E : Exa Z h a C) (argsL rest : List Value) (hst : St = argsL.reverse ++ .ref a :: rest) (con : OCon l Z n0 y bytes' maxL' ret' rm (.ref a :: argsL).toArray h Q') (eT : T.heap = h) (hsz : Ls.size = maxL) (hlen : ∀ sig, parseMethodDescriptor xi.desc = some sig → argsL.length = sig.parameters.length) (hf : rm.frames + 1 ≤ R.frames) (W : Nat) (hW : (rest.map fun v => v.category).sum ≤ W) (hlo : W + (maxL' + 11) + rm.locals ≤ R.locals) (hc : cells + rm.cells ≤ R.cells) (hs : slots + rm.slots ≤ R.slots) (N : Fr n0 locs)
    (hr : ∀ v T' h' locs', Stand p l e R s m args below meth c T' locs' (cells + rm.cells) (slots + rm.slots) → T'.heap = h' → Q' v h' → Fr n0 locs' → OGo p e below Fn n0 Q (T'.setTop (mkF m pc' Ls (v.toList ++ rest)))) : OGo p e below Fn n0 Q (T.setTop (mkF m pc Ls St)) := by
  subst hp hst
  obtain ⟨cq, kq, qa, qb, qc⟩ := isOf K.hZ eT E
  obtain ⟨v, vm₁, ⟨T', L', k', n'⟩, -, X', ⟨Lc, ⟨hQ, hF⟩, l1, y1, z1⟩, st⟩ := X.interfaceBack K.hx K.hown (mvT K.hZ w1) (mvT K.hZ w2) (mvT K.hZ wf (by simp [Cond.onTables, Cond.keepsFace, Cond.keeps, Cond.steady, Cond.faceAtom, hy.1, hy.2])) (mvT K.hZ wsel) (mvT K.hZ w5) (mvT K.hZ wp) (mvT K.hZ wu) (mvT K.hZ wca) hy (backOf (W := W) (Q := fun v h L => Q' v h ∧ Fr n0 L) (con []) K.hZ w4 w3 hf hlo) qa qb qc (g := mkF m pc Ls (argsL.reverse ++ .ref a :: rest)) rfl (by rw [K.hml]; exact hsz) (Steps.refl _) (argsL := argsL) (rest := rest) hlen rfl (by show 2 * 0 + _ ≤ _; omega) (hb K.hby hd) (fun _ _ => ⟨rfl, eT, hc, hs⟩)
  dsimp only [Pt.U, Pt.locs, Pt.cells, Pt.slots] at X' l1 y1 z1 st hQ
  subst l1 y1 z1
  exact OGo.st (fun t k => st.trans k) (hr v T' _ _ X' rfl hQ (Fr.app N hF))
/-- a body's contract, where it may intern String constants -/
def OConW (l : Launch) (Z : State) (n0 : Nat) (y : MethodName) (bytes : ByteArray) (maxL : Nat) (ret : Option FieldType) (rm : Room) (as : Array Value) (h0 : Heap) (Q : Option Value → Heap → Prop) : Prop :=
  ∀ ws, MetFree l y (head1 (Jvm.Cond.code y bytes maxL ret :: ws) rm) (fun a U => a = as ∧ Z.Warmed39 U.vm ∧ U.heap = h0) (fun _ _ _ _ _ => True) (fun _ U o U' => ∃ v L, o = .returned v ∧ (Q v U'.heap ∧ Fr n0 L) ∧ Jvm.ReturnedEndW U o U' L rm.cells rm.slots)
theorem OConW.of {y : MethodName} {rm : Room} {as : Array Value} {h0 : Heap} {Ls : Array Slot} (hpl : plainFor y = true) (ho : y.cls = own) (hn : y.name = nm) (hen : ∀ m, entryFrame m as maxL = mkF m 0 Ls [])
    (H : ∀ (p : Program) (e : Env) (s : State) (m : MethodId) (below : List Frame) (meth : Method) (c : Code) (T : State) (vm0 : Vm), Stand p l e rm (s.setVm vm0) m as below meth c T [] 0 0 → OCx p (s.setVm vm0) m meth c Z own nm bytes maxL ret → T.heap = h0 → s.Since vm0 h0.size → OGo p e below (OFinW s rm.cells rm.slots) n0 Q (T.setTop (mkF m 0 Ls []))) : OConW l Z n0 y bytes maxL ret rm as h0 Q := by
  intro ws
  refine MetFree.of_bodySF hpl hisR ?_
  intro p e s m args below meth c s₁ Bd hml0 hP hK
  obtain ⟨rfl, hZ, hh⟩ := hP
  subst ho hn
  obtain ⟨U, o, h1, r⟩ := H p e s m below meth c s₁ s.vm (Stand.of_body Bd) ⟨Bd.exec, hZ, Bd.bytes, hml0, findClass_of_methodNamed Bd.named, (name_of_methodNamed Bd.named Bd.method).1, Bd.returns, Bd.notSynchronized⟩ (by rw [← hh, Bd.state]; rfl) ((State.WarmedH.refl s).since _)
  exact ⟨U, o, castTop (hen m) h1, r⟩
theorem o_leaveW {vm0 : Vm} {k0 : Nat} (X : Stand p l e R (s.setVm vm0) m args below meth c T locs cells slots) (hS : s.Since vm0 k0) (eT : T.heap = h) (hk : k0 ≤ h.size) (hlk : meth.locks = false) {v : Option Value} (hv : meth.sig.returnType = none → v = none) {S : State} (hc : cells ≤ kc) (hs : slots ≤ ks) (N : Fr n0 locs) (hQ : Q v T.heap)
    (k : ∀ fs, (∀ (f : JFrame) (acts : List Action), f.method = m → f.locked = none → f.entered = [] → (doReturn e (T.setTop f) acts v).1 = T.setFrames fs) → Steps p.tables e below S (T.setFrames fs)) : OGo p e below (OFinW s kc ks) n0 Q S := by
  obtain ⟨fs, hr, hrun, hended, hW, hsame⟩ := X.leave (v := v) hv
  obtain ⟨a, b, c'⟩ := hS.ended (U := T.setFrames fs) hW (by show k0 ≤ T.heap.size; rw [eT]; exact hk) hsame
  exact ⟨_, _, k fs hr, hrun, hended, v, locs, rfl, ⟨hQ, N⟩, ⟨v, rfl⟩, a, b, c'.mono hc hs⟩
theorem o_ireturnW {vm0 : Vm} {k0 : Nat} (X : Stand p l e R (s.setVm vm0) m args below meth c T locs cells slots) (hS : s.Since vm0 k0) (eT : T.heap = h) (hk : k0 ≤ h.size) (K : OCx p (s.setVm vm0) m meth c Z own nm bytes maxL (some .int)) {z : Int32} (hd : decode bytes pc = .ok (.ireturn, 1)) (hc : cells ≤ kc) (hs : slots ≤ ks) (N : Fr n0 locs) (hQ : Q (some (.int z)) T.heap) : OGo p e below (OFinW s kc ks) n0 Q (T.setTop (mkF m pc Ls (.int z :: St))) :=
  o_leaveW X hS eT hk K.hlk (fun h => by rw [K.hret] at h; cases h) hc hs N hQ (fun fs hr => retI X K.hx K.hret (hb K.hby hd) hr)
theorem o_ireturnNW {t : FieldType} {vm0 : Vm} {k0 : Nat} (X : Stand p l e R (s.setVm vm0) m args below meth c T locs cells slots) (hS : s.Since vm0 k0) (eT : T.heap = h) (hk : k0 ≤ h.size) (K : OCx p (s.setVm vm0) m meth c Z own nm bytes maxL (some t)) (ht : t = .boolean ∨ t = .byte ∨ t = .char ∨ t = .short) {z : Int32} (hd : decode bytes pc = .ok (.ireturn, 1)) (hc : cells ≤ kc) (hs : slots ≤ ks) (N : Fr n0 locs) (hQ : Q (some (.int (nar t z))) T.heap) : OGo p e below (OFinW s kc ks) n0 Q (T.setTop (mkF m pc Ls (.int z :: St))) :=
  o_leaveW X hS eT hk K.hlk (fun h => by rw [K.hret] at h; cases h) hc hs N hQ (fun fs hr => retN X K.hx K.hret ht (hb K.hby hd) hr)
theorem o_areturnW {t : FieldType} {vm0 : Vm} {k0 : Nat} (X : Stand p l e R (s.setVm vm0) m args below meth c T locs cells slots) (hS : s.Since vm0 k0) (eT : T.heap = h) (hk : k0 ≤ h.size) (K : OCx p (s.setVm vm0) m meth c Z own nm bytes maxL (some t)) (ht : t.isReference = true) {z : Value} (hn : narrow t z = z) (hz : z.isRef = true) (hd : decode bytes pc = .ok (.areturn, 1)) (hc : cells ≤ kc) (hs : slots ≤ ks) (N : Fr n0 locs) (hQ : Q (some z) T.heap) : OGo p e below (OFinW s kc ks) n0 Q (T.setTop (mkF m pc Ls (z :: St))) :=
  o_leaveW X hS eT hk K.hlk (fun h => by rw [K.hret] at h; cases h) hc hs N hQ (fun fs hr => retOut X K.hx K.hret hn (Or.inr (Or.inr (Or.inr (Or.inr ⟨rfl, ht, hz⟩)))) (hb K.hby hd) hr)
theorem o_returnW {vm0 : Vm} {k0 : Nat} (X : Stand p l e R (s.setVm vm0) m args below meth c T locs cells slots) (hS : s.Since vm0 k0) (eT : T.heap = h) (hk : k0 ≤ h.size) (K : OCx p (s.setVm vm0) m meth c Z own nm bytes maxL (none)) (hd : decode bytes pc = .ok (.return_, 1)) (hc : cells ≤ kc) (hs : slots ≤ ks) (N : Fr n0 locs) (hQ : Q none T.heap) : OGo p e below (OFinW s kc ks) n0 Q (T.setTop (mkF m pc Ls [])) :=
  o_leaveW X hS eT hk K.hlk (fun _ => rfl) hc hs N hQ (fun fs hr => X.returnOut K.hx K.hret (hb K.hby hd) hr)
theorem o_ldcS {vm0 : Vm} {k0 : Nat} (X : Stand p l e R (s.setVm vm0) m args below meth c T locs cells slots) (K : OCx p (s.setVm vm0) m meth c Z own nm bytes maxL ret) {text : String} {index : Nat} (hS : s.Since vm0 k0) (hd : decode bytes pc = .ok (.ldc index, 2)) (pc' : Nat) (hp : pc + 2 = pc') (w : (Jvm.Cond.stringLink own index text).before a0 Z = true) (wS : ∀ a ∈ Bundle.stringAtoms, a.before a0 Z = true) (eT : T.heap = h) (hk : k0 ≤ h.size) (n : Nat) (hn : 4 * text.toList.length ≤ n) (hbig : n ≤ 536870912) (hc : cells + 2 ≤ R.cells) (hl : slots + (n + 4) ≤ R.slots)
    (hr : ∀ T' h' a k1, Stand p l e R (s.setVm T'.vm) m args below meth c T' locs (cells + 2) (slots + (n + 4)) → OCx p (s.setVm T'.vm) m meth c Z own nm bytes maxL ret → T'.heap = h' → Ext h h' → s.Since T'.vm k1 → k1 ≤ h'.size → OGo p e below Fn n0 Q (T'.setTop (mkF m pc' Ls (.ref a :: St)))) : OGo p e below Fn n0 Q (T.setTop (mkF m pc Ls St)) := by
  subst hp
  obtain ⟨a, T', h', k1, X', e', E', S', q', Z', o', st'⟩ := ldcS X K.hx K.hZ (own := own) (text := text) K.hown w wS eT hS hk (g := mkF m pc Ls St) rfl (hb K.hby hd) hn hbig hc hl
  exact OGo.st st' (hr T' h' a k1 X' ⟨K.hx, Z', K.hby, K.hml, o', K.hnm, K.hret, K.hlk⟩ e' E' S' q')
theorem o_backW {R : Room} {s : State} {y : MethodName} {bytes : ByteArray} {maxL : Nat} {ret : Option FieldType} {rm : Room} {len W : Nat} {as' : Array Value} {Q' : Option Value → Heap → Prop}
    (hM : OConW l Z n0 y bytes maxL ret rm as' h Q') (hZ : Z.Warmed39 s.vm) (wc : (Jvm.Cond.code y bytes maxL ret).before a0 Z = true) (wz : (Jvm.Cond.initialized y.cls).before a0 Z = true) (hf : rm.frames + 1 ≤ R.frames) (hl : W + (maxL + 11) + rm.locals ≤ R.locals) :
    BackS l R p e below s args y len W (fun A a => a = as' ∧ A.U.heap = h ∧ A.cells + rm.cells ≤ R.cells ∧ A.slots + rm.slots ≤ R.slots)
      (fun A _ v B => ∃ L, (Q' v B.U.heap ∧ Fr n0 L) ∧ B.locs = A.locs ++ L ∧ B.cells = A.cells + rm.cells ∧ B.slots = A.slots + rm.slots) :=
  BackS.of_freeW (bytes := bytes) (maxL := maxL) (ret := ret) (E := fun _ _ o t L k n => k = rm.cells ∧ n = rm.slots ∧ ∃ v, o = .returned v ∧ Q' v t.heap ∧ Fr n0 L) (hM []) hf hl
    (fun m meth c A a Y hp => have hU : Z.Warmed39 A.U.vm := wtrans hZ Y.warmed
      ⟨by show (Jvm.Cond.and _ .tt).before a A.U = true; rw [Cond.before_and, mv hU wc]; rfl, mv hU wc, mv hU wz, hp.2.2.1, hp.2.2.2⟩)
    (fun m meth c A a g mk Y hp => ⟨hp.1, wtrans hZ Y.warmed, hp.2.1⟩) (fun _ _ _ _ _ _ _ _ _ => trivial)
    (fun _ _ _ _ ⟨v, L, h1, h2, h3⟩ => ⟨L, _, _, h3, rfl, rfl, v, h1, h2⟩)
    (fun m meth c A a g mk v t L k n Y hp _ _ ⟨e1, e2, v', e3, e4⟩ => by cases e3; subst e1 e2; exact ⟨L, e4, rfl, rfl, rfl⟩)
theorem o_rebase {vm0 : Vm} {k0 k1 : Nat} {vm1 : Vm} (K : OCx p (s.setVm vm0) m meth c Z own nm bytes maxL ret) (hS : (s.setVm vm0).Since vm1 k1) : OCx p (s.setVm vm1) m meth c Z own nm bytes maxL ret :=
  ⟨K.hx, State.Warmed39.trans K.hZ hS.1, K.hby, K.hml, by have q := K.hown; have q2 : (s.setVm vm0).Warmed39 vm1 := hS.1; rw [← q2.alike.findClass] at q; exact q, K.hnm, K.hret, K.hlk⟩
theorem o_invokestaticW {vm0 : Vm} {k0 : Nat} (X : Stand p l e R (s.setVm vm0) m args below meth c T locs cells slots) (K : OCx p (s.setVm vm0) m meth c Z own nm bytes maxL ret) {index : Nat} {y : MethodName} {bytes' : ByteArray} {maxL' : Nat} {ret' : Option FieldType} {rm : Room} {Q' : Option Value → Heap → Prop} (hS : s.Since vm0 k0) (hk : k0 ≤ h.size) (hd : decode bytes pc = .ok (.invokestatic index, 3)) (pc' : Nat) (hp : pc + 3 = pc') (w1 : (Jvm.Cond.methodLink own index y).before a0 Z = true) (w2 : (Jvm.Cond.static y).before a0 Z = true) (w3 : (Jvm.Cond.initialized y.cls).before a0 Z = true) (w4 : (Jvm.Cond.code y bytes' maxL' ret').before a0 Z = true) (hy : y.cls ≠ "java/lang/invoke/MethodHandle" ∧ y.cls ≠ "java/lang/invoke/VarHandle")
    (argsL rest : List Value) (hst : St = argsL.reverse ++ rest) (con : OConW l Z n0 y bytes' maxL' ret' rm argsL.toArray h Q') (eT : T.heap = h) (hsz : Ls.size = maxL) (hlen : ∀ sig, parseMethodDescriptor y.desc = some sig → argsL.length = sig.parameters.length) (hf : rm.frames + 1 ≤ R.frames) (W : Nat) (hW : (rest.map fun v => v.category).sum ≤ W) (hlo : W + (maxL' + 11) + rm.locals ≤ R.locals) (hc : cells + rm.cells ≤ R.cells) (hs : slots + rm.slots ≤ R.slots) (N : Fr n0 locs)
    (hr : ∀ v T' h' locs' k1, Stand p l e R (s.setVm T'.vm) m args below meth c T' locs' (cells + rm.cells) (slots + rm.slots) → OCx p (s.setVm T'.vm) m meth c Z own nm bytes maxL ret → T'.heap = h' → s.Since T'.vm k1 → k1 ≤ h'.size → Q' v h' → Fr n0 locs' → OGo p e below Fn n0 Q (T'.setTop (mkF m pc' Ls (v.toList ++ rest)))) : OGo p e below Fn n0 Q (T.setTop (mkF m pc Ls St)) := by
  subst hp hst
  have w2' : (Jvm.Cond.static y).before args (s.setVm vm0) = true := mvT K.hZ w2
  have w4' : (Jvm.Cond.code y bytes' maxL' ret').before args (s.setVm vm0) = true := mvT K.hZ w4
  obtain ⟨mk, hnamed⟩ := Cond.named_of_code (x := y) w4'
  obtain ⟨methM, cM, hmethM, -, -, -, -, -, -, hsigM⟩ := Cond.code_spec hnamed w4'
  obtain ⟨v, vm₁, ⟨T', L', k', n'⟩, -, X', S', g', ⟨Lc, ⟨hQ, hF⟩, l1, y1, z1⟩, st⟩ := X.staticBackS K.hx K.hown (mvT K.hZ w1) w2' (mvT K.hZ w3) hnamed hmethM hsigM hy (o_backW (W := W) con K.hZ w4 w3 hf hlo) (g := mkF m pc Ls (argsL.reverse ++ rest)) rfl (by rw [K.hml]; exact hsz) (Steps.refl _) (argsL := argsL) (rest := rest) hlen rfl (by show 2 * 0 + _ ≤ _; omega) (hb K.hby hd) (fun _ _ => ⟨rfl, eT, hc, hs⟩)
  dsimp only [Pt.U, Pt.locs, Pt.cells, Pt.slots] at X' l1 y1 z1 st hQ S' g'
  subst l1 y1 z1
  rw [eT] at g'
  exact OGo.st (fun t k => st.trans k) (hr v T' _ _ _ X' (o_rebase K (k0 := k0) S') rfl (State.Since.trans hS S' (Nat.le_trans hk g')) (Nat.le_refl _) hQ (Fr.app N hF))
theorem o_invokevirtualW {vm0 : Vm} {k0 : Nat} (X : Stand p l e R (s.setVm vm0) m args below meth c T locs cells slots) (K : OCx p (s.setVm vm0) m meth c Z own nm bytes maxL ret) {index : Nat} {y : MethodName} {bytes' : ByteArray} {maxL' : Nat} {ret' : Option FieldType} {rm : Room} {Q' : Option Value → Heap → Prop} {C : String} {a : Addr} (hS : s.Since vm0 k0) (hk : k0 ≤ h.size) (hd : decode bytes pc = .ok (.invokevirtual index, 3)) (pc' : Nat) (hp : pc + 3 = pc') (w1 : (Jvm.Cond.methodLink own index y).before a0 Z = true) (w2 : (Jvm.Cond.declares y).before a0 Z = true) (wsel : (Jvm.Cond.selects C y y).before a0 Z = true) (w5 : (Jvm.Cond.instanceMethod y).before a0 Z = true) (w3 : (Jvm.Cond.initialized y.cls).before a0 Z = true) (w4 : (Jvm.Cond.code y bytes' maxL' ret').before a0 Z = true) (hy : y.cls ≠ "java/lang/invoke/MethodHandle" ∧ y.cls ≠ "java/lang/invoke/VarHandle")
    (E : Exa Z h a C) (argsL rest : List Value) (hst : St = argsL.reverse ++ .ref a :: rest) (con : OConW l Z n0 y bytes' maxL' ret' rm (.ref a :: argsL).toArray h Q') (eT : T.heap = h) (hsz : Ls.size = maxL) (hlen : ∀ sig, parseMethodDescriptor y.desc = some sig → argsL.length = sig.parameters.length) (hf : rm.frames + 1 ≤ R.frames) (W : Nat) (hW : (rest.map fun v => v.category).sum ≤ W) (hlo : W + (maxL' + 11) + rm.locals ≤ R.locals) (hc : cells + rm.cells ≤ R.cells) (hs : slots + rm.slots ≤ R.slots) (N : Fr n0 locs)
    (hr : ∀ v T' h' locs' k1, Stand p l e R (s.setVm T'.vm) m args below meth c T' locs' (cells + rm.cells) (slots + rm.slots) → OCx p (s.setVm T'.vm) m meth c Z own nm bytes maxL ret → T'.heap = h' → s.Since T'.vm k1 → k1 ≤ h'.size → Q' v h' → Fr n0 locs' → OGo p e below Fn n0 Q (T'.setTop (mkF m pc' Ls (v.toList ++ rest)))) : OGo p e below Fn n0 Q (T.setTop (mkF m pc Ls St)) := by
  subst hp hst
  obtain ⟨cq, kq, qa, qb, qc⟩ := isOf K.hZ eT E
  obtain ⟨v, vm₁, ⟨T', L', k', n'⟩, -, X', S', g', ⟨Lc, ⟨hQ, hF⟩, l1, y1, z1⟩, st⟩ := X.virtualBackS K.hx K.hown (mvT K.hZ w1) (mvT K.hZ w2) (notFace_of_selects (args := #[]) (mvT K.hZ wsel)) (mvT K.hZ wsel) (mvT K.hZ w5) hy (o_backW (W := W) con K.hZ w4 w3 hf hlo) qa qc (g := mkF m pc Ls (argsL.reverse ++ .ref a :: rest)) rfl (by rw [K.hml]; exact hsz) (Steps.refl _) (argsL := argsL) (rest := rest) hlen rfl (by show 2 * 0 + _ ≤ _; omega) (hb K.hby hd) (fun _ _ => ⟨rfl, eT, hc, hs⟩)
  dsimp only [Pt.U, Pt.locs, Pt.cells, Pt.slots] at X' l1 y1 z1 st hQ S' g'
  subst l1 y1 z1
  rw [eT] at g'
  exact OGo.st (fun t k => st.trans k) (hr v T' _ _ _ X' (o_rebase K (k0 := k0) S') rfl (State.Since.trans hS S' (Nat.le_trans hk g')) (Nat.le_refl _) hQ (Fr.app N hF))
abbrev OW (Z : State) (a0 : Array Value) : Prop := ∀ d ∈ tables_1, d.before a0 Z = true
end Own
section OwnStr
variable {p : Program} {l : Launch} {e : Env} {R : Room} {s : State} {m : MethodId} {args : Array Value} {below : List Frame} {meth : Method} {c : Code} {T : State} {locs : List Loc} {cells slots : Nat} {Z : State} {a0 : Array Value} {h h' : Heap} {n0 : Nat} {Q : Option Value → Heap → Prop} {kc ks : Nat} {Ls : Array Slot} {St : List Value} {pc : Nat} {own nm : String} {bytes : ByteArray} {maxL : Nat} {ret : Option FieldType}
theorem o_nc (x : Int32) : nar .char (x.toUInt32.toUInt16.toUInt32.toInt32) = x.toUInt32.toUInt16.toUInt32.toInt32 := by
  show x.toUInt32.toUInt16.toUInt32.toInt32.toUInt32.toUInt16.toUInt32.toInt32 = _
  rw [← Int32.toInt_inj]
  have q1 := c_i2c x
  have q2 := c_i2c (x.toUInt32.toUInt16.toUInt32.toInt32)
  omega
theorem o_and255 (x : Int32) : ¬ ((x &&& 255).toUInt32.toUInt16.toUInt32.toInt32) < 0 ∧ ¬ (255 : Int32) < ((x &&& 255).toUInt32.toUInt16.toUInt32.toInt32) := by
  have q1 := c_i2c (x &&& 255)
  have q2 : (x &&& 255).toInt = x.toInt % 256 := c_mask x 255 8 (by decide) (by decide)
  rw [Int32.lt_iff_toInt_lt, Int32.lt_iff_toInt_lt]
  have z0 : (0 : Int32).toInt = 0 := rfl
  have z1 : (255 : Int32).toInt = 255 := rfl
  omega
theorem o_chars {n : Nat} {f : Nat → Value} {cs : List Int32} (hn : cs.length = n) (hf : ∀ j, j < n → f j = .int (cs.getD j 0)) : ∀ i, (cs.map Value.int).getD i (.int 0) = ((List.range n).map f).getD i (.int 0) := by
  intro i
  by_cases hi : i < n
  · rw [o_getD hi, hf i hi]
    simp [List.getD_eq_getElem?_getD, List.getElem?_eq_getElem (show i < cs.length by omega)]
  · simp [List.getD_eq_getElem?_getD, List.getElem?_eq_none (show cs.length ≤ i by omega), hi]
theorem o_strinit (X : Stand p l e R s m args below meth c T locs cells slots) (K : OCx p s m meth c Z own nm bytes maxL ret) {index : Nat} {x b : Addr} {n kI : Nat} {f : Nat → Value} {cs : List Int32} {v0 c0 : Value} {z : Int32} (hd : decode bytes pc = .ok (.invokespecial index, 3)) (pc' : Nat) (hp : pc + 3 = pc') (w1 : (Jvm.Cond.methodLink own index ⟨"java/lang/String", "<init>", "([C)V"⟩).before a0 Z = true) (w2 : (Jvm.Cond.instanceMethod ⟨"java/lang/String", "<init>", "([C)V"⟩).before a0 Z = true) (w4 : (Jvm.Cond.code ⟨"java/lang/String", "<init>", "([C)V"⟩ jdk_42_method_3_code 2 none).before a0 Z = true)
    (hws : ∀ d ∈ StrChars.Road.words, d.before a0 Z = true) (wi : (Jvm.Cond.instantiable "java/lang/String" kI).before a0 Z = true) (eT : T.heap = h) (hz0 : n0 ≤ h.size) (gx : n0 ≤ x) (E : Exa Z h x "java/lang/String") (Vf : Fld Z h x "java/lang/String" "value" "[B" v0) (Cf : Fld Z h x "java/lang/String" "coder" "B" c0) (A : OAr Z h b .char n f) (S : Sta Z h "java/lang/String" "COMPACT_STRINGS" "Z" (.int z)) (hz : ¬ z = 0)
    (hn : cs.length = n) (hf : ∀ j, j < n → f j = .int (cs.getD j 0)) (l0 : 0 < n) (l2 : n ≤ 4000) (hcs : ∀ c ∈ cs, ¬ c < 0 ∧ ¬ (255 : Int32) < c) (hsz : Ls.size = maxL) (N : Fr n0 locs) (hfr : 4 ≤ R.frames) (W : Nat) (hW : (St.map fun v => v.category).sum ≤ W) (hlo : W + 65 ≤ R.locals) (hc : cells + 1 ≤ R.cells) (hs : slots + n ≤ R.slots)
    (hr : ∀ T' h' locs' t, Stand p l e R s m args below meth c T' locs' (cells + 1) (slots + n) → T'.heap = h' → Keep h h' [x] → Exa Z h' x "java/lang/String" → Fld Z h' x "java/lang/String" "coder" "B" (.int 0) → n0 ≤ t → h.size ≤ t → ¬ t = x → Fld Z h' x "java/lang/String" "value" "[B" (.ref t) → OAr Z h' t .byte n (fun j => .int ((cs.getD j 0).toInt8.toInt32)) → Fr n0 locs' → OGo p e below Fn n0 Q (T'.setTop (mkF m pc' Ls St))) : OGo p e below Fn n0 Q (T.setTop (mkF m pc Ls (.ref b :: .ref x :: St))) := by
  subst hp
  have la := A.len
  obtain ⟨ka, A'⟩ := A.arv (.int 0)
  have A2 := A'.pad (o_chars hn hf)
  obtain ⟨v, vm₁, ⟨T', L', k', n'⟩, -, X', ⟨Lc, hQ, l1, y1, z1⟩, st⟩ := X.specialBack K.hx (y := (⟨"java/lang/String", "<init>", "([C)V"⟩ : MethodName)) rfl K.hown (mvT K.hZ w1) (mvT K.hZ w2) (mvT K.hZ w4) (by decide) (StrChars.Road.backV (W := W) K.hZ hws wi gx hz0 E Vf Cf A2 S hz hn rfl l0 l2 hcs rfl hfr hlo) (g := mkF m pc Ls (.ref b :: .ref x :: St)) rfl (by rw [K.hml]; exact hsz) (Steps.refl _) (a := x) (argsL := [.ref b]) (rest := St) (lenOf (ps := [.array .char]) (r := none) (by decide +kernel) rfl) rfl (by show 2 * 0 + _ ≤ _; omega) (hb K.hby hd) (fun _ _ => ⟨rfl, eT, hc, hs⟩)
  dsimp only [Pt.U, Pt.locs, Pt.cells, Pt.slots] at X' l1 y1 z1 st hQ
  subst l1 y1 z1
  obtain ⟨rfl, F', K', E', C', t, kb, g1, g2, g3, V', B'⟩ := hQ
  refine OGo.st (fun t k => st.trans k) (hr T' _ _ t X' rfl K' E' C' g1 g2 g3 V' (OAr.of_arv la B' (fun j hj => ?_)) (Fr.app N F'))
  simp [List.getD_eq_getElem?_getD, List.getElem?_eq_getElem (show j < cs.length by omega)]
end OwnStr
set_option maxRecDepth 65536
theorem w_0 {Z : State} {a0 : Array Value} (hw : OW Z a0) : (Jvm.Cond.methodLink "com/example/dhole/dhole/event/ActorKindPinLaw" (26 : Nat) ({ cls := "com/example/dhole/dhole/event/ActorKindPinLaw", name := "pick", desc := "(I)Lcom/example/dhole/dhole/event/ActorKind;" } : Jvm.MethodName)).before a0 Z = true := hw _ (List.mem_of_getElem? (i := 0) rfl)
theorem w_1 {Z : State} {a0 : Array Value} (hw : OW Z a0) : (Jvm.Cond.static ({ cls := "com/example/dhole/dhole/event/ActorKindPinLaw", name := "pick", desc := "(I)Lcom/example/dhole/dhole/event/ActorKind;" } : Jvm.MethodName)).before a0 Z = true := hw _ (List.mem_of_getElem? (i := 1) rfl)
theorem w_2 {Z : State} {a0 : Array Value} (hw : OW Z a0) : (Jvm.Cond.initialized "com/example/dhole/dhole/event/ActorKindPinLaw").before a0 Z = true := hw _ (List.mem_of_getElem? (i := 2) rfl)
theorem w_3 {Z : State} {a0 : Array Value} (hw : OW Z a0) : (Jvm.Cond.code ({ cls := "com/example/dhole/dhole/event/ActorKindPinLaw", name := "pick", desc := "(I)Lcom/example/dhole/dhole/event/ActorKind;" } : Jvm.MethodName) method_2_code (2 : Nat) (Option.some (Jvm.ClassFile.FieldType.object "com/example/dhole/dhole/event/ActorKind"))).before a0 Z = true := hw _ (List.mem_of_getElem? (i := 3) rfl)
theorem w_4 {Z : State} {a0 : Array Value} (hw : OW Z a0) : (Jvm.Cond.constant "com/example/dhole/dhole/event/ActorKindPinLaw" (7 : Nat) (2147483647 : Int32)).before a0 Z = true := hw _ (List.mem_of_getElem? (i := 4) rfl)
theorem w_5 {Z : State} {a0 : Array Value} (hw : OW Z a0) : (Jvm.Cond.fieldLink "com/example/dhole/dhole/event/ActorKindPinLaw" (8 : Nat) "com/example/dhole/dhole/event/ActorKind" "ROOT" "Lcom/example/dhole/dhole/event/ActorKind;").before a0 Z = true := hw _ (List.mem_of_getElem? (i := 5) rfl)
theorem w_6 {Z : State} {a0 : Array Value} (hw : OW Z a0) : (Jvm.Cond.initialized "com/example/dhole/dhole/event/ActorKind").before a0 Z = true := hw _ (List.mem_of_getElem? (i := 6) rfl)
theorem w_7 {Z : State} {a0 : Array Value} (hw : OW Z a0) : (Jvm.Cond.laysStatic "com/example/dhole/dhole/event/ActorKind" "ROOT" "Lcom/example/dhole/dhole/event/ActorKind;").before a0 Z = true := hw _ (List.mem_of_getElem? (i := 7) rfl)
theorem w_8 {Z : State} {a0 : Array Value} (hw : OW Z a0) : (Jvm.Cond.fieldLink "com/example/dhole/dhole/event/ActorKindPinLaw" (20 : Nat) "com/example/dhole/dhole/event/ActorKind" "SERVICE" "Lcom/example/dhole/dhole/event/ActorKind;").before a0 Z = true := hw _ (List.mem_of_getElem? (i := 8) rfl)
theorem w_9 {Z : State} {a0 : Array Value} (hw : OW Z a0) : (Jvm.Cond.laysStatic "com/example/dhole/dhole/event/ActorKind" "SERVICE" "Lcom/example/dhole/dhole/event/ActorKind;").before a0 Z = true := hw _ (List.mem_of_getElem? (i := 9) rfl)
theorem w_10 {Z : State} {a0 : Array Value} (hw : OW Z a0) : (Jvm.Cond.arrayClass Jvm.ClassFile.FieldType.char).before a0 Z = true := hw _ (List.mem_of_getElem? (i := 10) rfl)
theorem w_11 {Z : State} {a0 : Array Value} (hw : OW Z a0) : (Jvm.Cond.classLink "com/example/dhole/dhole/event/ActorKindPinLaw" (32 : Nat) "java/lang/String").before a0 Z = true := hw _ (List.mem_of_getElem? (i := 11) rfl)
theorem w_12 {Z : State} {a0 : Array Value} (hw : OW Z a0) : (Jvm.Cond.instantiable "java/lang/String" (4 : Nat)).before a0 Z = true := hw _ (List.mem_of_getElem? (i := 12) rfl)
theorem w_13 {Z : State} {a0 : Array Value} (hw : OW Z a0) : (Jvm.Cond.initialized "java/lang/String").before a0 Z = true := hw _ (List.mem_of_getElem? (i := 13) rfl)
theorem w_14 {Z : State} {a0 : Array Value} (hw : OW Z a0) : (Jvm.Cond.methodLink "com/example/dhole/dhole/event/ActorKindPinLaw" (34 : Nat) ({ cls := "java/lang/String", name := "<init>", desc := "([C)V" } : Jvm.MethodName)).before a0 Z = true := hw _ (List.mem_of_getElem? (i := 14) rfl)
theorem w_15 {Z : State} {a0 : Array Value} (hw : OW Z a0) : (Jvm.Cond.instanceMethod ({ cls := "java/lang/String", name := "<init>", desc := "([C)V" } : Jvm.MethodName)).before a0 Z = true := hw _ (List.mem_of_getElem? (i := 15) rfl)
theorem w_16 {Z : State} {a0 : Array Value} (hw : OW Z a0) : (Jvm.Cond.code ({ cls := "java/lang/String", name := "<init>", desc := "([C)V" } : Jvm.MethodName) jdk_42_method_3_code (2 : Nat) (Option.none : Option Jvm.ClassFile.FieldType)).before a0 Z = true := hw _ (List.mem_of_getElem? (i := 16) rfl)
theorem w_22 {Z : State} {a0 : Array Value} (hw : OW Z a0) : (Jvm.Cond.instanceMethod ({ cls := "java/lang/Object", name := "<init>", desc := "()V" } : Jvm.MethodName)).before a0 Z = true := hw _ (List.mem_of_getElem? (i := 22) rfl)
theorem w_23 {Z : State} {a0 : Array Value} (hw : OW Z a0) : (Jvm.Cond.code ({ cls := "java/lang/Object", name := "<init>", desc := "()V" } : Jvm.MethodName) object_method_1_code (1 : Nat) (Option.none : Option Jvm.ClassFile.FieldType)).before a0 Z = true := hw _ (List.mem_of_getElem? (i := 23) rfl)
theorem w_37 {Z : State} {a0 : Array Value} (hw : OW Z a0) : (Jvm.Cond.laysFinal "java/lang/String" "java/lang/String" "coder" "B").before a0 Z = true := hw _ (List.mem_of_getElem? (i := 37) rfl)
theorem w_39 {Z : State} {a0 : Array Value} (hw : OW Z a0) : (Jvm.Cond.laysFinal "java/lang/String" "java/lang/String" "value" "[B").before a0 Z = true := hw _ (List.mem_of_getElem? (i := 39) rfl)
theorem w_40 {Z : State} {a0 : Array Value} (hw : OW Z a0) : (Jvm.Cond.classLink "com/example/dhole/dhole/event/ActorKindPinLaw" (37 : Nat) "com/example/dhole/dhole/event/Actor$Builder").before a0 Z = true := hw _ (List.mem_of_getElem? (i := 40) rfl)
theorem w_41 {Z : State} {a0 : Array Value} (hw : OW Z a0) : (Jvm.Cond.instantiable "com/example/dhole/dhole/event/Actor$Builder" (8 : Nat)).before a0 Z = true := hw _ (List.mem_of_getElem? (i := 41) rfl)
theorem w_42 {Z : State} {a0 : Array Value} (hw : OW Z a0) : (Jvm.Cond.initialized "com/example/dhole/dhole/event/Actor$Builder").before a0 Z = true := hw _ (List.mem_of_getElem? (i := 42) rfl)
theorem w_43 {Z : State} {a0 : Array Value} (hw : OW Z a0) : (Jvm.Cond.methodLink "com/example/dhole/dhole/event/ActorKindPinLaw" (39 : Nat) ({ cls := "com/example/dhole/dhole/event/Actor$Builder", name := "<init>", desc := "()V" } : Jvm.MethodName)).before a0 Z = true := hw _ (List.mem_of_getElem? (i := 43) rfl)
theorem w_44 {Z : State} {a0 : Array Value} (hw : OW Z a0) : (Jvm.Cond.instanceMethod ({ cls := "com/example/dhole/dhole/event/Actor$Builder", name := "<init>", desc := "()V" } : Jvm.MethodName)).before a0 Z = true := hw _ (List.mem_of_getElem? (i := 44) rfl)
theorem w_45 {Z : State} {a0 : Array Value} (hw : OW Z a0) : (Jvm.Cond.code ({ cls := "com/example/dhole/dhole/event/Actor$Builder", name := "<init>", desc := "()V" } : Jvm.MethodName) prog_5_method_1_code (1 : Nat) (Option.none : Option Jvm.ClassFile.FieldType)).before a0 Z = true := hw _ (List.mem_of_getElem? (i := 45) rfl)
theorem w_46 {Z : State} {a0 : Array Value} (hw : OW Z a0) : (Jvm.Cond.methodLink "com/example/dhole/dhole/event/Actor$Builder" (1 : Nat) ({ cls := "java/lang/Object", name := "<init>", desc := "()V" } : Jvm.MethodName)).before a0 Z = true := hw _ (List.mem_of_getElem? (i := 46) rfl)
theorem w_47 {Z : State} {a0 : Array Value} (hw : OW Z a0) : (Jvm.Cond.fieldLink "com/example/dhole/dhole/event/Actor$Builder" (7 : Nat) "com/example/dhole/dhole/event/ActorKind" "UNKNOWN" "Lcom/example/dhole/dhole/event/ActorKind;").before a0 Z = true := hw _ (List.mem_of_getElem? (i := 47) rfl)
theorem w_48 {Z : State} {a0 : Array Value} (hw : OW Z a0) : (Jvm.Cond.laysStatic "com/example/dhole/dhole/event/ActorKind" "UNKNOWN" "Lcom/example/dhole/dhole/event/ActorKind;").before a0 Z = true := hw _ (List.mem_of_getElem? (i := 48) rfl)
theorem w_49 {Z : State} {a0 : Array Value} (hw : OW Z a0) : (Jvm.Cond.fieldLink "com/example/dhole/dhole/event/Actor$Builder" (13 : Nat) "com/example/dhole/dhole/event/Actor$Builder" "kind" "Lcom/example/dhole/dhole/event/ActorKind;").before a0 Z = true := hw _ (List.mem_of_getElem? (i := 49) rfl)
theorem w_50 {Z : State} {a0 : Array Value} (hw : OW Z a0) : (Jvm.Cond.lays "com/example/dhole/dhole/event/Actor$Builder" "com/example/dhole/dhole/event/Actor$Builder" "kind" "Lcom/example/dhole/dhole/event/ActorKind;").before a0 Z = true := hw _ (List.mem_of_getElem? (i := 50) rfl)
theorem w_51 {Z : State} {a0 : Array Value} (hw : OW Z a0) : (Jvm.Cond.methodLink "com/example/dhole/dhole/event/ActorKindPinLaw" (40 : Nat) ({ cls := "com/example/dhole/dhole/event/Actor$Builder", name := "kind", desc := "(Lcom/example/dhole/dhole/event/ActorKind;)Lcom/example/dhole/dhole/event/Actor$Builder;" } : Jvm.MethodName)).before a0 Z = true := hw _ (List.mem_of_getElem? (i := 51) rfl)
theorem w_52 {Z : State} {a0 : Array Value} (hw : OW Z a0) : (Jvm.Cond.declares ({ cls := "com/example/dhole/dhole/event/Actor$Builder", name := "kind", desc := "(Lcom/example/dhole/dhole/event/ActorKind;)Lcom/example/dhole/dhole/event/Actor$Builder;" } : Jvm.MethodName)).before a0 Z = true := hw _ (List.mem_of_getElem? (i := 52) rfl)
theorem w_53 {Z : State} {a0 : Array Value} (hw : OW Z a0) : (Jvm.Cond.instanceMethod ({ cls := "com/example/dhole/dhole/event/Actor$Builder", name := "kind", desc := "(Lcom/example/dhole/dhole/event/ActorKind;)Lcom/example/dhole/dhole/event/Actor$Builder;" } : Jvm.MethodName)).before a0 Z = true := hw _ (List.mem_of_getElem? (i := 53) rfl)
theorem w_54 {Z : State} {a0 : Array Value} (hw : OW Z a0) : (Jvm.Cond.selects "com/example/dhole/dhole/event/Actor$Builder" ({ cls := "com/example/dhole/dhole/event/Actor$Builder", name := "kind", desc := "(Lcom/example/dhole/dhole/event/ActorKind;)Lcom/example/dhole/dhole/event/Actor$Builder;" } : Jvm.MethodName) ({ cls := "com/example/dhole/dhole/event/Actor$Builder", name := "kind", desc := "(Lcom/example/dhole/dhole/event/ActorKind;)Lcom/example/dhole/dhole/event/Actor$Builder;" } : Jvm.MethodName)).before a0 Z = true := hw _ (List.mem_of_getElem? (i := 54) rfl)
theorem w_55 {Z : State} {a0 : Array Value} (hw : OW Z a0) : (Jvm.Cond.code ({ cls := "com/example/dhole/dhole/event/Actor$Builder", name := "kind", desc := "(Lcom/example/dhole/dhole/event/ActorKind;)Lcom/example/dhole/dhole/event/Actor$Builder;" } : Jvm.MethodName) prog_5_method_2_code (2 : Nat) (Option.some (Jvm.ClassFile.FieldType.object "com/example/dhole/dhole/event/Actor$Builder"))).before a0 Z = true := hw _ (List.mem_of_getElem? (i := 55) rfl)
theorem w_56 {Z : State} {a0 : Array Value} (hw : OW Z a0) : (Jvm.Cond.stringLink "com/example/dhole/dhole/event/Actor$Builder" (18 : Nat) "kind").before a0 Z = true := hw _ (List.mem_of_getElem? (i := 56) rfl)
theorem w_59 {Z : State} {a0 : Array Value} (hw : OW Z a0) : (Jvm.Cond.methodLink "com/example/dhole/dhole/event/Actor$Builder" (19 : Nat) ({ cls := "java/util/Objects", name := "requireNonNull", desc := "(Ljava/lang/Object;Ljava/lang/String;)Ljava/lang/Object;" } : Jvm.MethodName)).before a0 Z = true := hw _ (List.mem_of_getElem? (i := 59) rfl)
theorem w_60 {Z : State} {a0 : Array Value} (hw : OW Z a0) : (Jvm.Cond.static ({ cls := "java/util/Objects", name := "requireNonNull", desc := "(Ljava/lang/Object;Ljava/lang/String;)Ljava/lang/Object;" } : Jvm.MethodName)).before a0 Z = true := hw _ (List.mem_of_getElem? (i := 60) rfl)
theorem w_61 {Z : State} {a0 : Array Value} (hw : OW Z a0) : (Jvm.Cond.initialized "java/util/Objects").before a0 Z = true := hw _ (List.mem_of_getElem? (i := 61) rfl)
theorem w_62 {Z : State} {a0 : Array Value} (hw : OW Z a0) : (Jvm.Cond.code ({ cls := "java/util/Objects", name := "requireNonNull", desc := "(Ljava/lang/Object;Ljava/lang/String;)Ljava/lang/Object;" } : Jvm.MethodName) jdk_31_method_11_code (2 : Nat) (Option.some (Jvm.ClassFile.FieldType.object "java/lang/Object"))).before a0 Z = true := hw _ (List.mem_of_getElem? (i := 62) rfl)
theorem w_63 {Z : State} {a0 : Array Value} (hw : OW Z a0) : (Jvm.Cond.classLink "com/example/dhole/dhole/event/Actor$Builder" (8 : Nat) "com/example/dhole/dhole/event/ActorKind").before a0 Z = true := hw _ (List.mem_of_getElem? (i := 63) rfl)
theorem w_65 {Z : State} {a0 : Array Value} (hw : OW Z a0) : (Jvm.Cond.methodLink "com/example/dhole/dhole/event/ActorKindPinLaw" (48 : Nat) ({ cls := "com/example/dhole/dhole/event/Actor$Builder", name := "build", desc := "()Lcom/example/dhole/dhole/event/Actor;" } : Jvm.MethodName)).before a0 Z = true := hw _ (List.mem_of_getElem? (i := 65) rfl)
theorem w_66 {Z : State} {a0 : Array Value} (hw : OW Z a0) : (Jvm.Cond.declares ({ cls := "com/example/dhole/dhole/event/Actor$Builder", name := "build", desc := "()Lcom/example/dhole/dhole/event/Actor;" } : Jvm.MethodName)).before a0 Z = true := hw _ (List.mem_of_getElem? (i := 66) rfl)
theorem w_67 {Z : State} {a0 : Array Value} (hw : OW Z a0) : (Jvm.Cond.instanceMethod ({ cls := "com/example/dhole/dhole/event/Actor$Builder", name := "build", desc := "()Lcom/example/dhole/dhole/event/Actor;" } : Jvm.MethodName)).before a0 Z = true := hw _ (List.mem_of_getElem? (i := 67) rfl)
theorem w_68 {Z : State} {a0 : Array Value} (hw : OW Z a0) : (Jvm.Cond.selects "com/example/dhole/dhole/event/Actor$Builder" ({ cls := "com/example/dhole/dhole/event/Actor$Builder", name := "build", desc := "()Lcom/example/dhole/dhole/event/Actor;" } : Jvm.MethodName) ({ cls := "com/example/dhole/dhole/event/Actor$Builder", name := "build", desc := "()Lcom/example/dhole/dhole/event/Actor;" } : Jvm.MethodName)).before a0 Z = true := hw _ (List.mem_of_getElem? (i := 68) rfl)
theorem w_69 {Z : State} {a0 : Array Value} (hw : OW Z a0) : (Jvm.Cond.code ({ cls := "com/example/dhole/dhole/event/Actor$Builder", name := "build", desc := "()Lcom/example/dhole/dhole/event/Actor;" } : Jvm.MethodName) prog_5_method_10_code (1 : Nat) (Option.some (Jvm.ClassFile.FieldType.object "com/example/dhole/dhole/event/Actor"))).before a0 Z = true := hw _ (List.mem_of_getElem? (i := 69) rfl)
theorem w_70 {Z : State} {a0 : Array Value} (hw : OW Z a0) : (Jvm.Cond.classLink "com/example/dhole/dhole/event/Actor$Builder" (49 : Nat) "com/example/dhole/dhole/event/Actor").before a0 Z = true := hw _ (List.mem_of_getElem? (i := 70) rfl)
theorem w_71 {Z : State} {a0 : Array Value} (hw : OW Z a0) : (Jvm.Cond.instantiable "com/example/dhole/dhole/event/Actor" (8 : Nat)).before a0 Z = true := hw _ (List.mem_of_getElem? (i := 71) rfl)
theorem w_72 {Z : State} {a0 : Array Value} (hw : OW Z a0) : (Jvm.Cond.initialized "com/example/dhole/dhole/event/Actor").before a0 Z = true := hw _ (List.mem_of_getElem? (i := 72) rfl)
theorem w_73 {Z : State} {a0 : Array Value} (hw : OW Z a0) : (Jvm.Cond.methodLinkNest "com/example/dhole/dhole/event/Actor$Builder" (51 : Nat) ({ cls := "com/example/dhole/dhole/event/Actor", name := "<init>", desc := "(Lcom/example/dhole/dhole/event/Actor$Builder;)V" } : Jvm.MethodName) "com/example/dhole/dhole/event/Actor").before a0 Z = true := hw _ (List.mem_of_getElem? (i := 73) rfl)
theorem w_74 {Z : State} {a0 : Array Value} (hw : OW Z a0) : (Jvm.Cond.instanceMethod ({ cls := "com/example/dhole/dhole/event/Actor", name := "<init>", desc := "(Lcom/example/dhole/dhole/event/Actor$Builder;)V" } : Jvm.MethodName)).before a0 Z = true := hw _ (List.mem_of_getElem? (i := 74) rfl)
theorem w_75 {Z : State} {a0 : Array Value} (hw : OW Z a0) : (Jvm.Cond.code ({ cls := "com/example/dhole/dhole/event/Actor", name := "<init>", desc := "(Lcom/example/dhole/dhole/event/Actor$Builder;)V" } : Jvm.MethodName) prog_4_method_1_code (2 : Nat) (Option.none : Option Jvm.ClassFile.FieldType)).before a0 Z = true := hw _ (List.mem_of_getElem? (i := 75) rfl)
theorem w_76 {Z : State} {a0 : Array Value} (hw : OW Z a0) : (Jvm.Cond.methodLink "com/example/dhole/dhole/event/Actor" (1 : Nat) ({ cls := "java/lang/Object", name := "<init>", desc := "()V" } : Jvm.MethodName)).before a0 Z = true := hw _ (List.mem_of_getElem? (i := 76) rfl)
theorem w_77 {Z : State} {a0 : Array Value} (hw : OW Z a0) : (Jvm.Cond.fieldRef "com/example/dhole/dhole/event/Actor" (7 : Nat) "com/example/dhole/dhole/event/Actor$Builder" "kind" "Lcom/example/dhole/dhole/event/ActorKind;").before a0 Z = true := hw _ (List.mem_of_getElem? (i := 77) rfl)
theorem w_78 {Z : State} {a0 : Array Value} (hw : OW Z a0) : (Jvm.Cond.fieldLink "com/example/dhole/dhole/event/Actor" (13 : Nat) "com/example/dhole/dhole/event/Actor" "kind" "Lcom/example/dhole/dhole/event/ActorKind;").before a0 Z = true := hw _ (List.mem_of_getElem? (i := 78) rfl)
theorem w_79 {Z : State} {a0 : Array Value} (hw : OW Z a0) : (Jvm.Cond.laysFinal "com/example/dhole/dhole/event/Actor" "com/example/dhole/dhole/event/Actor" "kind" "Lcom/example/dhole/dhole/event/ActorKind;").before a0 Z = true := hw _ (List.mem_of_getElem? (i := 79) rfl)
theorem w_80 {Z : State} {a0 : Array Value} (hw : OW Z a0) : (Jvm.Cond.fieldRef "com/example/dhole/dhole/event/Actor" (16 : Nat) "com/example/dhole/dhole/event/Actor$Builder" "type" "Ljava/lang/String;").before a0 Z = true := hw _ (List.mem_of_getElem? (i := 80) rfl)
theorem w_81 {Z : State} {a0 : Array Value} (hw : OW Z a0) : (Jvm.Cond.lays "com/example/dhole/dhole/event/Actor$Builder" "com/example/dhole/dhole/event/Actor$Builder" "type" "Ljava/lang/String;").before a0 Z = true := hw _ (List.mem_of_getElem? (i := 81) rfl)
theorem w_82 {Z : State} {a0 : Array Value} (hw : OW Z a0) : (Jvm.Cond.fieldLink "com/example/dhole/dhole/event/Actor" (20 : Nat) "com/example/dhole/dhole/event/Actor" "type" "Ljava/lang/String;").before a0 Z = true := hw _ (List.mem_of_getElem? (i := 82) rfl)
theorem w_83 {Z : State} {a0 : Array Value} (hw : OW Z a0) : (Jvm.Cond.laysFinal "com/example/dhole/dhole/event/Actor" "com/example/dhole/dhole/event/Actor" "type" "Ljava/lang/String;").before a0 Z = true := hw _ (List.mem_of_getElem? (i := 83) rfl)
theorem w_84 {Z : State} {a0 : Array Value} (hw : OW Z a0) : (Jvm.Cond.fieldRef "com/example/dhole/dhole/event/Actor" (21 : Nat) "com/example/dhole/dhole/event/Actor$Builder" "id" "Ljava/lang/String;").before a0 Z = true := hw _ (List.mem_of_getElem? (i := 84) rfl)
theorem w_85 {Z : State} {a0 : Array Value} (hw : OW Z a0) : (Jvm.Cond.lays "com/example/dhole/dhole/event/Actor$Builder" "com/example/dhole/dhole/event/Actor$Builder" "id" "Ljava/lang/String;").before a0 Z = true := hw _ (List.mem_of_getElem? (i := 85) rfl)
theorem w_86 {Z : State} {a0 : Array Value} (hw : OW Z a0) : (Jvm.Cond.fieldLink "com/example/dhole/dhole/event/Actor" (24 : Nat) "com/example/dhole/dhole/event/Actor" "id" "Ljava/lang/String;").before a0 Z = true := hw _ (List.mem_of_getElem? (i := 86) rfl)
theorem w_87 {Z : State} {a0 : Array Value} (hw : OW Z a0) : (Jvm.Cond.laysFinal "com/example/dhole/dhole/event/Actor" "com/example/dhole/dhole/event/Actor" "id" "Ljava/lang/String;").before a0 Z = true := hw _ (List.mem_of_getElem? (i := 87) rfl)
theorem w_88 {Z : State} {a0 : Array Value} (hw : OW Z a0) : (Jvm.Cond.fieldRef "com/example/dhole/dhole/event/Actor" (25 : Nat) "com/example/dhole/dhole/event/Actor$Builder" "account" "Ljava/lang/String;").before a0 Z = true := hw _ (List.mem_of_getElem? (i := 88) rfl)
theorem w_89 {Z : State} {a0 : Array Value} (hw : OW Z a0) : (Jvm.Cond.lays "com/example/dhole/dhole/event/Actor$Builder" "com/example/dhole/dhole/event/Actor$Builder" "account" "Ljava/lang/String;").before a0 Z = true := hw _ (List.mem_of_getElem? (i := 89) rfl)
theorem w_90 {Z : State} {a0 : Array Value} (hw : OW Z a0) : (Jvm.Cond.fieldLink "com/example/dhole/dhole/event/Actor" (28 : Nat) "com/example/dhole/dhole/event/Actor" "account" "Ljava/lang/String;").before a0 Z = true := hw _ (List.mem_of_getElem? (i := 90) rfl)
theorem w_91 {Z : State} {a0 : Array Value} (hw : OW Z a0) : (Jvm.Cond.laysFinal "com/example/dhole/dhole/event/Actor" "com/example/dhole/dhole/event/Actor" "account" "Ljava/lang/String;").before a0 Z = true := hw _ (List.mem_of_getElem? (i := 91) rfl)
theorem w_92 {Z : State} {a0 : Array Value} (hw : OW Z a0) : (Jvm.Cond.fieldRef "com/example/dhole/dhole/event/Actor" (29 : Nat) "com/example/dhole/dhole/event/Actor$Builder" "name" "Ljava/lang/String;").before a0 Z = true := hw _ (List.mem_of_getElem? (i := 92) rfl)
theorem w_93 {Z : State} {a0 : Array Value} (hw : OW Z a0) : (Jvm.Cond.lays "com/example/dhole/dhole/event/Actor$Builder" "com/example/dhole/dhole/event/Actor$Builder" "name" "Ljava/lang/String;").before a0 Z = true := hw _ (List.mem_of_getElem? (i := 93) rfl)
theorem w_94 {Z : State} {a0 : Array Value} (hw : OW Z a0) : (Jvm.Cond.fieldLink "com/example/dhole/dhole/event/Actor" (32 : Nat) "com/example/dhole/dhole/event/Actor" "name" "Ljava/lang/String;").before a0 Z = true := hw _ (List.mem_of_getElem? (i := 94) rfl)
theorem w_95 {Z : State} {a0 : Array Value} (hw : OW Z a0) : (Jvm.Cond.laysFinal "com/example/dhole/dhole/event/Actor" "com/example/dhole/dhole/event/Actor" "name" "Ljava/lang/String;").before a0 Z = true := hw _ (List.mem_of_getElem? (i := 95) rfl)
theorem w_96 {Z : State} {a0 : Array Value} (hw : OW Z a0) : (Jvm.Cond.fieldRef "com/example/dhole/dhole/event/Actor" (33 : Nat) "com/example/dhole/dhole/event/Actor$Builder" "accessKey" "Ljava/lang/String;").before a0 Z = true := hw _ (List.mem_of_getElem? (i := 96) rfl)
theorem w_97 {Z : State} {a0 : Array Value} (hw : OW Z a0) : (Jvm.Cond.lays "com/example/dhole/dhole/event/Actor$Builder" "com/example/dhole/dhole/event/Actor$Builder" "accessKey" "Ljava/lang/String;").before a0 Z = true := hw _ (List.mem_of_getElem? (i := 97) rfl)
theorem w_98 {Z : State} {a0 : Array Value} (hw : OW Z a0) : (Jvm.Cond.fieldLink "com/example/dhole/dhole/event/Actor" (36 : Nat) "com/example/dhole/dhole/event/Actor" "accessKey" "Ljava/lang/String;").before a0 Z = true := hw _ (List.mem_of_getElem? (i := 98) rfl)
theorem w_99 {Z : State} {a0 : Array Value} (hw : OW Z a0) : (Jvm.Cond.laysFinal "com/example/dhole/dhole/event/Actor" "com/example/dhole/dhole/event/Actor" "accessKey" "Ljava/lang/String;").before a0 Z = true := hw _ (List.mem_of_getElem? (i := 99) rfl)
theorem w_100 {Z : State} {a0 : Array Value} (hw : OW Z a0) : (Jvm.Cond.fieldRef "com/example/dhole/dhole/event/Actor" (37 : Nat) "com/example/dhole/dhole/event/Actor$Builder" "mfa" "Ljava/lang/Boolean;").before a0 Z = true := hw _ (List.mem_of_getElem? (i := 100) rfl)
theorem w_101 {Z : State} {a0 : Array Value} (hw : OW Z a0) : (Jvm.Cond.lays "com/example/dhole/dhole/event/Actor$Builder" "com/example/dhole/dhole/event/Actor$Builder" "mfa" "Ljava/lang/Boolean;").before a0 Z = true := hw _ (List.mem_of_getElem? (i := 101) rfl)
theorem w_102 {Z : State} {a0 : Array Value} (hw : OW Z a0) : (Jvm.Cond.fieldLink "com/example/dhole/dhole/event/Actor" (41 : Nat) "com/example/dhole/dhole/event/Actor" "mfa" "Ljava/lang/Boolean;").before a0 Z = true := hw _ (List.mem_of_getElem? (i := 102) rfl)
theorem w_103 {Z : State} {a0 : Array Value} (hw : OW Z a0) : (Jvm.Cond.laysFinal "com/example/dhole/dhole/event/Actor" "com/example/dhole/dhole/event/Actor" "mfa" "Ljava/lang/Boolean;").before a0 Z = true := hw _ (List.mem_of_getElem? (i := 103) rfl)
theorem w_104 {Z : State} {a0 : Array Value} (hw : OW Z a0) : (Jvm.Cond.fieldRef "com/example/dhole/dhole/event/Actor" (42 : Nat) "com/example/dhole/dhole/event/Actor$Builder" "sessionCreated" "Lcom/example/dhole/dhole/event/EventTime;").before a0 Z = true := hw _ (List.mem_of_getElem? (i := 104) rfl)
theorem w_105 {Z : State} {a0 : Array Value} (hw : OW Z a0) : (Jvm.Cond.lays "com/example/dhole/dhole/event/Actor$Builder" "com/example/dhole/dhole/event/Actor$Builder" "sessionCreated" "Lcom/example/dhole/dhole/event/EventTime;").before a0 Z = true := hw _ (List.mem_of_getElem? (i := 105) rfl)
theorem w_106 {Z : State} {a0 : Array Value} (hw : OW Z a0) : (Jvm.Cond.fieldLink "com/example/dhole/dhole/event/Actor" (46 : Nat) "com/example/dhole/dhole/event/Actor" "sessionCreated" "Lcom/example/dhole/dhole/event/EventTime;").before a0 Z = true := hw _ (List.mem_of_getElem? (i := 106) rfl)
theorem w_107 {Z : State} {a0 : Array Value} (hw : OW Z a0) : (Jvm.Cond.laysFinal "com/example/dhole/dhole/event/Actor" "com/example/dhole/dhole/event/Actor" "sessionCreated" "Lcom/example/dhole/dhole/event/EventTime;").before a0 Z = true := hw _ (List.mem_of_getElem? (i := 107) rfl)
theorem w_108 {Z : State} {a0 : Array Value} (hw : OW Z a0) : (Jvm.Cond.methodLink "com/example/dhole/dhole/event/ActorKindPinLaw" (52 : Nat) ({ cls := "com/example/dhole/dhole/event/Actor", name := "type", desc := "()Ljava/lang/String;" } : Jvm.MethodName)).before a0 Z = true := hw _ (List.mem_of_getElem? (i := 108) rfl)
theorem w_109 {Z : State} {a0 : Array Value} (hw : OW Z a0) : (Jvm.Cond.declares ({ cls := "com/example/dhole/dhole/event/Actor", name := "type", desc := "()Ljava/lang/String;" } : Jvm.MethodName)).before a0 Z = true := hw _ (List.mem_of_getElem? (i := 109) rfl)
theorem w_110 {Z : State} {a0 : Array Value} (hw : OW Z a0) : (Jvm.Cond.instanceMethod ({ cls := "com/example/dhole/dhole/event/Actor", name := "type", desc := "()Ljava/lang/String;" } : Jvm.MethodName)).before a0 Z = true := hw _ (List.mem_of_getElem? (i := 110) rfl)
theorem w_111 {Z : State} {a0 : Array Value} (hw : OW Z a0) : (Jvm.Cond.selects "com/example/dhole/dhole/event/Actor" ({ cls := "com/example/dhole/dhole/event/Actor", name := "type", desc := "()Ljava/lang/String;" } : Jvm.MethodName) ({ cls := "com/example/dhole/dhole/event/Actor", name := "type", desc := "()Ljava/lang/String;" } : Jvm.MethodName)).before a0 Z = true := hw _ (List.mem_of_getElem? (i := 111) rfl)
theorem w_112 {Z : State} {a0 : Array Value} (hw : OW Z a0) : (Jvm.Cond.code ({ cls := "com/example/dhole/dhole/event/Actor", name := "type", desc := "()Ljava/lang/String;" } : Jvm.MethodName) prog_4_method_3_code (1 : Nat) (Option.some (Jvm.ClassFile.FieldType.object "java/lang/String"))).before a0 Z = true := hw _ (List.mem_of_getElem? (i := 112) rfl)
theorem w_113 {Z : State} {a0 : Array Value} (hw : OW Z a0) : (Jvm.Cond.methodLink "com/example/dhole/dhole/event/ActorKindPinLaw" (61 : Nat) ({ cls := "com/example/dhole/dhole/event/Actor", name := "kind", desc := "()Lcom/example/dhole/dhole/event/ActorKind;" } : Jvm.MethodName)).before a0 Z = true := hw _ (List.mem_of_getElem? (i := 113) rfl)
theorem w_114 {Z : State} {a0 : Array Value} (hw : OW Z a0) : (Jvm.Cond.declares ({ cls := "com/example/dhole/dhole/event/Actor", name := "kind", desc := "()Lcom/example/dhole/dhole/event/ActorKind;" } : Jvm.MethodName)).before a0 Z = true := hw _ (List.mem_of_getElem? (i := 114) rfl)
theorem w_115 {Z : State} {a0 : Array Value} (hw : OW Z a0) : (Jvm.Cond.instanceMethod ({ cls := "com/example/dhole/dhole/event/Actor", name := "kind", desc := "()Lcom/example/dhole/dhole/event/ActorKind;" } : Jvm.MethodName)).before a0 Z = true := hw _ (List.mem_of_getElem? (i := 115) rfl)
theorem w_116 {Z : State} {a0 : Array Value} (hw : OW Z a0) : (Jvm.Cond.selects "com/example/dhole/dhole/event/Actor" ({ cls := "com/example/dhole/dhole/event/Actor", name := "kind", desc := "()Lcom/example/dhole/dhole/event/ActorKind;" } : Jvm.MethodName) ({ cls := "com/example/dhole/dhole/event/Actor", name := "kind", desc := "()Lcom/example/dhole/dhole/event/ActorKind;" } : Jvm.MethodName)).before a0 Z = true := hw _ (List.mem_of_getElem? (i := 116) rfl)
theorem w_117 {Z : State} {a0 : Array Value} (hw : OW Z a0) : (Jvm.Cond.code ({ cls := "com/example/dhole/dhole/event/Actor", name := "kind", desc := "()Lcom/example/dhole/dhole/event/ActorKind;" } : Jvm.MethodName) prog_4_method_2_code (1 : Nat) (Option.some (Jvm.ClassFile.FieldType.object "com/example/dhole/dhole/event/ActorKind"))).before a0 Z = true := hw _ (List.mem_of_getElem? (i := 117) rfl)
theorem w_118 {Z : State} {a0 : Array Value} (hw : OW Z a0) : (Jvm.Cond.methodLink "com/example/dhole/dhole/event/ActorKindPinLaw" (64 : Nat) ({ cls := "com/example/dhole/dhole/event/Actor", name := "mfa", desc := "()Ljava/lang/Boolean;" } : Jvm.MethodName)).before a0 Z = true := hw _ (List.mem_of_getElem? (i := 118) rfl)
theorem w_119 {Z : State} {a0 : Array Value} (hw : OW Z a0) : (Jvm.Cond.declares ({ cls := "com/example/dhole/dhole/event/Actor", name := "mfa", desc := "()Ljava/lang/Boolean;" } : Jvm.MethodName)).before a0 Z = true := hw _ (List.mem_of_getElem? (i := 119) rfl)
theorem w_120 {Z : State} {a0 : Array Value} (hw : OW Z a0) : (Jvm.Cond.instanceMethod ({ cls := "com/example/dhole/dhole/event/Actor", name := "mfa", desc := "()Ljava/lang/Boolean;" } : Jvm.MethodName)).before a0 Z = true := hw _ (List.mem_of_getElem? (i := 120) rfl)
theorem w_121 {Z : State} {a0 : Array Value} (hw : OW Z a0) : (Jvm.Cond.selects "com/example/dhole/dhole/event/Actor" ({ cls := "com/example/dhole/dhole/event/Actor", name := "mfa", desc := "()Ljava/lang/Boolean;" } : Jvm.MethodName) ({ cls := "com/example/dhole/dhole/event/Actor", name := "mfa", desc := "()Ljava/lang/Boolean;" } : Jvm.MethodName)).before a0 Z = true := hw _ (List.mem_of_getElem? (i := 121) rfl)
theorem w_122 {Z : State} {a0 : Array Value} (hw : OW Z a0) : (Jvm.Cond.code ({ cls := "com/example/dhole/dhole/event/Actor", name := "mfa", desc := "()Ljava/lang/Boolean;" } : Jvm.MethodName) prog_4_method_8_code (1 : Nat) (Option.some (Jvm.ClassFile.FieldType.object "java/lang/Boolean"))).before a0 Z = true := hw _ (List.mem_of_getElem? (i := 122) rfl)
theorem w_123 {Z : State} {a0 : Array Value} (hw : OW Z a0) : (Jvm.Cond.fieldLink "com/example/dhole/dhole/event/ActorKindPinLaw" (17 : Nat) "com/example/dhole/dhole/event/ActorKind" "ROLE" "Lcom/example/dhole/dhole/event/ActorKind;").before a0 Z = true := hw _ (List.mem_of_getElem? (i := 123) rfl)
theorem w_124 {Z : State} {a0 : Array Value} (hw : OW Z a0) : (Jvm.Cond.laysStatic "com/example/dhole/dhole/event/ActorKind" "ROLE" "Lcom/example/dhole/dhole/event/ActorKind;").before a0 Z = true := hw _ (List.mem_of_getElem? (i := 124) rfl)
theorem w_125 {Z : State} {a0 : Array Value} (hw : OW Z a0) : (Jvm.Cond.methodLink "com/example/dhole/dhole/event/ActorKindPinLaw" (44 : Nat) ({ cls := "com/example/dhole/dhole/event/Actor$Builder", name := "type", desc := "(Ljava/lang/String;)Lcom/example/dhole/dhole/event/Actor$Builder;" } : Jvm.MethodName)).before a0 Z = true := hw _ (List.mem_of_getElem? (i := 125) rfl)
theorem w_126 {Z : State} {a0 : Array Value} (hw : OW Z a0) : (Jvm.Cond.declares ({ cls := "com/example/dhole/dhole/event/Actor$Builder", name := "type", desc := "(Ljava/lang/String;)Lcom/example/dhole/dhole/event/Actor$Builder;" } : Jvm.MethodName)).before a0 Z = true := hw _ (List.mem_of_getElem? (i := 126) rfl)
theorem w_127 {Z : State} {a0 : Array Value} (hw : OW Z a0) : (Jvm.Cond.instanceMethod ({ cls := "com/example/dhole/dhole/event/Actor$Builder", name := "type", desc := "(Ljava/lang/String;)Lcom/example/dhole/dhole/event/Actor$Builder;" } : Jvm.MethodName)).before a0 Z = true := hw _ (List.mem_of_getElem? (i := 127) rfl)
theorem w_128 {Z : State} {a0 : Array Value} (hw : OW Z a0) : (Jvm.Cond.selects "com/example/dhole/dhole/event/Actor$Builder" ({ cls := "com/example/dhole/dhole/event/Actor$Builder", name := "type", desc := "(Ljava/lang/String;)Lcom/example/dhole/dhole/event/Actor$Builder;" } : Jvm.MethodName) ({ cls := "com/example/dhole/dhole/event/Actor$Builder", name := "type", desc := "(Ljava/lang/String;)Lcom/example/dhole/dhole/event/Actor$Builder;" } : Jvm.MethodName)).before a0 Z = true := hw _ (List.mem_of_getElem? (i := 128) rfl)
theorem w_129 {Z : State} {a0 : Array Value} (hw : OW Z a0) : (Jvm.Cond.code ({ cls := "com/example/dhole/dhole/event/Actor$Builder", name := "type", desc := "(Ljava/lang/String;)Lcom/example/dhole/dhole/event/Actor$Builder;" } : Jvm.MethodName) prog_5_method_3_code (2 : Nat) (Option.some (Jvm.ClassFile.FieldType.object "com/example/dhole/dhole/event/Actor$Builder"))).before a0 Z = true := hw _ (List.mem_of_getElem? (i := 129) rfl)
theorem w_130 {Z : State} {a0 : Array Value} (hw : OW Z a0) : (Jvm.Cond.fieldLink "com/example/dhole/dhole/event/Actor$Builder" (25 : Nat) "com/example/dhole/dhole/event/Actor$Builder" "type" "Ljava/lang/String;").before a0 Z = true := hw _ (List.mem_of_getElem? (i := 130) rfl)
theorem w_131 {Z : State} {a0 : Array Value} (hw : OW Z a0) : (Jvm.Cond.fieldLink "com/example/dhole/dhole/event/ActorKindPinLaw" (23 : Nat) "com/example/dhole/dhole/event/ActorKind" "UNKNOWN" "Lcom/example/dhole/dhole/event/ActorKind;").before a0 Z = true := hw _ (List.mem_of_getElem? (i := 131) rfl)
theorem w_132 {Z : State} {a0 : Array Value} (hw : OW Z a0) : (Jvm.Cond.methodLink "com/example/dhole/dhole/event/ActorKindPinLaw" (57 : Nat) ({ cls := "java/lang/String", name := "equals", desc := "(Ljava/lang/Object;)Z" } : Jvm.MethodName)).before a0 Z = true := hw _ (List.mem_of_getElem? (i := 132) rfl)
theorem w_133 {Z : State} {a0 : Array Value} (hw : OW Z a0) : (Jvm.Cond.declares ({ cls := "java/lang/String", name := "equals", desc := "(Ljava/lang/Object;)Z" } : Jvm.MethodName)).before a0 Z = true := hw _ (List.mem_of_getElem? (i := 133) rfl)
theorem w_134 {Z : State} {a0 : Array Value} (hw : OW Z a0) : (Jvm.Cond.instanceMethod ({ cls := "java/lang/String", name := "equals", desc := "(Ljava/lang/Object;)Z" } : Jvm.MethodName)).before a0 Z = true := hw _ (List.mem_of_getElem? (i := 134) rfl)
theorem w_135 {Z : State} {a0 : Array Value} (hw : OW Z a0) : (Jvm.Cond.selects "java/lang/String" ({ cls := "java/lang/String", name := "equals", desc := "(Ljava/lang/Object;)Z" } : Jvm.MethodName) ({ cls := "java/lang/String", name := "equals", desc := "(Ljava/lang/Object;)Z" } : Jvm.MethodName)).before a0 Z = true := hw _ (List.mem_of_getElem? (i := 135) rfl)
theorem w_136 {Z : State} {a0 : Array Value} (hw : OW Z a0) : (Jvm.Cond.code ({ cls := "java/lang/String", name := "equals", desc := "(Ljava/lang/Object;)Z" } : Jvm.MethodName) jdk_42_method_66_code (3 : Nat) (Option.some Jvm.ClassFile.FieldType.boolean)).before a0 Z = true := hw _ (List.mem_of_getElem? (i := 136) rfl)
theorem w_137 {Z : State} {a0 : Array Value} (hw : OW Z a0) : (Jvm.Cond.fieldLink "com/example/dhole/dhole/event/ActorKindPinLaw" (14 : Nat) "com/example/dhole/dhole/event/ActorKind" "USER" "Lcom/example/dhole/dhole/event/ActorKind;").before a0 Z = true := hw _ (List.mem_of_getElem? (i := 137) rfl)
theorem w_138 {Z : State} {a0 : Array Value} (hw : OW Z a0) : (Jvm.Cond.laysStatic "com/example/dhole/dhole/event/ActorKind" "USER" "Lcom/example/dhole/dhole/event/ActorKind;").before a0 Z = true := hw _ (List.mem_of_getElem? (i := 138) rfl)
theorem hws_ {Z : State} {a0 : Array Value} (hw : OW Z a0) : ∀ d ∈ StrChars.Road.words, d.before a0 Z = true := fun d hd => hw d ((by decide +kernel : ∀ d ∈ StrChars.Road.words, d ∈ tables_1) d hd)
theorem hwsS_ {Z : State} {a0 : Array Value} (hw : OW Z a0) : ∀ d ∈ Bundle.stringAtoms, d.before a0 Z = true := fun d hd => hw d ((by decide +kernel : ∀ d ∈ Bundle.stringAtoms, d ∈ tables_1) d hd)
theorem d1_0 : decode method_2_code 0 = .ok (.iload_n 0, 1) := by decide +kernel
theorem d1_1 : decode method_2_code 1 = .ok (.ldc 7, 2) := by decide +kernel
theorem d1_3 : decode method_2_code 3 = .ok (.iand, 1) := by decide +kernel
theorem d1_4 : decode method_2_code 4 = .ok (.iconst 5, 1) := by decide +kernel
theorem d1_5 : decode method_2_code 5 = .ok (.irem, 1) := by decide +kernel
theorem d1_6 : decode method_2_code 6 = .ok (.istore_n 1, 1) := by decide +kernel
theorem d1_7 : decode method_2_code 7 = .ok (.iload_n 1, 1) := by decide +kernel
theorem d1_8 : decode method_2_code 8 = .ok (.ifCond .ne 7, 3) := by decide +kernel
theorem d1_15 : decode method_2_code 15 = .ok (.iload_n 1, 1) := by decide +kernel
theorem d1_16 : decode method_2_code 16 = .ok (.iconst 1, 1) := by decide +kernel
theorem d1_17 : decode method_2_code 17 = .ok (.if_icmp .ne 7, 3) := by decide +kernel
theorem d1_24 : decode method_2_code 24 = .ok (.iload_n 1, 1) := by decide +kernel
theorem d1_25 : decode method_2_code 25 = .ok (.iconst 2, 1) := by decide +kernel
theorem d1_26 : decode method_2_code 26 = .ok (.if_icmp .ne 7, 3) := by decide +kernel
theorem d1_33 : decode method_2_code 33 = .ok (.iload_n 1, 1) := by decide +kernel
theorem d1_34 : decode method_2_code 34 = .ok (.iconst 3, 1) := by decide +kernel
theorem d1_35 : decode method_2_code 35 = .ok (.if_icmp .ne 7, 3) := by decide +kernel
theorem d1_42 : decode method_2_code 42 = .ok (.getstatic 23, 3) := by decide +kernel
theorem d1_45 : decode method_2_code 45 = .ok (.areturn, 1) := by decide +kernel
theorem d1_38 : decode method_2_code 38 = .ok (.getstatic 20, 3) := by decide +kernel
theorem d1_41 : decode method_2_code 41 = .ok (.areturn, 1) := by decide +kernel
theorem d1_29 : decode method_2_code 29 = .ok (.getstatic 17, 3) := by decide +kernel
theorem d1_32 : decode method_2_code 32 = .ok (.areturn, 1) := by decide +kernel
theorem d1_20 : decode method_2_code 20 = .ok (.getstatic 14, 3) := by decide +kernel
theorem d1_23 : decode method_2_code 23 = .ok (.areturn, 1) := by decide +kernel
theorem d1_11 : decode method_2_code 11 = .ok (.getstatic 8, 3) := by decide +kernel
theorem d1_14 : decode method_2_code 14 = .ok (.areturn, 1) := by decide +kernel
theorem pn_1 : plainFor (⟨"com/example/dhole/dhole/event/ActorKindPinLaw", "pick", "(I)Lcom/example/dhole/dhole/event/ActorKind;"⟩ : MethodName) = true := plainFor_of_name (by first | (simp [plainName, overriddenIn]; done) | decide +kernel)
set_option maxHeartbeats 4000000 in
theorem c_pick (l : Launch) (Z : State) (a0 : Array Value) (hw : OW Z a0) (n0 : Nat) (z : Int32) (r0 r1 r2 r3 r4 : Addr) (h0 : Heap) (Z0 : n0 ≤ h0.size) (S_ROOT : Sta Z h0 "com/example/dhole/dhole/event/ActorKind" "ROOT" "Lcom/example/dhole/dhole/event/ActorKind;" (.ref r0)) (S_USER : Sta Z h0 "com/example/dhole/dhole/event/ActorKind" "USER" "Lcom/example/dhole/dhole/event/ActorKind;" (.ref r1)) (S_ROLE : Sta Z h0 "com/example/dhole/dhole/event/ActorKind" "ROLE" "Lcom/example/dhole/dhole/event/ActorKind;" (.ref r2)) (S_SERVICE : Sta Z h0 "com/example/dhole/dhole/event/ActorKind" "SERVICE" "Lcom/example/dhole/dhole/event/ActorKind;" (.ref r3)) (S_UNKNOWN : Sta Z h0 "com/example/dhole/dhole/event/ActorKind" "UNKNOWN" "Lcom/example/dhole/dhole/event/ActorKind;" (.ref r4)) (E_r0 : Exa Z h0 r0 "com/example/dhole/dhole/event/ActorKind") (E_r1 : Exa Z h0 r1 "com/example/dhole/dhole/event/ActorKind") (E_r2 : Exa Z h0 r2 "com/example/dhole/dhole/event/ActorKind") (E_r3 : Exa Z h0 r3 "com/example/dhole/dhole/event/ActorKind") (E_r4 : Exa Z h0 r4 "com/example/dhole/dhole/event/ActorKind") :
    OCon l Z n0 (⟨"com/example/dhole/dhole/event/ActorKindPinLaw", "pick", "(I)Lcom/example/dhole/dhole/event/ActorKind;"⟩ : MethodName) method_2_code 2 (some (.object "com/example/dhole/dhole/event/ActorKind")) ({ frames := 0, cells := 0, slots := 0, locals := 0 } : Room) #[(.int z)] h0 (fun v h => ∃ r : Addr, v = some (.ref r) ∧ Exa Z h0 r "com/example/dhole/dhole/event/ActorKind" ∧ h = h0) := by
  refine OCon.of (Ls := #[.val (.int z), .unset]) pn_1 rfl rfl (fun m => by first | (simp [entryFrame, mkF, argsToLocals, Value.category]; done) | rfl) ?_
  intro p e s m below meth c T0 X0 K e0
  have N0 := Fr.nil n0
  refine o_iloadN X0 K d1_0 1 rfl rfl ?_
  refine o_ldcI X0 K d1_1 3 rfl (w_4 hw) ?_
  refine o_iand X0 K d1_3 4 rfl ?_
  refine o_iconst X0 K (5 : Int32) d1_4 5 rfl rfl ?_
  refine o_irem X0 K d1_5 6 rfl (by decide) ?_
  obtain ⟨k, h_k⟩ : ∃ z_ : Int32, z_ = ((z &&& (2147483647 : Int32)) % (5 : Int32)) := ⟨_, rfl⟩
  refine o_istoreN X0 K d1_6 7 rfl #[.val (.int z), .val (.int k)] h_k.symm rfl ?_
  refine o_iloadN X0 K d1_7 8 rfl rfl ?_
  refine o_if_ne X0 K d1_8 15 (by decide) (by decide) 11 rfl (fun hc8 => ?_) (fun hc8 => ?_)
  · refine o_iloadN X0 K d1_15 16 rfl rfl ?_
    refine o_iconst X0 K (1 : Int32) d1_16 17 rfl rfl ?_
    refine o_icmp_ne X0 K d1_17 24 (by decide) (by decide) 20 rfl (fun hc17 => ?_) (fun hc17 => ?_)
    · refine o_iloadN X0 K d1_24 25 rfl rfl ?_
      refine o_iconst X0 K (2 : Int32) d1_25 26 rfl rfl ?_
      refine o_icmp_ne X0 K d1_26 33 (by decide) (by decide) 29 rfl (fun hc26 => ?_) (fun hc26 => ?_)
      · refine o_iloadN X0 K d1_33 34 rfl rfl ?_
        refine o_iconst X0 K (3 : Int32) d1_34 35 rfl rfl ?_
        refine o_icmp_ne X0 K d1_35 42 (by decide) (by decide) 38 rfl (fun hc35 => ?_) (fun hc35 => ?_)
        · refine o_getstatic X0 K (host := "") d1_42 45 rfl (Or.inl (w_131 hw)) Via.refl e0 S_UNKNOWN ?_
          intro T_1 X_1 e_1
          refine o_areturn X_1 K rfl rfl rfl d1_45 (by decide) (by decide) N0 ?_
          exact ⟨_, rfl, E_r4, e_1⟩
        · refine o_getstatic X0 K (host := "") d1_38 41 rfl (Or.inl (w_8 hw)) Via.refl e0 S_SERVICE ?_
          intro T_2 X_2 e_2
          refine o_areturn X_2 K rfl rfl rfl d1_41 (by decide) (by decide) N0 ?_
          exact ⟨_, rfl, E_r3, e_2⟩
      · refine o_getstatic X0 K (host := "") d1_29 32 rfl (Or.inl (w_123 hw)) Via.refl e0 S_ROLE ?_
        intro T_3 X_3 e_3
        refine o_areturn X_3 K rfl rfl rfl d1_32 (by decide) (by decide) N0 ?_
        exact ⟨_, rfl, E_r2, e_3⟩
    · refine o_getstatic X0 K (host := "") d1_20 23 rfl (Or.inl (w_137 hw)) Via.refl e0 S_USER ?_
      intro T_4 X_4 e_4
      refine o_areturn X_4 K rfl rfl rfl d1_23 (by decide) (by decide) N0 ?_
      exact ⟨_, rfl, E_r1, e_4⟩
  · refine o_getstatic X0 K (host := "") d1_11 14 rfl (Or.inl (w_5 hw)) Via.refl e0 S_ROOT ?_
    intro T_5 X_5 e_5
    refine o_areturn X_5 K rfl rfl rfl d1_14 (by decide) (by decide) N0 ?_
    exact ⟨_, rfl, E_r0, e_5⟩
theorem d8_0 : decode prog_5_method_1_code 0 = .ok (.aload_n 0, 1) := by decide +kernel
theorem d8_1 : decode prog_5_method_1_code 1 = .ok (.invokespecial 1, 3) := by decide +kernel
theorem d8_4 : decode prog_5_method_1_code 4 = .ok (.aload_n 0, 1) := by decide +kernel
theorem d8_5 : decode prog_5_method_1_code 5 = .ok (.getstatic 7, 3) := by decide +kernel
theorem d8_8 : decode prog_5_method_1_code 8 = .ok (.putfield 13, 3) := by decide +kernel
theorem d8_11 : decode prog_5_method_1_code 11 = .ok (.return_, 1) := by decide +kernel
theorem pn_8 : plainFor (⟨"com/example/dhole/dhole/event/Actor$Builder", "<init>", "()V"⟩ : MethodName) = true := plainFor_of_name (by first | (simp [plainName, overriddenIn]; done) | decide +kernel)
set_option maxHeartbeats 4000000 in
theorem c_binit (l : Launch) (Z : State) (a0 : Array Value) (hw : OW Z a0) (n0 : Nat) (a r4 : Addr) (h0 : Heap) (Z0 : n0 ≤ h0.size) (S_UNKNOWN : Sta Z h0 "com/example/dhole/dhole/event/ActorKind" "UNKNOWN" "Lcom/example/dhole/dhole/event/ActorKind;" (.ref r4)) (E_a : Exa Z h0 a "com/example/dhole/dhole/event/Actor$Builder") (F_a_kind : Fld Z h0 a "com/example/dhole/dhole/event/Actor$Builder" "kind" "Lcom/example/dhole/dhole/event/ActorKind;" .null) (F_a_type : Fld Z h0 a "com/example/dhole/dhole/event/Actor$Builder" "type" "Ljava/lang/String;" .null) (F_a_id : Fld Z h0 a "com/example/dhole/dhole/event/Actor$Builder" "id" "Ljava/lang/String;" .null) (F_a_account : Fld Z h0 a "com/example/dhole/dhole/event/Actor$Builder" "account" "Ljava/lang/String;" .null) (F_a_name : Fld Z h0 a "com/example/dhole/dhole/event/Actor$Builder" "name" "Ljava/lang/String;" .null) (F_a_accessKey : Fld Z h0 a "com/example/dhole/dhole/event/Actor$Builder" "accessKey" "Ljava/lang/String;" .null) (F_a_mfa : Fld Z h0 a "com/example/dhole/dhole/event/Actor$Builder" "mfa" "Ljava/lang/Boolean;" .null) (F_a_sessionCreated : Fld Z h0 a "com/example/dhole/dhole/event/Actor$Builder" "sessionCreated" "Lcom/example/dhole/dhole/event/EventTime;" .null) (g_a : n0 ≤ a) :
    OCon l Z n0 (⟨"com/example/dhole/dhole/event/Actor$Builder", "<init>", "()V"⟩ : MethodName) prog_5_method_1_code 1 none ({ frames := 1, cells := 0, slots := 0, locals := 12 } : Room) #[(.ref a)] h0 (fun v h => v = none ∧ Keep h0 h [a] ∧ Exa Z h a "com/example/dhole/dhole/event/Actor$Builder" ∧ Fld Z h a "com/example/dhole/dhole/event/Actor$Builder" "kind" "Lcom/example/dhole/dhole/event/ActorKind;" (.ref r4) ∧ Fld Z h a "com/example/dhole/dhole/event/Actor$Builder" "type" "Ljava/lang/String;" .null ∧ Fld Z h a "com/example/dhole/dhole/event/Actor$Builder" "id" "Ljava/lang/String;" .null ∧ Fld Z h a "com/example/dhole/dhole/event/Actor$Builder" "account" "Ljava/lang/String;" .null ∧ Fld Z h a "com/example/dhole/dhole/event/Actor$Builder" "name" "Ljava/lang/String;" .null ∧ Fld Z h a "com/example/dhole/dhole/event/Actor$Builder" "accessKey" "Ljava/lang/String;" .null ∧ Fld Z h a "com/example/dhole/dhole/event/Actor$Builder" "mfa" "Ljava/lang/Boolean;" .null ∧ Fld Z h a "com/example/dhole/dhole/event/Actor$Builder" "sessionCreated" "Lcom/example/dhole/dhole/event/EventTime;" .null) := by
  refine OCon.of (Ls := #[.val (.ref a)]) pn_8 rfl rfl (fun m => by first | (simp [entryFrame, mkF, argsToLocals, Value.category]; done) | rfl) ?_
  intro p e s m below meth c T0 X0 K e0
  have N0 := Fr.nil n0
  have KK0 := Keep.refl h0 [a]
  refine o_aloadN X0 K d8_0 1 rfl rfl rfl ?_
  refine o_initO X0 K d8_1 4 rfl (w_46 hw) (w_22 hw) (w_23 hw) e0 rfl (by decide) 0 (Nat.le_of_eq rfl) (by decide) ?_
  intro T_6 X_6 e_6
  refine o_aloadN X_6 K d8_4 5 rfl rfl rfl ?_
  refine o_getstatic X_6 K (host := "") d8_5 8 rfl (Or.inl (w_47 hw)) Via.refl e_6 S_UNKNOWN ?_
  intro T_7 X_7 e_7
  refine o_putfield X_7 K (host := "") (ty := (.object "com/example/dhole/dhole/event/ActorKind")) d8_8 11 rfl (Or.inl (w_49 hw)) Via.refl e_7 F_a_kind E_a (Or.inl (w_50 hw)) (w_41 hw) (by decide) rfl rfl N0 g_a ?_
  intro T_8 h_8 locs_8 X_8 e_8 W_8 N_8
  have Z_8 : n0 ≤ h_8.size := by rw [Wr.size W_8]; exact Z0
  have K_8 := KK0.wr W_8 (Or.inl (by simp))
  have f_9 := Sta.wr W_8 S_UNKNOWN
  have f_10 := Exa.wr W_8 E_a
  have f_11 := Fld.same W_8 F_a_kind
  have f_12 := Fld.other W_8 F_a_type (Or.inr (slot_ne (Or.inl (w_81 hw)) (Or.inl (w_50 hw)) (by decide) (t := (.object "java/lang/String")) (t' := (.object "com/example/dhole/dhole/event/ActorKind")) (by decide) (by decide)))
  have f_13 := Fld.other W_8 F_a_id (Or.inr (slot_ne (Or.inl (w_85 hw)) (Or.inl (w_50 hw)) (by decide) (t := (.object "java/lang/String")) (t' := (.object "com/example/dhole/dhole/event/ActorKind")) (by decide) (by decide)))
  have f_14 := Fld.other W_8 F_a_account (Or.inr (slot_ne (Or.inl (w_89 hw)) (Or.inl (w_50 hw)) (by decide) (t := (.object "java/lang/String")) (t' := (.object "com/example/dhole/dhole/event/ActorKind")) (by decide) (by decide)))
  have f_15 := Fld.other W_8 F_a_name (Or.inr (slot_ne (Or.inl (w_93 hw)) (Or.inl (w_50 hw)) (by decide) (t := (.object "java/lang/String")) (t' := (.object "com/example/dhole/dhole/event/ActorKind")) (by decide) (by decide)))
  have f_16 := Fld.other W_8 F_a_accessKey (Or.inr (slot_ne (Or.inl (w_97 hw)) (Or.inl (w_50 hw)) (by decide) (t := (.object "java/lang/String")) (t' := (.object "com/example/dhole/dhole/event/ActorKind")) (by decide) (by decide)))
  have f_17 := Fld.other W_8 F_a_mfa (Or.inr (slot_ne (Or.inl (w_101 hw)) (Or.inl (w_50 hw)) (by decide) (t := (.object "java/lang/Boolean")) (t' := (.object "com/example/dhole/dhole/event/ActorKind")) (by decide) (by decide)))
  have f_18 := Fld.other W_8 F_a_sessionCreated (Or.inr (slot_ne (Or.inl (w_105 hw)) (Or.inl (w_50 hw)) (by decide) (t := (.object "com/example/dhole/dhole/event/EventTime")) (t' := (.object "com/example/dhole/dhole/event/ActorKind")) (by decide) (by decide)))
  refine o_return X_8 K d8_11 (by decide) (by decide) N_8 ?_
  rw [e_8]
  exact ⟨rfl, K_8, f_10, f_11, f_12, f_13, f_14, f_15, f_16, f_17, f_18⟩
theorem d10_0 : decode jdk_31_method_11_code 0 = .ok (.aload_n 0, 1) := by decide +kernel
theorem d10_1 : decode jdk_31_method_11_code 1 = .ok (.ifnonnull 12, 3) := by decide +kernel
theorem d10_13 : decode jdk_31_method_11_code 13 = .ok (.aload_n 0, 1) := by decide +kernel
theorem d10_14 : decode jdk_31_method_11_code 14 = .ok (.areturn, 1) := by decide +kernel
theorem pn_10 : plainFor (⟨"java/util/Objects", "requireNonNull", "(Ljava/lang/Object;Ljava/lang/String;)Ljava/lang/Object;"⟩ : MethodName) = true := plainFor_of_name (by first | (simp [plainName, overriddenIn]; done) | decide +kernel)
set_option maxHeartbeats 4000000 in
theorem c_rnn (l : Launch) (Z : State) (a0 : Array Value) (hw : OW Z a0) (n0 : Nat) (k t : Addr) (h0 : Heap) (Z0 : n0 ≤ h0.size) :
    OCon l Z n0 (⟨"java/util/Objects", "requireNonNull", "(Ljava/lang/Object;Ljava/lang/String;)Ljava/lang/Object;"⟩ : MethodName) jdk_31_method_11_code 2 (some (.object "java/lang/Object")) ({ frames := 0, cells := 0, slots := 0, locals := 0 } : Room) #[(.ref k), (.ref t)] h0 (fun v h => v = some (.ref k) ∧ h = h0) := by
  refine OCon.of (Ls := #[.val (.ref k), .val (.ref t)]) pn_10 rfl rfl (fun m => by first | (simp [entryFrame, mkF, argsToLocals, Value.category]; done) | rfl) ?_
  intro p e s m below meth c T0 X0 K e0
  have N0 := Fr.nil n0
  refine o_aloadN X0 K d10_0 1 rfl rfl rfl ?_
  refine o_ifnonnull_t X0 K d10_1 13 (by decide) (by decide) ?_
  refine o_aloadN X0 K d10_13 14 rfl rfl rfl ?_
  refine o_areturn X0 K rfl rfl rfl d10_14 (by decide) (by decide) N0 ?_
  exact ⟨rfl, e0⟩
theorem d9_0 : decode prog_5_method_2_code 0 = .ok (.aload_n 0, 1) := by decide +kernel
theorem d9_1 : decode prog_5_method_2_code 1 = .ok (.aload_n 1, 1) := by decide +kernel
theorem d9_2 : decode prog_5_method_2_code 2 = .ok (.ldc 18, 2) := by decide +kernel
theorem d9_4 : decode prog_5_method_2_code 4 = .ok (.invokestatic 19, 3) := by decide +kernel
theorem pd__Ljava_lang_Object_Ljava_lang_String__Ljava_lang_Object_ : parseMethodDescriptor "(Ljava/lang/Object;Ljava/lang/String;)Ljava/lang/Object;" = some ⟨[(.object "java/lang/Object"), (.object "java/lang/String")], some (.object "java/lang/Object")⟩ := by decide +kernel
theorem d9_7 : decode prog_5_method_2_code 7 = .ok (.checkcast 8, 3) := by decide +kernel
theorem d9_10 : decode prog_5_method_2_code 10 = .ok (.putfield 13, 3) := by decide +kernel
theorem d9_13 : decode prog_5_method_2_code 13 = .ok (.aload_n 0, 1) := by decide +kernel
theorem d9_14 : decode prog_5_method_2_code 14 = .ok (.areturn, 1) := by decide +kernel
theorem pn_9 : plainFor (⟨"com/example/dhole/dhole/event/Actor$Builder", "kind", "(Lcom/example/dhole/dhole/event/ActorKind;)Lcom/example/dhole/dhole/event/Actor$Builder;"⟩ : MethodName) = true := plainFor_of_name (by first | (simp [plainName, overriddenIn]; done) | decide +kernel)
set_option maxHeartbeats 4000000 in
theorem c_kind0 (l : Launch) (Z : State) (a0 : Array Value) (hw : OW Z a0) (n0 : Nat) (a k0 k : Addr) (h0 : Heap) (Z0 : n0 ≤ h0.size) (E_a : Exa Z h0 a "com/example/dhole/dhole/event/Actor$Builder") (F_a_kind : Fld Z h0 a "com/example/dhole/dhole/event/Actor$Builder" "kind" "Lcom/example/dhole/dhole/event/ActorKind;" (.ref k0)) (F_a_type : Fld Z h0 a "com/example/dhole/dhole/event/Actor$Builder" "type" "Ljava/lang/String;" .null) (F_a_id : Fld Z h0 a "com/example/dhole/dhole/event/Actor$Builder" "id" "Ljava/lang/String;" .null) (F_a_account : Fld Z h0 a "com/example/dhole/dhole/event/Actor$Builder" "account" "Ljava/lang/String;" .null) (F_a_name : Fld Z h0 a "com/example/dhole/dhole/event/Actor$Builder" "name" "Ljava/lang/String;" .null) (F_a_accessKey : Fld Z h0 a "com/example/dhole/dhole/event/Actor$Builder" "accessKey" "Ljava/lang/String;" .null) (F_a_mfa : Fld Z h0 a "com/example/dhole/dhole/event/Actor$Builder" "mfa" "Ljava/lang/Boolean;" .null) (F_a_sessionCreated : Fld Z h0 a "com/example/dhole/dhole/event/Actor$Builder" "sessionCreated" "Lcom/example/dhole/dhole/event/EventTime;" .null) (g_a : n0 ≤ a) (E_k : Exa Z h0 k "com/example/dhole/dhole/event/ActorKind") :
    OConW l Z n0 (⟨"com/example/dhole/dhole/event/Actor$Builder", "kind", "(Lcom/example/dhole/dhole/event/ActorKind;)Lcom/example/dhole/dhole/event/Actor$Builder;"⟩ : MethodName) prog_5_method_2_code 2 (some (.object "com/example/dhole/dhole/event/Actor$Builder")) ({ frames := 1, cells := 2, slots := 20, locals := 14 } : Room) #[(.ref a), (.ref k)] h0 (fun v h => v = some (.ref a) ∧ Keep h0 h [a] ∧ Exa Z h a "com/example/dhole/dhole/event/Actor$Builder" ∧ Fld Z h a "com/example/dhole/dhole/event/Actor$Builder" "kind" "Lcom/example/dhole/dhole/event/ActorKind;" (.ref k) ∧ Fld Z h a "com/example/dhole/dhole/event/Actor$Builder" "type" "Ljava/lang/String;" .null ∧ Fld Z h a "com/example/dhole/dhole/event/Actor$Builder" "id" "Ljava/lang/String;" .null ∧ Fld Z h a "com/example/dhole/dhole/event/Actor$Builder" "account" "Ljava/lang/String;" .null ∧ Fld Z h a "com/example/dhole/dhole/event/Actor$Builder" "name" "Ljava/lang/String;" .null ∧ Fld Z h a "com/example/dhole/dhole/event/Actor$Builder" "accessKey" "Ljava/lang/String;" .null ∧ Fld Z h a "com/example/dhole/dhole/event/Actor$Builder" "mfa" "Ljava/lang/Boolean;" .null ∧ Fld Z h a "com/example/dhole/dhole/event/Actor$Builder" "sessionCreated" "Lcom/example/dhole/dhole/event/EventTime;" .null) := by
  refine OConW.of (Ls := #[.val (.ref a), .val (.ref k)]) pn_9 rfl rfl (fun m => by first | (simp [entryFrame, mkF, argsToLocals, Value.category]; done) | rfl) ?_
  intro p e s m below meth c T0 vm0 X0 K e0 hS0
  have hk0 : h0.size ≤ h0.size := Nat.le_refl _
  have N0 := Fr.nil n0
  have KK0 := Keep.refl h0 [a]
  refine o_aloadN X0 K d9_0 1 rfl rfl rfl ?_
  refine o_aloadN X0 K d9_1 2 rfl rfl rfl ?_
  refine o_ldcS X0 K hS0 d9_2 4 rfl (w_56 hw) (hwsS_ hw) e0 hk0 16 (by decide +kernel) (by decide) (by decide) (by decide) ?_
  intro T_19 h_19 sc k1_19 X_19 KW_19 e_19 E_19 hS_19 hq_19
  have hk_19 : _ ≤ h_19.size := Nat.le_trans hk0 (E_19.1)
  have Z_19 : n0 ≤ h_19.size := Nat.le_trans Z0 E_19.1
  have K_19 := KK0.ext E_19
  have f_20 := Exa.ext E_19 E_a
  have f_21 := Fld.ext E_19 F_a_kind
  have f_22 := Fld.ext E_19 F_a_type
  have f_23 := Fld.ext E_19 F_a_id
  have f_24 := Fld.ext E_19 F_a_account
  have f_25 := Fld.ext E_19 F_a_name
  have f_26 := Fld.ext E_19 F_a_accessKey
  have f_27 := Fld.ext E_19 F_a_mfa
  have f_28 := Fld.ext E_19 F_a_sessionCreated
  have f_29 := Exa.ext E_19 E_k
  refine o_invokestatic X_19 KW_19 d9_4 7 rfl (w_59 hw) (w_60 hw) (w_61 hw) (w_62 hw) (by decide) [(.ref k), (.ref sc)] [(.ref a)] rfl  (c_rnn l Z a0 hw n0 k sc h_19 Z_19 ) e_19 rfl (lenOf pd__Ljava_lang_Object_Ljava_lang_String__Ljava_lang_Object_ rfl) (by decide) 1 (Nat.le_of_eq rfl) (by decide) (by decide) (by decide) N0 ?_
  rintro _ T_30 h_30 locs_30 X_30 q_30 ⟨rfl, r_30⟩ N_30
  have e_30 := q_30.trans r_30
  show OGo p e below _ n0 _ (T_30.setTop (mkF m 7 #[.val (.ref a), .val (.ref k)] [(.ref k), (.ref a)]))
  refine o_checkcast X_30 KW_19 d9_7 10 rfl (w_63 hw) e_30 (Ins.self f_29) ?_
  intro T_31 X_31 e_31
  refine o_putfield X_31 KW_19 (host := "") (ty := (.object "com/example/dhole/dhole/event/ActorKind")) d9_10 13 rfl (Or.inl (w_49 hw)) Via.refl e_31 f_21 f_20 (Or.inl (w_50 hw)) (w_41 hw) (by decide) rfl rfl N_30 g_a ?_
  intro T_32 h_32 locs_32 X_32 e_32 W_32 N_32
  have hk_32 : _ ≤ h_32.size := Nat.le_trans hq_19 (Nat.le_of_eq (Wr.size W_32).symm)
  have Z_32 : n0 ≤ h_32.size := by rw [Wr.size W_32]; exact Z_19
  have K_32 := K_19.wr W_32 (Or.inl (by simp))
  have f_33 := Exa.wr W_32 f_20
  have f_34 := Fld.same W_32 f_21
  have f_35 := Fld.other W_32 f_22 (Or.inr (slot_ne (Or.inl (w_81 hw)) (Or.inl (w_50 hw)) (by decide) (t := (.object "java/lang/String")) (t' := (.object "com/example/dhole/dhole/event/ActorKind")) (by decide) (by decide)))
  have f_36 := Fld.other W_32 f_23 (Or.inr (slot_ne (Or.inl (w_85 hw)) (Or.inl (w_50 hw)) (by decide) (t := (.object "java/lang/String")) (t' := (.object "com/example/dhole/dhole/event/ActorKind")) (by decide) (by decide)))
  have f_37 := Fld.other W_32 f_24 (Or.inr (slot_ne (Or.inl (w_89 hw)) (Or.inl (w_50 hw)) (by decide) (t := (.object "java/lang/String")) (t' := (.object "com/example/dhole/dhole/event/ActorKind")) (by decide) (by decide)))
  have f_38 := Fld.other W_32 f_25 (Or.inr (slot_ne (Or.inl (w_93 hw)) (Or.inl (w_50 hw)) (by decide) (t := (.object "java/lang/String")) (t' := (.object "com/example/dhole/dhole/event/ActorKind")) (by decide) (by decide)))
  have f_39 := Fld.other W_32 f_26 (Or.inr (slot_ne (Or.inl (w_97 hw)) (Or.inl (w_50 hw)) (by decide) (t := (.object "java/lang/String")) (t' := (.object "com/example/dhole/dhole/event/ActorKind")) (by decide) (by decide)))
  have f_40 := Fld.other W_32 f_27 (Or.inr (slot_ne (Or.inl (w_101 hw)) (Or.inl (w_50 hw)) (by decide) (t := (.object "java/lang/Boolean")) (t' := (.object "com/example/dhole/dhole/event/ActorKind")) (by decide) (by decide)))
  have f_41 := Fld.other W_32 f_28 (Or.inr (slot_ne (Or.inl (w_105 hw)) (Or.inl (w_50 hw)) (by decide) (t := (.object "com/example/dhole/dhole/event/EventTime")) (t' := (.object "com/example/dhole/dhole/event/ActorKind")) (by decide) (by decide)))
  have f_42 := Exa.wr W_32 f_29
  refine o_aloadN X_32 KW_19 d9_13 14 rfl rfl rfl ?_
  refine o_areturnW X_32 hS_19 e_32 hk_32 KW_19 rfl rfl rfl d9_14 (by decide) (by decide) N_32 ?_
  rw [e_32]
  exact ⟨rfl, K_32, f_33, f_34, f_35, f_36, f_37, f_38, f_39, f_40, f_41⟩
theorem d12_0 : decode prog_4_method_1_code 0 = .ok (.aload_n 0, 1) := by decide +kernel
theorem d12_1 : decode prog_4_method_1_code 1 = .ok (.invokespecial 1, 3) := by decide +kernel
theorem d12_4 : decode prog_4_method_1_code 4 = .ok (.aload_n 0, 1) := by decide +kernel
theorem d12_5 : decode prog_4_method_1_code 5 = .ok (.aload_n 1, 1) := by decide +kernel
theorem d12_6 : decode prog_4_method_1_code 6 = .ok (.getfield 7, 3) := by decide +kernel
theorem d12_9 : decode prog_4_method_1_code 9 = .ok (.putfield 13, 3) := by decide +kernel
theorem d12_12 : decode prog_4_method_1_code 12 = .ok (.aload_n 0, 1) := by decide +kernel
theorem d12_13 : decode prog_4_method_1_code 13 = .ok (.aload_n 1, 1) := by decide +kernel
theorem d12_14 : decode prog_4_method_1_code 14 = .ok (.getfield 16, 3) := by decide +kernel
theorem d12_17 : decode prog_4_method_1_code 17 = .ok (.putfield 20, 3) := by decide +kernel
theorem d12_20 : decode prog_4_method_1_code 20 = .ok (.aload_n 0, 1) := by decide +kernel
theorem d12_21 : decode prog_4_method_1_code 21 = .ok (.aload_n 1, 1) := by decide +kernel
theorem d12_22 : decode prog_4_method_1_code 22 = .ok (.getfield 21, 3) := by decide +kernel
theorem d12_25 : decode prog_4_method_1_code 25 = .ok (.putfield 24, 3) := by decide +kernel
theorem d12_28 : decode prog_4_method_1_code 28 = .ok (.aload_n 0, 1) := by decide +kernel
theorem d12_29 : decode prog_4_method_1_code 29 = .ok (.aload_n 1, 1) := by decide +kernel
theorem d12_30 : decode prog_4_method_1_code 30 = .ok (.getfield 25, 3) := by decide +kernel
theorem d12_33 : decode prog_4_method_1_code 33 = .ok (.putfield 28, 3) := by decide +kernel
theorem d12_36 : decode prog_4_method_1_code 36 = .ok (.aload_n 0, 1) := by decide +kernel
theorem d12_37 : decode prog_4_method_1_code 37 = .ok (.aload_n 1, 1) := by decide +kernel
theorem d12_38 : decode prog_4_method_1_code 38 = .ok (.getfield 29, 3) := by decide +kernel
theorem d12_41 : decode prog_4_method_1_code 41 = .ok (.putfield 32, 3) := by decide +kernel
theorem d12_44 : decode prog_4_method_1_code 44 = .ok (.aload_n 0, 1) := by decide +kernel
theorem d12_45 : decode prog_4_method_1_code 45 = .ok (.aload_n 1, 1) := by decide +kernel
theorem d12_46 : decode prog_4_method_1_code 46 = .ok (.getfield 33, 3) := by decide +kernel
theorem d12_49 : decode prog_4_method_1_code 49 = .ok (.putfield 36, 3) := by decide +kernel
theorem d12_52 : decode prog_4_method_1_code 52 = .ok (.aload_n 0, 1) := by decide +kernel
theorem d12_53 : decode prog_4_method_1_code 53 = .ok (.aload_n 1, 1) := by decide +kernel
theorem d12_54 : decode prog_4_method_1_code 54 = .ok (.getfield 37, 3) := by decide +kernel
theorem d12_57 : decode prog_4_method_1_code 57 = .ok (.putfield 41, 3) := by decide +kernel
theorem d12_60 : decode prog_4_method_1_code 60 = .ok (.aload_n 0, 1) := by decide +kernel
theorem d12_61 : decode prog_4_method_1_code 61 = .ok (.aload_n 1, 1) := by decide +kernel
theorem d12_62 : decode prog_4_method_1_code 62 = .ok (.getfield 42, 3) := by decide +kernel
theorem d12_65 : decode prog_4_method_1_code 65 = .ok (.putfield 46, 3) := by decide +kernel
theorem d12_68 : decode prog_4_method_1_code 68 = .ok (.return_, 1) := by decide +kernel
theorem pn_12 : plainFor (⟨"com/example/dhole/dhole/event/Actor", "<init>", "(Lcom/example/dhole/dhole/event/Actor$Builder;)V"⟩ : MethodName) = true := plainFor_of_name (by first | (simp [plainName, overriddenIn]; done) | decide +kernel)
set_option maxHeartbeats 4000000 in
theorem c_ainit0 (l : Launch) (Z : State) (a0 : Array Value) (hw : OW Z a0) (n0 : Nat) (x a k : Addr) (h0 : Heap) (Z0 : n0 ≤ h0.size) (E_x : Exa Z h0 x "com/example/dhole/dhole/event/Actor") (F_x_kind : Fld Z h0 x "com/example/dhole/dhole/event/Actor" "kind" "Lcom/example/dhole/dhole/event/ActorKind;" .null) (F_x_type : Fld Z h0 x "com/example/dhole/dhole/event/Actor" "type" "Ljava/lang/String;" .null) (F_x_id : Fld Z h0 x "com/example/dhole/dhole/event/Actor" "id" "Ljava/lang/String;" .null) (F_x_account : Fld Z h0 x "com/example/dhole/dhole/event/Actor" "account" "Ljava/lang/String;" .null) (F_x_name : Fld Z h0 x "com/example/dhole/dhole/event/Actor" "name" "Ljava/lang/String;" .null) (F_x_accessKey : Fld Z h0 x "com/example/dhole/dhole/event/Actor" "accessKey" "Ljava/lang/String;" .null) (F_x_mfa : Fld Z h0 x "com/example/dhole/dhole/event/Actor" "mfa" "Ljava/lang/Boolean;" .null) (F_x_sessionCreated : Fld Z h0 x "com/example/dhole/dhole/event/Actor" "sessionCreated" "Lcom/example/dhole/dhole/event/EventTime;" .null) (g_x : n0 ≤ x) (F_a_kind : Fld Z h0 a "com/example/dhole/dhole/event/Actor$Builder" "kind" "Lcom/example/dhole/dhole/event/ActorKind;" (.ref k)) (F_a_type : Fld Z h0 a "com/example/dhole/dhole/event/Actor$Builder" "type" "Ljava/lang/String;" .null) (F_a_id : Fld Z h0 a "com/example/dhole/dhole/event/Actor$Builder" "id" "Ljava/lang/String;" .null) (F_a_account : Fld Z h0 a "com/example/dhole/dhole/event/Actor$Builder" "account" "Ljava/lang/String;" .null) (F_a_name : Fld Z h0 a "com/example/dhole/dhole/event/Actor$Builder" "name" "Ljava/lang/String;" .null) (F_a_accessKey : Fld Z h0 a "com/example/dhole/dhole/event/Actor$Builder" "accessKey" "Ljava/lang/String;" .null) (F_a_mfa : Fld Z h0 a "com/example/dhole/dhole/event/Actor$Builder" "mfa" "Ljava/lang/Boolean;" .null) (F_a_sessionCreated : Fld Z h0 a "com/example/dhole/dhole/event/Actor$Builder" "sessionCreated" "Lcom/example/dhole/dhole/event/EventTime;" .null) (ne_a_x : a ≠ x) :
    OCon l Z n0 (⟨"com/example/dhole/dhole/event/Actor", "<init>", "(Lcom/example/dhole/dhole/event/Actor$Builder;)V"⟩ : MethodName) prog_4_method_1_code 2 none ({ frames := 1, cells := 0, slots := 0, locals := 12 } : Room) #[(.ref x), (.ref a)] h0 (fun v h => v = none ∧ Keep h0 h [x] ∧ Exa Z h x "com/example/dhole/dhole/event/Actor" ∧ Fld Z h x "com/example/dhole/dhole/event/Actor" "kind" "Lcom/example/dhole/dhole/event/ActorKind;" (.ref k) ∧ Fld Z h x "com/example/dhole/dhole/event/Actor" "type" "Ljava/lang/String;" .null ∧ Fld Z h x "com/example/dhole/dhole/event/Actor" "mfa" "Ljava/lang/Boolean;" .null) := by
  refine OCon.of (Ls := #[.val (.ref x), .val (.ref a)]) pn_12 rfl rfl (fun m => by first | (simp [entryFrame, mkF, argsToLocals, Value.category]; done) | rfl) ?_
  intro p e s m below meth c T0 X0 K e0
  have N0 := Fr.nil n0
  have KK0 := Keep.refl h0 [x]
  refine o_aloadN X0 K d12_0 1 rfl rfl rfl ?_
  refine o_initO X0 K d12_1 4 rfl (w_76 hw) (w_22 hw) (w_23 hw) e0 rfl (by decide) 0 (Nat.le_of_eq rfl) (by decide) ?_
  intro T_43 X_43 e_43
  refine o_aloadN X_43 K d12_4 5 rfl rfl rfl ?_
  refine o_aloadN X_43 K d12_5 6 rfl rfl rfl ?_
  refine o_getfieldR X_43 K d12_6 9 rfl (w_77 hw) e_43 F_a_kind ?_
  refine o_putfield X_43 K (host := "") (ty := (.object "com/example/dhole/dhole/event/ActorKind")) d12_9 12 rfl (Or.inl (w_78 hw)) Via.refl e_43 F_x_kind E_x (Or.inr ⟨(w_79 hw), rfl, rfl⟩) (w_71 hw) (by decide) rfl rfl N0 g_x ?_
  intro T_44 h_44 locs_44 X_44 e_44 W_44 N_44
  have Z_44 : n0 ≤ h_44.size := by rw [Wr.size W_44]; exact Z0
  have K_44 := KK0.wr W_44 (Or.inl (by simp))
  have f_45 := Exa.wr W_44 E_x
  have f_46 := Fld.same W_44 F_x_kind
  have f_47 := Fld.other W_44 F_x_type (Or.inr (slot_ne (Or.inr (w_83 hw)) (Or.inr (w_79 hw)) (by decide) (t := (.object "java/lang/String")) (t' := (.object "com/example/dhole/dhole/event/ActorKind")) (by decide) (by decide)))
  have f_48 := Fld.other W_44 F_x_id (Or.inr (slot_ne (Or.inr (w_87 hw)) (Or.inr (w_79 hw)) (by decide) (t := (.object "java/lang/String")) (t' := (.object "com/example/dhole/dhole/event/ActorKind")) (by decide) (by decide)))
  have f_49 := Fld.other W_44 F_x_account (Or.inr (slot_ne (Or.inr (w_91 hw)) (Or.inr (w_79 hw)) (by decide) (t := (.object "java/lang/String")) (t' := (.object "com/example/dhole/dhole/event/ActorKind")) (by decide) (by decide)))
  have f_50 := Fld.other W_44 F_x_name (Or.inr (slot_ne (Or.inr (w_95 hw)) (Or.inr (w_79 hw)) (by decide) (t := (.object "java/lang/String")) (t' := (.object "com/example/dhole/dhole/event/ActorKind")) (by decide) (by decide)))
  have f_51 := Fld.other W_44 F_x_accessKey (Or.inr (slot_ne (Or.inr (w_99 hw)) (Or.inr (w_79 hw)) (by decide) (t := (.object "java/lang/String")) (t' := (.object "com/example/dhole/dhole/event/ActorKind")) (by decide) (by decide)))
  have f_52 := Fld.other W_44 F_x_mfa (Or.inr (slot_ne (Or.inr (w_103 hw)) (Or.inr (w_79 hw)) (by decide) (t := (.object "java/lang/Boolean")) (t' := (.object "com/example/dhole/dhole/event/ActorKind")) (by decide) (by decide)))
  have f_53 := Fld.other W_44 F_x_sessionCreated (Or.inr (slot_ne (Or.inr (w_107 hw)) (Or.inr (w_79 hw)) (by decide) (t := (.object "com/example/dhole/dhole/event/EventTime")) (t' := (.object "com/example/dhole/dhole/event/ActorKind")) (by decide) (by decide)))
  have f_54 := Fld.other W_44 F_a_kind (Or.inl ne_a_x)
  have f_55 := Fld.other W_44 F_a_type (Or.inl ne_a_x)
  have f_56 := Fld.other W_44 F_a_id (Or.inl ne_a_x)
  have f_57 := Fld.other W_44 F_a_account (Or.inl ne_a_x)
  have f_58 := Fld.other W_44 F_a_name (Or.inl ne_a_x)
  have f_59 := Fld.other W_44 F_a_accessKey (Or.inl ne_a_x)
  have f_60 := Fld.other W_44 F_a_mfa (Or.inl ne_a_x)
  have f_61 := Fld.other W_44 F_a_sessionCreated (Or.inl ne_a_x)
  refine o_aloadN X_44 K d12_12 13 rfl rfl rfl ?_
  refine o_aloadN X_44 K d12_13 14 rfl rfl rfl ?_
  refine o_getfieldR X_44 K d12_14 17 rfl (w_80 hw) e_44 f_55 ?_
  refine o_putfield X_44 K (host := "") (ty := (.object "java/lang/String")) d12_17 20 rfl (Or.inl (w_82 hw)) Via.refl e_44 f_47 f_45 (Or.inr ⟨(w_83 hw), rfl, rfl⟩) (w_71 hw) (by decide) rfl rfl N_44 g_x ?_
  intro T_62 h_62 locs_62 X_62 e_62 W_62 N_62
  have Z_62 : n0 ≤ h_62.size := by rw [Wr.size W_62]; exact Z_44
  have K_62 := K_44.wr W_62 (Or.inl (by simp))
  have f_63 := Exa.wr W_62 f_45
  have f_64 := Fld.other W_62 f_46 (Or.inr (slot_ne (Or.inr (w_79 hw)) (Or.inr (w_83 hw)) (by decide) (t := (.object "com/example/dhole/dhole/event/ActorKind")) (t' := (.object "java/lang/String")) (by decide) (by decide)))
  have f_65 := Fld.same W_62 f_47
  have f_66 := Fld.other W_62 f_48 (Or.inr (slot_ne (Or.inr (w_87 hw)) (Or.inr (w_83 hw)) (by decide) (t := (.object "java/lang/String")) (t' := (.object "java/lang/String")) (by decide) (by decide)))
  have f_67 := Fld.other W_62 f_49 (Or.inr (slot_ne (Or.inr (w_91 hw)) (Or.inr (w_83 hw)) (by decide) (t := (.object "java/lang/String")) (t' := (.object "java/lang/String")) (by decide) (by decide)))
  have f_68 := Fld.other W_62 f_50 (Or.inr (slot_ne (Or.inr (w_95 hw)) (Or.inr (w_83 hw)) (by decide) (t := (.object "java/lang/String")) (t' := (.object "java/lang/String")) (by decide) (by decide)))
  have f_69 := Fld.other W_62 f_51 (Or.inr (slot_ne (Or.inr (w_99 hw)) (Or.inr (w_83 hw)) (by decide) (t := (.object "java/lang/String")) (t' := (.object "java/lang/String")) (by decide) (by decide)))
  have f_70 := Fld.other W_62 f_52 (Or.inr (slot_ne (Or.inr (w_103 hw)) (Or.inr (w_83 hw)) (by decide) (t := (.object "java/lang/Boolean")) (t' := (.object "java/lang/String")) (by decide) (by decide)))
  have f_71 := Fld.other W_62 f_53 (Or.inr (slot_ne (Or.inr (w_107 hw)) (Or.inr (w_83 hw)) (by decide) (t := (.object "com/example/dhole/dhole/event/EventTime")) (t' := (.object "java/lang/String")) (by decide) (by decide)))
  have f_72 := Fld.other W_62 f_54 (Or.inl ne_a_x)
  have f_73 := Fld.other W_62 f_55 (Or.inl ne_a_x)
  have f_74 := Fld.other W_62 f_56 (Or.inl ne_a_x)
  have f_75 := Fld.other W_62 f_57 (Or.inl ne_a_x)
  have f_76 := Fld.other W_62 f_58 (Or.inl ne_a_x)
  have f_77 := Fld.other W_62 f_59 (Or.inl ne_a_x)
  have f_78 := Fld.other W_62 f_60 (Or.inl ne_a_x)
  have f_79 := Fld.other W_62 f_61 (Or.inl ne_a_x)
  refine o_aloadN X_62 K d12_20 21 rfl rfl rfl ?_
  refine o_aloadN X_62 K d12_21 22 rfl rfl rfl ?_
  refine o_getfieldR X_62 K d12_22 25 rfl (w_84 hw) e_62 f_74 ?_
  refine o_putfield X_62 K (host := "") (ty := (.object "java/lang/String")) d12_25 28 rfl (Or.inl (w_86 hw)) Via.refl e_62 f_66 f_63 (Or.inr ⟨(w_87 hw), rfl, rfl⟩) (w_71 hw) (by decide) rfl rfl N_62 g_x ?_
  intro T_80 h_80 locs_80 X_80 e_80 W_80 N_80
  have Z_80 : n0 ≤ h_80.size := by rw [Wr.size W_80]; exact Z_62
  have K_80 := K_62.wr W_80 (Or.inl (by simp))
  have f_81 := Exa.wr W_80 f_63
  have f_82 := Fld.other W_80 f_64 (Or.inr (slot_ne (Or.inr (w_79 hw)) (Or.inr (w_87 hw)) (by decide) (t := (.object "com/example/dhole/dhole/event/ActorKind")) (t' := (.object "java/lang/String")) (by decide) (by decide)))
  have f_83 := Fld.other W_80 f_65 (Or.inr (slot_ne (Or.inr (w_83 hw)) (Or.inr (w_87 hw)) (by decide) (t := (.object "java/lang/String")) (t' := (.object "java/lang/String")) (by decide) (by decide)))
  have f_84 := Fld.same W_80 f_66
  have f_85 := Fld.other W_80 f_67 (Or.inr (slot_ne (Or.inr (w_91 hw)) (Or.inr (w_87 hw)) (by decide) (t := (.object "java/lang/String")) (t' := (.object "java/lang/String")) (by decide) (by decide)))
  have f_86 := Fld.other W_80 f_68 (Or.inr (slot_ne (Or.inr (w_95 hw)) (Or.inr (w_87 hw)) (by decide) (t := (.object "java/lang/String")) (t' := (.object "java/lang/String")) (by decide) (by decide)))
  have f_87 := Fld.other W_80 f_69 (Or.inr (slot_ne (Or.inr (w_99 hw)) (Or.inr (w_87 hw)) (by decide) (t := (.object "java/lang/String")) (t' := (.object "java/lang/String")) (by decide) (by decide)))
  have f_88 := Fld.other W_80 f_70 (Or.inr (slot_ne (Or.inr (w_103 hw)) (Or.inr (w_87 hw)) (by decide) (t := (.object "java/lang/Boolean")) (t' := (.object "java/lang/String")) (by decide) (by decide)))
  have f_89 := Fld.other W_80 f_71 (Or.inr (slot_ne (Or.inr (w_107 hw)) (Or.inr (w_87 hw)) (by decide) (t := (.object "com/example/dhole/dhole/event/EventTime")) (t' := (.object "java/lang/String")) (by decide) (by decide)))
  have f_90 := Fld.other W_80 f_72 (Or.inl ne_a_x)
  have f_91 := Fld.other W_80 f_73 (Or.inl ne_a_x)
  have f_92 := Fld.other W_80 f_74 (Or.inl ne_a_x)
  have f_93 := Fld.other W_80 f_75 (Or.inl ne_a_x)
  have f_94 := Fld.other W_80 f_76 (Or.inl ne_a_x)
  have f_95 := Fld.other W_80 f_77 (Or.inl ne_a_x)
  have f_96 := Fld.other W_80 f_78 (Or.inl ne_a_x)
  have f_97 := Fld.other W_80 f_79 (Or.inl ne_a_x)
  refine o_aloadN X_80 K d12_28 29 rfl rfl rfl ?_
  refine o_aloadN X_80 K d12_29 30 rfl rfl rfl ?_
  refine o_getfieldR X_80 K d12_30 33 rfl (w_88 hw) e_80 f_93 ?_
  refine o_putfield X_80 K (host := "") (ty := (.object "java/lang/String")) d12_33 36 rfl (Or.inl (w_90 hw)) Via.refl e_80 f_85 f_81 (Or.inr ⟨(w_91 hw), rfl, rfl⟩) (w_71 hw) (by decide) rfl rfl N_80 g_x ?_
  intro T_98 h_98 locs_98 X_98 e_98 W_98 N_98
  have Z_98 : n0 ≤ h_98.size := by rw [Wr.size W_98]; exact Z_80
  have K_98 := K_80.wr W_98 (Or.inl (by simp))
  have f_99 := Exa.wr W_98 f_81
  have f_100 := Fld.other W_98 f_82 (Or.inr (slot_ne (Or.inr (w_79 hw)) (Or.inr (w_91 hw)) (by decide) (t := (.object "com/example/dhole/dhole/event/ActorKind")) (t' := (.object "java/lang/String")) (by decide) (by decide)))
  have f_101 := Fld.other W_98 f_83 (Or.inr (slot_ne (Or.inr (w_83 hw)) (Or.inr (w_91 hw)) (by decide) (t := (.object "java/lang/String")) (t' := (.object "java/lang/String")) (by decide) (by decide)))
  have f_102 := Fld.other W_98 f_84 (Or.inr (slot_ne (Or.inr (w_87 hw)) (Or.inr (w_91 hw)) (by decide) (t := (.object "java/lang/String")) (t' := (.object "java/lang/String")) (by decide) (by decide)))
  have f_103 := Fld.same W_98 f_85
  have f_104 := Fld.other W_98 f_86 (Or.inr (slot_ne (Or.inr (w_95 hw)) (Or.inr (w_91 hw)) (by decide) (t := (.object "java/lang/String")) (t' := (.object "java/lang/String")) (by decide) (by decide)))
  have f_105 := Fld.other W_98 f_87 (Or.inr (slot_ne (Or.inr (w_99 hw)) (Or.inr (w_91 hw)) (by decide) (t := (.object "java/lang/String")) (t' := (.object "java/lang/String")) (by decide) (by decide)))
  have f_106 := Fld.other W_98 f_88 (Or.inr (slot_ne (Or.inr (w_103 hw)) (Or.inr (w_91 hw)) (by decide) (t := (.object "java/lang/Boolean")) (t' := (.object "java/lang/String")) (by decide) (by decide)))
  have f_107 := Fld.other W_98 f_89 (Or.inr (slot_ne (Or.inr (w_107 hw)) (Or.inr (w_91 hw)) (by decide) (t := (.object "com/example/dhole/dhole/event/EventTime")) (t' := (.object "java/lang/String")) (by decide) (by decide)))
  have f_108 := Fld.other W_98 f_90 (Or.inl ne_a_x)
  have f_109 := Fld.other W_98 f_91 (Or.inl ne_a_x)
  have f_110 := Fld.other W_98 f_92 (Or.inl ne_a_x)
  have f_111 := Fld.other W_98 f_93 (Or.inl ne_a_x)
  have f_112 := Fld.other W_98 f_94 (Or.inl ne_a_x)
  have f_113 := Fld.other W_98 f_95 (Or.inl ne_a_x)
  have f_114 := Fld.other W_98 f_96 (Or.inl ne_a_x)
  have f_115 := Fld.other W_98 f_97 (Or.inl ne_a_x)
  refine o_aloadN X_98 K d12_36 37 rfl rfl rfl ?_
  refine o_aloadN X_98 K d12_37 38 rfl rfl rfl ?_
  refine o_getfieldR X_98 K d12_38 41 rfl (w_92 hw) e_98 f_112 ?_
  refine o_putfield X_98 K (host := "") (ty := (.object "java/lang/String")) d12_41 44 rfl (Or.inl (w_94 hw)) Via.refl e_98 f_104 f_99 (Or.inr ⟨(w_95 hw), rfl, rfl⟩) (w_71 hw) (by decide) rfl rfl N_98 g_x ?_
  intro T_116 h_116 locs_116 X_116 e_116 W_116 N_116
  have Z_116 : n0 ≤ h_116.size := by rw [Wr.size W_116]; exact Z_98
  have K_116 := K_98.wr W_116 (Or.inl (by simp))
  have f_117 := Exa.wr W_116 f_99
  have f_118 := Fld.other W_116 f_100 (Or.inr (slot_ne (Or.inr (w_79 hw)) (Or.inr (w_95 hw)) (by decide) (t := (.object "com/example/dhole/dhole/event/ActorKind")) (t' := (.object "java/lang/String")) (by decide) (by decide)))
  have f_119 := Fld.other W_116 f_101 (Or.inr (slot_ne (Or.inr (w_83 hw)) (Or.inr (w_95 hw)) (by decide) (t := (.object "java/lang/String")) (t' := (.object "java/lang/String")) (by decide) (by decide)))
  have f_120 := Fld.other W_116 f_102 (Or.inr (slot_ne (Or.inr (w_87 hw)) (Or.inr (w_95 hw)) (by decide) (t := (.object "java/lang/String")) (t' := (.object "java/lang/String")) (by decide) (by decide)))
  have f_121 := Fld.other W_116 f_103 (Or.inr (slot_ne (Or.inr (w_91 hw)) (Or.inr (w_95 hw)) (by decide) (t := (.object "java/lang/String")) (t' := (.object "java/lang/String")) (by decide) (by decide)))
  have f_122 := Fld.same W_116 f_104
  have f_123 := Fld.other W_116 f_105 (Or.inr (slot_ne (Or.inr (w_99 hw)) (Or.inr (w_95 hw)) (by decide) (t := (.object "java/lang/String")) (t' := (.object "java/lang/String")) (by decide) (by decide)))
  have f_124 := Fld.other W_116 f_106 (Or.inr (slot_ne (Or.inr (w_103 hw)) (Or.inr (w_95 hw)) (by decide) (t := (.object "java/lang/Boolean")) (t' := (.object "java/lang/String")) (by decide) (by decide)))
  have f_125 := Fld.other W_116 f_107 (Or.inr (slot_ne (Or.inr (w_107 hw)) (Or.inr (w_95 hw)) (by decide) (t := (.object "com/example/dhole/dhole/event/EventTime")) (t' := (.object "java/lang/String")) (by decide) (by decide)))
  have f_126 := Fld.other W_116 f_108 (Or.inl ne_a_x)
  have f_127 := Fld.other W_116 f_109 (Or.inl ne_a_x)
  have f_128 := Fld.other W_116 f_110 (Or.inl ne_a_x)
  have f_129 := Fld.other W_116 f_111 (Or.inl ne_a_x)
  have f_130 := Fld.other W_116 f_112 (Or.inl ne_a_x)
  have f_131 := Fld.other W_116 f_113 (Or.inl ne_a_x)
  have f_132 := Fld.other W_116 f_114 (Or.inl ne_a_x)
  have f_133 := Fld.other W_116 f_115 (Or.inl ne_a_x)
  refine o_aloadN X_116 K d12_44 45 rfl rfl rfl ?_
  refine o_aloadN X_116 K d12_45 46 rfl rfl rfl ?_
  refine o_getfieldR X_116 K d12_46 49 rfl (w_96 hw) e_116 f_131 ?_
  refine o_putfield X_116 K (host := "") (ty := (.object "java/lang/String")) d12_49 52 rfl (Or.inl (w_98 hw)) Via.refl e_116 f_123 f_117 (Or.inr ⟨(w_99 hw), rfl, rfl⟩) (w_71 hw) (by decide) rfl rfl N_116 g_x ?_
  intro T_134 h_134 locs_134 X_134 e_134 W_134 N_134
  have Z_134 : n0 ≤ h_134.size := by rw [Wr.size W_134]; exact Z_116
  have K_134 := K_116.wr W_134 (Or.inl (by simp))
  have f_135 := Exa.wr W_134 f_117
  have f_136 := Fld.other W_134 f_118 (Or.inr (slot_ne (Or.inr (w_79 hw)) (Or.inr (w_99 hw)) (by decide) (t := (.object "com/example/dhole/dhole/event/ActorKind")) (t' := (.object "java/lang/String")) (by decide) (by decide)))
  have f_137 := Fld.other W_134 f_119 (Or.inr (slot_ne (Or.inr (w_83 hw)) (Or.inr (w_99 hw)) (by decide) (t := (.object "java/lang/String")) (t' := (.object "java/lang/String")) (by decide) (by decide)))
  have f_138 := Fld.other W_134 f_120 (Or.inr (slot_ne (Or.inr (w_87 hw)) (Or.inr (w_99 hw)) (by decide) (t := (.object "java/lang/String")) (t' := (.object "java/lang/String")) (by decide) (by decide)))
  have f_139 := Fld.other W_134 f_121 (Or.inr (slot_ne (Or.inr (w_91 hw)) (Or.inr (w_99 hw)) (by decide) (t := (.object "java/lang/String")) (t' := (.object "java/lang/String")) (by decide) (by decide)))
  have f_140 := Fld.other W_134 f_122 (Or.inr (slot_ne (Or.inr (w_95 hw)) (Or.inr (w_99 hw)) (by decide) (t := (.object "java/lang/String")) (t' := (.object "java/lang/String")) (by decide) (by decide)))
  have f_141 := Fld.same W_134 f_123
  have f_142 := Fld.other W_134 f_124 (Or.inr (slot_ne (Or.inr (w_103 hw)) (Or.inr (w_99 hw)) (by decide) (t := (.object "java/lang/Boolean")) (t' := (.object "java/lang/String")) (by decide) (by decide)))
  have f_143 := Fld.other W_134 f_125 (Or.inr (slot_ne (Or.inr (w_107 hw)) (Or.inr (w_99 hw)) (by decide) (t := (.object "com/example/dhole/dhole/event/EventTime")) (t' := (.object "java/lang/String")) (by decide) (by decide)))
  have f_144 := Fld.other W_134 f_126 (Or.inl ne_a_x)
  have f_145 := Fld.other W_134 f_127 (Or.inl ne_a_x)
  have f_146 := Fld.other W_134 f_128 (Or.inl ne_a_x)
  have f_147 := Fld.other W_134 f_129 (Or.inl ne_a_x)
  have f_148 := Fld.other W_134 f_130 (Or.inl ne_a_x)
  have f_149 := Fld.other W_134 f_131 (Or.inl ne_a_x)
  have f_150 := Fld.other W_134 f_132 (Or.inl ne_a_x)
  have f_151 := Fld.other W_134 f_133 (Or.inl ne_a_x)
  refine o_aloadN X_134 K d12_52 53 rfl rfl rfl ?_
  refine o_aloadN X_134 K d12_53 54 rfl rfl rfl ?_
  refine o_getfieldR X_134 K d12_54 57 rfl (w_100 hw) e_134 f_150 ?_
  refine o_putfield X_134 K (host := "") (ty := (.object "java/lang/Boolean")) d12_57 60 rfl (Or.inl (w_102 hw)) Via.refl e_134 f_142 f_135 (Or.inr ⟨(w_103 hw), rfl, rfl⟩) (w_71 hw) (by decide) rfl rfl N_134 g_x ?_
  intro T_152 h_152 locs_152 X_152 e_152 W_152 N_152
  have Z_152 : n0 ≤ h_152.size := by rw [Wr.size W_152]; exact Z_134
  have K_152 := K_134.wr W_152 (Or.inl (by simp))
  have f_153 := Exa.wr W_152 f_135
  have f_154 := Fld.other W_152 f_136 (Or.inr (slot_ne (Or.inr (w_79 hw)) (Or.inr (w_103 hw)) (by decide) (t := (.object "com/example/dhole/dhole/event/ActorKind")) (t' := (.object "java/lang/Boolean")) (by decide) (by decide)))
  have f_155 := Fld.other W_152 f_137 (Or.inr (slot_ne (Or.inr (w_83 hw)) (Or.inr (w_103 hw)) (by decide) (t := (.object "java/lang/String")) (t' := (.object "java/lang/Boolean")) (by decide) (by decide)))
  have f_156 := Fld.other W_152 f_138 (Or.inr (slot_ne (Or.inr (w_87 hw)) (Or.inr (w_103 hw)) (by decide) (t := (.object "java/lang/String")) (t' := (.object "java/lang/Boolean")) (by decide) (by decide)))
  have f_157 := Fld.other W_152 f_139 (Or.inr (slot_ne (Or.inr (w_91 hw)) (Or.inr (w_103 hw)) (by decide) (t := (.object "java/lang/String")) (t' := (.object "java/lang/Boolean")) (by decide) (by decide)))
  have f_158 := Fld.other W_152 f_140 (Or.inr (slot_ne (Or.inr (w_95 hw)) (Or.inr (w_103 hw)) (by decide) (t := (.object "java/lang/String")) (t' := (.object "java/lang/Boolean")) (by decide) (by decide)))
  have f_159 := Fld.other W_152 f_141 (Or.inr (slot_ne (Or.inr (w_99 hw)) (Or.inr (w_103 hw)) (by decide) (t := (.object "java/lang/String")) (t' := (.object "java/lang/Boolean")) (by decide) (by decide)))
  have f_160 := Fld.same W_152 f_142
  have f_161 := Fld.other W_152 f_143 (Or.inr (slot_ne (Or.inr (w_107 hw)) (Or.inr (w_103 hw)) (by decide) (t := (.object "com/example/dhole/dhole/event/EventTime")) (t' := (.object "java/lang/Boolean")) (by decide) (by decide)))
  have f_162 := Fld.other W_152 f_144 (Or.inl ne_a_x)
  have f_163 := Fld.other W_152 f_145 (Or.inl ne_a_x)
  have f_164 := Fld.other W_152 f_146 (Or.inl ne_a_x)
  have f_165 := Fld.other W_152 f_147 (Or.inl ne_a_x)
  have f_166 := Fld.other W_152 f_148 (Or.inl ne_a_x)
  have f_167 := Fld.other W_152 f_149 (Or.inl ne_a_x)
  have f_168 := Fld.other W_152 f_150 (Or.inl ne_a_x)
  have f_169 := Fld.other W_152 f_151 (Or.inl ne_a_x)
  refine o_aloadN X_152 K d12_60 61 rfl rfl rfl ?_
  refine o_aloadN X_152 K d12_61 62 rfl rfl rfl ?_
  refine o_getfieldR X_152 K d12_62 65 rfl (w_104 hw) e_152 f_169 ?_
  refine o_putfield X_152 K (host := "") (ty := (.object "com/example/dhole/dhole/event/EventTime")) d12_65 68 rfl (Or.inl (w_106 hw)) Via.refl e_152 f_161 f_153 (Or.inr ⟨(w_107 hw), rfl, rfl⟩) (w_71 hw) (by decide) rfl rfl N_152 g_x ?_
  intro T_170 h_170 locs_170 X_170 e_170 W_170 N_170
  have Z_170 : n0 ≤ h_170.size := by rw [Wr.size W_170]; exact Z_152
  have K_170 := K_152.wr W_170 (Or.inl (by simp))
  have f_171 := Exa.wr W_170 f_153
  have f_172 := Fld.other W_170 f_154 (Or.inr (slot_ne (Or.inr (w_79 hw)) (Or.inr (w_107 hw)) (by decide) (t := (.object "com/example/dhole/dhole/event/ActorKind")) (t' := (.object "com/example/dhole/dhole/event/EventTime")) (by decide) (by decide)))
  have f_173 := Fld.other W_170 f_155 (Or.inr (slot_ne (Or.inr (w_83 hw)) (Or.inr (w_107 hw)) (by decide) (t := (.object "java/lang/String")) (t' := (.object "com/example/dhole/dhole/event/EventTime")) (by decide) (by decide)))
  have f_174 := Fld.other W_170 f_156 (Or.inr (slot_ne (Or.inr (w_87 hw)) (Or.inr (w_107 hw)) (by decide) (t := (.object "java/lang/String")) (t' := (.object "com/example/dhole/dhole/event/EventTime")) (by decide) (by decide)))
  have f_175 := Fld.other W_170 f_157 (Or.inr (slot_ne (Or.inr (w_91 hw)) (Or.inr (w_107 hw)) (by decide) (t := (.object "java/lang/String")) (t' := (.object "com/example/dhole/dhole/event/EventTime")) (by decide) (by decide)))
  have f_176 := Fld.other W_170 f_158 (Or.inr (slot_ne (Or.inr (w_95 hw)) (Or.inr (w_107 hw)) (by decide) (t := (.object "java/lang/String")) (t' := (.object "com/example/dhole/dhole/event/EventTime")) (by decide) (by decide)))
  have f_177 := Fld.other W_170 f_159 (Or.inr (slot_ne (Or.inr (w_99 hw)) (Or.inr (w_107 hw)) (by decide) (t := (.object "java/lang/String")) (t' := (.object "com/example/dhole/dhole/event/EventTime")) (by decide) (by decide)))
  have f_178 := Fld.other W_170 f_160 (Or.inr (slot_ne (Or.inr (w_103 hw)) (Or.inr (w_107 hw)) (by decide) (t := (.object "java/lang/Boolean")) (t' := (.object "com/example/dhole/dhole/event/EventTime")) (by decide) (by decide)))
  have f_179 := Fld.same W_170 f_161
  have f_180 := Fld.other W_170 f_162 (Or.inl ne_a_x)
  have f_181 := Fld.other W_170 f_163 (Or.inl ne_a_x)
  have f_182 := Fld.other W_170 f_164 (Or.inl ne_a_x)
  have f_183 := Fld.other W_170 f_165 (Or.inl ne_a_x)
  have f_184 := Fld.other W_170 f_166 (Or.inl ne_a_x)
  have f_185 := Fld.other W_170 f_167 (Or.inl ne_a_x)
  have f_186 := Fld.other W_170 f_168 (Or.inl ne_a_x)
  have f_187 := Fld.other W_170 f_169 (Or.inl ne_a_x)
  refine o_return X_170 K d12_68 (by decide) (by decide) N_170 ?_
  rw [e_170]
  exact ⟨rfl, K_170, f_171, f_172, f_173, f_178⟩
theorem d11_0 : decode prog_5_method_10_code 0 = .ok (.new 49, 3) := by decide +kernel
theorem d11_3 : decode prog_5_method_10_code 3 = .ok (.dup, 1) := by decide +kernel
theorem d11_4 : decode prog_5_method_10_code 4 = .ok (.aload_n 0, 1) := by decide +kernel
theorem d11_5 : decode prog_5_method_10_code 5 = .ok (.invokespecial 51, 3) := by decide +kernel
theorem pd__Lcom_example_dhole_dhole_event_Actor_Builder__V : parseMethodDescriptor "(Lcom/example/dhole/dhole/event/Actor$Builder;)V" = some ⟨[(.object "com/example/dhole/dhole/event/Actor$Builder")], none⟩ := by decide +kernel
theorem d11_8 : decode prog_5_method_10_code 8 = .ok (.areturn, 1) := by decide +kernel
theorem pn_11 : plainFor (⟨"com/example/dhole/dhole/event/Actor$Builder", "build", "()Lcom/example/dhole/dhole/event/Actor;"⟩ : MethodName) = true := plainFor_of_name (by first | (simp [plainName, overriddenIn]; done) | decide +kernel)
set_option maxHeartbeats 4000000 in
theorem c_build0 (l : Launch) (Z : State) (a0 : Array Value) (hw : OW Z a0) (n0 : Nat) (a k : Addr) (h0 : Heap) (Z0 : n0 ≤ h0.size) (E_a : Exa Z h0 a "com/example/dhole/dhole/event/Actor$Builder") (F_a_kind : Fld Z h0 a "com/example/dhole/dhole/event/Actor$Builder" "kind" "Lcom/example/dhole/dhole/event/ActorKind;" (.ref k)) (F_a_type : Fld Z h0 a "com/example/dhole/dhole/event/Actor$Builder" "type" "Ljava/lang/String;" .null) (F_a_id : Fld Z h0 a "com/example/dhole/dhole/event/Actor$Builder" "id" "Ljava/lang/String;" .null) (F_a_account : Fld Z h0 a "com/example/dhole/dhole/event/Actor$Builder" "account" "Ljava/lang/String;" .null) (F_a_name : Fld Z h0 a "com/example/dhole/dhole/event/Actor$Builder" "name" "Ljava/lang/String;" .null) (F_a_accessKey : Fld Z h0 a "com/example/dhole/dhole/event/Actor$Builder" "accessKey" "Ljava/lang/String;" .null) (F_a_mfa : Fld Z h0 a "com/example/dhole/dhole/event/Actor$Builder" "mfa" "Ljava/lang/Boolean;" .null) (F_a_sessionCreated : Fld Z h0 a "com/example/dhole/dhole/event/Actor$Builder" "sessionCreated" "Lcom/example/dhole/dhole/event/EventTime;" .null) :
    OCon l Z n0 (⟨"com/example/dhole/dhole/event/Actor$Builder", "build", "()Lcom/example/dhole/dhole/event/Actor;"⟩ : MethodName) prog_5_method_10_code 1 (some (.object "com/example/dhole/dhole/event/Actor")) ({ frames := 2, cells := 1, slots := 8, locals := 28 } : Room) #[(.ref a)] h0 (fun v h => ∃ x : Addr, v = some (.ref x) ∧ Keep h0 h [] ∧ n0 ≤ x ∧ h0.size ≤ x ∧ Exa Z h x "com/example/dhole/dhole/event/Actor" ∧ Fld Z h x "com/example/dhole/dhole/event/Actor" "kind" "Lcom/example/dhole/dhole/event/ActorKind;" (.ref k) ∧ Fld Z h x "com/example/dhole/dhole/event/Actor" "type" "Ljava/lang/String;" .null ∧ Fld Z h x "com/example/dhole/dhole/event/Actor" "mfa" "Ljava/lang/Boolean;" .null) := by
  refine OCon.of (Ls := #[.val (.ref a)]) pn_11 rfl rfl (fun m => by first | (simp [entryFrame, mkF, argsToLocals, Value.category]; done) | rfl) ?_
  intro p e s m below meth c T0 X0 K e0
  have N0 := Fr.nil n0
  have KK0 := Keep.refl h0 []
  refine o_new X0 K d11_0 3 rfl (w_70 hw) (w_71 hw) (w_72 hw) e0 (by decide) (by decide) ?_
  intro T_188 h_188 x g_188 X_188 e_188 E_188 B_188 D_188
  have Z_188 : n0 ≤ h_188.size := Nat.le_trans Z0 E_188.1
  have K_188 := KK0.ext E_188
  have f_189 := Exa.ext E_188 E_a
  have f_190 := Fld.ext E_188 F_a_kind
  have f_191 := Fld.ext E_188 F_a_type
  have f_192 := Fld.ext E_188 F_a_id
  have f_193 := Fld.ext E_188 F_a_account
  have f_194 := Fld.ext E_188 F_a_name
  have f_195 := Fld.ext E_188 F_a_accessKey
  have f_196 := Fld.ext E_188 F_a_mfa
  have f_197 := Fld.ext E_188 F_a_sessionCreated
  have g_x : n0 ≤ x := by rw [g_188]; exact Z0
  have ne_a_x : a ≠ x := by rw [g_188]; exact Nat.ne_of_lt E_a.lt
  have sz_x : h0.size ≤ x := by rw [g_188]; exact KK0.1
  have F_kind__188 : Fld Z h_188 x "com/example/dhole/dhole/event/Actor" "kind" "Lcom/example/dhole/dhole/event/ActorKind;" .null := D_188 (Or.inr (w_79 hw)) (ty := (.object "com/example/dhole/dhole/event/ActorKind")) (by decide)
  have F_type__188 : Fld Z h_188 x "com/example/dhole/dhole/event/Actor" "type" "Ljava/lang/String;" .null := D_188 (Or.inr (w_83 hw)) (ty := (.object "java/lang/String")) (by decide)
  have F_id__188 : Fld Z h_188 x "com/example/dhole/dhole/event/Actor" "id" "Ljava/lang/String;" .null := D_188 (Or.inr (w_87 hw)) (ty := (.object "java/lang/String")) (by decide)
  have F_account__188 : Fld Z h_188 x "com/example/dhole/dhole/event/Actor" "account" "Ljava/lang/String;" .null := D_188 (Or.inr (w_91 hw)) (ty := (.object "java/lang/String")) (by decide)
  have F_name__188 : Fld Z h_188 x "com/example/dhole/dhole/event/Actor" "name" "Ljava/lang/String;" .null := D_188 (Or.inr (w_95 hw)) (ty := (.object "java/lang/String")) (by decide)
  have F_accessKey__188 : Fld Z h_188 x "com/example/dhole/dhole/event/Actor" "accessKey" "Ljava/lang/String;" .null := D_188 (Or.inr (w_99 hw)) (ty := (.object "java/lang/String")) (by decide)
  have F_mfa__188 : Fld Z h_188 x "com/example/dhole/dhole/event/Actor" "mfa" "Ljava/lang/Boolean;" .null := D_188 (Or.inr (w_103 hw)) (ty := (.object "java/lang/Boolean")) (by decide)
  have F_sessionCreated__188 : Fld Z h_188 x "com/example/dhole/dhole/event/Actor" "sessionCreated" "Lcom/example/dhole/dhole/event/EventTime;" .null := D_188 (Or.inr (w_107 hw)) (ty := (.object "com/example/dhole/dhole/event/EventTime")) (by decide)
  refine o_dup X_188 K d11_3 4 rfl rfl ?_
  refine o_aloadN X_188 K d11_4 5 rfl rfl rfl ?_
  refine o_invokespecialN X_188 K d11_5 8 rfl rfl (w_73 hw) (w_74 hw) (w_72 hw) (w_75 hw) (by decide) [(.ref a)] [(.ref x)] rfl  (c_ainit0 l Z a0 hw n0 x a k h_188 Z_188 B_188 F_kind__188 F_type__188 F_id__188 F_account__188 F_name__188 F_accessKey__188 F_mfa__188 F_sessionCreated__188 g_x f_190 f_191 f_192 f_193 f_194 f_195 f_196 f_197 ne_a_x) e_188 rfl (lenOf pd__Lcom_example_dhole_dhole_event_Actor_Builder__V rfl) (by decide) 1 (Nat.le_of_eq rfl) (by decide) (by decide) (by decide) N0 ?_
  rintro _ T_198 h_198 locs_198 X_198 e_198 ⟨rfl, k_198, p_198f0, p_198f1, p_198f2, p_198f3⟩ N_198
  have Z_198 : n0 ≤ h_198.size := Nat.le_trans Z_188 k_198.1
  have K_198 := K_188.trans k_198 (allS (Or.inr sz_x) (all0))
  have f_199 := Exa.keep f_189 k_198
  have f_200 := Fld.keep f_190 k_198 (ninS ne_a_x (nin0))
  have f_201 := Fld.keep f_191 k_198 (ninS ne_a_x (nin0))
  have f_202 := Fld.keep f_192 k_198 (ninS ne_a_x (nin0))
  have f_203 := Fld.keep f_193 k_198 (ninS ne_a_x (nin0))
  have f_204 := Fld.keep f_194 k_198 (ninS ne_a_x (nin0))
  have f_205 := Fld.keep f_195 k_198 (ninS ne_a_x (nin0))
  have f_206 := Fld.keep f_196 k_198 (ninS ne_a_x (nin0))
  have f_207 := Fld.keep f_197 k_198 (ninS ne_a_x (nin0))
  have f_208 := Exa.keep B_188 k_198
  show OGo p e below _ n0 _ (T_198.setTop (mkF m 8 #[.val (.ref a)] [(.ref x)]))
  refine o_areturn X_198 K rfl rfl rfl d11_8 (by decide) (by decide) N_198 ?_
  rw [e_198]
  exact ⟨x, rfl, K_198, g_x, sz_x, p_198f0, p_198f1, p_198f2, p_198f3⟩
theorem d13_0 : decode prog_4_method_3_code 0 = .ok (.aload_n 0, 1) := by decide +kernel
theorem d13_1 : decode prog_4_method_3_code 1 = .ok (.getfield 20, 3) := by decide +kernel
theorem d13_4 : decode prog_4_method_3_code 4 = .ok (.areturn, 1) := by decide +kernel
theorem pn_13 : plainFor (⟨"com/example/dhole/dhole/event/Actor", "type", "()Ljava/lang/String;"⟩ : MethodName) = true := plainFor_of_name (by first | (simp [plainName, overriddenIn]; done) | decide +kernel)
set_option maxHeartbeats 4000000 in
theorem c_atype0 (l : Launch) (Z : State) (a0 : Array Value) (hw : OW Z a0) (n0 : Nat) (a : Addr) (h0 : Heap) (Z0 : n0 ≤ h0.size) (F_a_type : Fld Z h0 a "com/example/dhole/dhole/event/Actor" "type" "Ljava/lang/String;" .null) :
    OCon l Z n0 (⟨"com/example/dhole/dhole/event/Actor", "type", "()Ljava/lang/String;"⟩ : MethodName) prog_4_method_3_code 1 (some (.object "java/lang/String")) ({ frames := 0, cells := 0, slots := 0, locals := 0 } : Room) #[(.ref a)] h0 (fun v h => v = some .null ∧ h = h0) := by
  refine OCon.of (Ls := #[.val (.ref a)]) pn_13 rfl rfl (fun m => by first | (simp [entryFrame, mkF, argsToLocals, Value.category]; done) | rfl) ?_
  intro p e s m below meth c T0 X0 K e0
  have N0 := Fr.nil n0
  refine o_aloadN X0 K d13_0 1 rfl rfl rfl ?_
  refine o_getfield X0 K (host := "") d13_1 4 rfl (Or.inl (w_82 hw)) Via.refl e0 F_a_type ?_
  intro T_209 X_209 e_209
  refine o_areturn X_209 K rfl rfl rfl d13_4 (by decide) (by decide) N0 ?_
  exact ⟨rfl, e_209⟩
set_option maxHeartbeats 4000000 in
theorem c_kind1 (l : Launch) (Z : State) (a0 : Array Value) (hw : OW Z a0) (n0 : Nat) (a k0 k t : Addr) (h0 : Heap) (Z0 : n0 ≤ h0.size) (E_a : Exa Z h0 a "com/example/dhole/dhole/event/Actor$Builder") (F_a_kind : Fld Z h0 a "com/example/dhole/dhole/event/Actor$Builder" "kind" "Lcom/example/dhole/dhole/event/ActorKind;" (.ref k0)) (F_a_type : Fld Z h0 a "com/example/dhole/dhole/event/Actor$Builder" "type" "Ljava/lang/String;" (.ref t)) (F_a_id : Fld Z h0 a "com/example/dhole/dhole/event/Actor$Builder" "id" "Ljava/lang/String;" .null) (F_a_account : Fld Z h0 a "com/example/dhole/dhole/event/Actor$Builder" "account" "Ljava/lang/String;" .null) (F_a_name : Fld Z h0 a "com/example/dhole/dhole/event/Actor$Builder" "name" "Ljava/lang/String;" .null) (F_a_accessKey : Fld Z h0 a "com/example/dhole/dhole/event/Actor$Builder" "accessKey" "Ljava/lang/String;" .null) (F_a_mfa : Fld Z h0 a "com/example/dhole/dhole/event/Actor$Builder" "mfa" "Ljava/lang/Boolean;" .null) (F_a_sessionCreated : Fld Z h0 a "com/example/dhole/dhole/event/Actor$Builder" "sessionCreated" "Lcom/example/dhole/dhole/event/EventTime;" .null) (g_a : n0 ≤ a) (E_k : Exa Z h0 k "com/example/dhole/dhole/event/ActorKind") :
    OConW l Z n0 (⟨"com/example/dhole/dhole/event/Actor$Builder", "kind", "(Lcom/example/dhole/dhole/event/ActorKind;)Lcom/example/dhole/dhole/event/Actor$Builder;"⟩ : MethodName) prog_5_method_2_code 2 (some (.object "com/example/dhole/dhole/event/Actor$Builder")) ({ frames := 1, cells := 2, slots := 20, locals := 14 } : Room) #[(.ref a), (.ref k)] h0 (fun v h => v = some (.ref a) ∧ Keep h0 h [a] ∧ Exa Z h a "com/example/dhole/dhole/event/Actor$Builder" ∧ Fld Z h a "com/example/dhole/dhole/event/Actor$Builder" "kind" "Lcom/example/dhole/dhole/event/ActorKind;" (.ref k) ∧ Fld Z h a "com/example/dhole/dhole/event/Actor$Builder" "type" "Ljava/lang/String;" (.ref t) ∧ Fld Z h a "com/example/dhole/dhole/event/Actor$Builder" "id" "Ljava/lang/String;" .null ∧ Fld Z h a "com/example/dhole/dhole/event/Actor$Builder" "account" "Ljava/lang/String;" .null ∧ Fld Z h a "com/example/dhole/dhole/event/Actor$Builder" "name" "Ljava/lang/String;" .null ∧ Fld Z h a "com/example/dhole/dhole/event/Actor$Builder" "accessKey" "Ljava/lang/String;" .null ∧ Fld Z h a "com/example/dhole/dhole/event/Actor$Builder" "mfa" "Ljava/lang/Boolean;" .null ∧ Fld Z h a "com/example/dhole/dhole/event/Actor$Builder" "sessionCreated" "Lcom/example/dhole/dhole/event/EventTime;" .null) := by
  refine OConW.of (Ls := #[.val (.ref a), .val (.ref k)]) pn_9 rfl rfl (fun m => by first | (simp [entryFrame, mkF, argsToLocals, Value.category]; done) | rfl) ?_
  intro p e s m below meth c T0 vm0 X0 K e0 hS0
  have hk0 : h0.size ≤ h0.size := Nat.le_refl _
  have N0 := Fr.nil n0
  have KK0 := Keep.refl h0 [a]
  refine o_aloadN X0 K d9_0 1 rfl rfl rfl ?_
  refine o_aloadN X0 K d9_1 2 rfl rfl rfl ?_
  refine o_ldcS X0 K hS0 d9_2 4 rfl (w_56 hw) (hwsS_ hw) e0 hk0 16 (by decide +kernel) (by decide) (by decide) (by decide) ?_
  intro T_210 h_210 sc k1_210 X_210 KW_210 e_210 E_210 hS_210 hq_210
  have hk_210 : _ ≤ h_210.size := Nat.le_trans hk0 (E_210.1)
  have Z_210 : n0 ≤ h_210.size := Nat.le_trans Z0 E_210.1
  have K_210 := KK0.ext E_210
  have f_211 := Exa.ext E_210 E_a
  have f_212 := Fld.ext E_210 F_a_kind
  have f_213 := Fld.ext E_210 F_a_type
  have f_214 := Fld.ext E_210 F_a_id
  have f_215 := Fld.ext E_210 F_a_account
  have f_216 := Fld.ext E_210 F_a_name
  have f_217 := Fld.ext E_210 F_a_accessKey
  have f_218 := Fld.ext E_210 F_a_mfa
  have f_219 := Fld.ext E_210 F_a_sessionCreated
  have f_220 := Exa.ext E_210 E_k
  refine o_invokestatic X_210 KW_210 d9_4 7 rfl (w_59 hw) (w_60 hw) (w_61 hw) (w_62 hw) (by decide) [(.ref k), (.ref sc)] [(.ref a)] rfl  (c_rnn l Z a0 hw n0 k sc h_210 Z_210 ) e_210 rfl (lenOf pd__Ljava_lang_Object_Ljava_lang_String__Ljava_lang_Object_ rfl) (by decide) 1 (Nat.le_of_eq rfl) (by decide) (by decide) (by decide) N0 ?_
  rintro _ T_221 h_221 locs_221 X_221 q_221 ⟨rfl, r_221⟩ N_221
  have e_221 := q_221.trans r_221
  show OGo p e below _ n0 _ (T_221.setTop (mkF m 7 #[.val (.ref a), .val (.ref k)] [(.ref k), (.ref a)]))
  refine o_checkcast X_221 KW_210 d9_7 10 rfl (w_63 hw) e_221 (Ins.self f_220) ?_
  intro T_222 X_222 e_222
  refine o_putfield X_222 KW_210 (host := "") (ty := (.object "com/example/dhole/dhole/event/ActorKind")) d9_10 13 rfl (Or.inl (w_49 hw)) Via.refl e_222 f_212 f_211 (Or.inl (w_50 hw)) (w_41 hw) (by decide) rfl rfl N_221 g_a ?_
  intro T_223 h_223 locs_223 X_223 e_223 W_223 N_223
  have hk_223 : _ ≤ h_223.size := Nat.le_trans hq_210 (Nat.le_of_eq (Wr.size W_223).symm)
  have Z_223 : n0 ≤ h_223.size := by rw [Wr.size W_223]; exact Z_210
  have K_223 := K_210.wr W_223 (Or.inl (by simp))
  have f_224 := Exa.wr W_223 f_211
  have f_225 := Fld.same W_223 f_212
  have f_226 := Fld.other W_223 f_213 (Or.inr (slot_ne (Or.inl (w_81 hw)) (Or.inl (w_50 hw)) (by decide) (t := (.object "java/lang/String")) (t' := (.object "com/example/dhole/dhole/event/ActorKind")) (by decide) (by decide)))
  have f_227 := Fld.other W_223 f_214 (Or.inr (slot_ne (Or.inl (w_85 hw)) (Or.inl (w_50 hw)) (by decide) (t := (.object "java/lang/String")) (t' := (.object "com/example/dhole/dhole/event/ActorKind")) (by decide) (by decide)))
  have f_228 := Fld.other W_223 f_215 (Or.inr (slot_ne (Or.inl (w_89 hw)) (Or.inl (w_50 hw)) (by decide) (t := (.object "java/lang/String")) (t' := (.object "com/example/dhole/dhole/event/ActorKind")) (by decide) (by decide)))
  have f_229 := Fld.other W_223 f_216 (Or.inr (slot_ne (Or.inl (w_93 hw)) (Or.inl (w_50 hw)) (by decide) (t := (.object "java/lang/String")) (t' := (.object "com/example/dhole/dhole/event/ActorKind")) (by decide) (by decide)))
  have f_230 := Fld.other W_223 f_217 (Or.inr (slot_ne (Or.inl (w_97 hw)) (Or.inl (w_50 hw)) (by decide) (t := (.object "java/lang/String")) (t' := (.object "com/example/dhole/dhole/event/ActorKind")) (by decide) (by decide)))
  have f_231 := Fld.other W_223 f_218 (Or.inr (slot_ne (Or.inl (w_101 hw)) (Or.inl (w_50 hw)) (by decide) (t := (.object "java/lang/Boolean")) (t' := (.object "com/example/dhole/dhole/event/ActorKind")) (by decide) (by decide)))
  have f_232 := Fld.other W_223 f_219 (Or.inr (slot_ne (Or.inl (w_105 hw)) (Or.inl (w_50 hw)) (by decide) (t := (.object "com/example/dhole/dhole/event/EventTime")) (t' := (.object "com/example/dhole/dhole/event/ActorKind")) (by decide) (by decide)))
  have f_233 := Exa.wr W_223 f_220
  refine o_aloadN X_223 KW_210 d9_13 14 rfl rfl rfl ?_
  refine o_areturnW X_223 hS_210 e_223 hk_223 KW_210 rfl rfl rfl d9_14 (by decide) (by decide) N_223 ?_
  rw [e_223]
  exact ⟨rfl, K_223, f_224, f_225, f_226, f_227, f_228, f_229, f_230, f_231, f_232⟩
set_option maxHeartbeats 4000000 in
theorem c_ainit1 (l : Launch) (Z : State) (a0 : Array Value) (hw : OW Z a0) (n0 : Nat) (x a k t : Addr) (h0 : Heap) (Z0 : n0 ≤ h0.size) (E_x : Exa Z h0 x "com/example/dhole/dhole/event/Actor") (F_x_kind : Fld Z h0 x "com/example/dhole/dhole/event/Actor" "kind" "Lcom/example/dhole/dhole/event/ActorKind;" .null) (F_x_type : Fld Z h0 x "com/example/dhole/dhole/event/Actor" "type" "Ljava/lang/String;" .null) (F_x_id : Fld Z h0 x "com/example/dhole/dhole/event/Actor" "id" "Ljava/lang/String;" .null) (F_x_account : Fld Z h0 x "com/example/dhole/dhole/event/Actor" "account" "Ljava/lang/String;" .null) (F_x_name : Fld Z h0 x "com/example/dhole/dhole/event/Actor" "name" "Ljava/lang/String;" .null) (F_x_accessKey : Fld Z h0 x "com/example/dhole/dhole/event/Actor" "accessKey" "Ljava/lang/String;" .null) (F_x_mfa : Fld Z h0 x "com/example/dhole/dhole/event/Actor" "mfa" "Ljava/lang/Boolean;" .null) (F_x_sessionCreated : Fld Z h0 x "com/example/dhole/dhole/event/Actor" "sessionCreated" "Lcom/example/dhole/dhole/event/EventTime;" .null) (g_x : n0 ≤ x) (F_a_kind : Fld Z h0 a "com/example/dhole/dhole/event/Actor$Builder" "kind" "Lcom/example/dhole/dhole/event/ActorKind;" (.ref k)) (F_a_type : Fld Z h0 a "com/example/dhole/dhole/event/Actor$Builder" "type" "Ljava/lang/String;" (.ref t)) (F_a_id : Fld Z h0 a "com/example/dhole/dhole/event/Actor$Builder" "id" "Ljava/lang/String;" .null) (F_a_account : Fld Z h0 a "com/example/dhole/dhole/event/Actor$Builder" "account" "Ljava/lang/String;" .null) (F_a_name : Fld Z h0 a "com/example/dhole/dhole/event/Actor$Builder" "name" "Ljava/lang/String;" .null) (F_a_accessKey : Fld Z h0 a "com/example/dhole/dhole/event/Actor$Builder" "accessKey" "Ljava/lang/String;" .null) (F_a_mfa : Fld Z h0 a "com/example/dhole/dhole/event/Actor$Builder" "mfa" "Ljava/lang/Boolean;" .null) (F_a_sessionCreated : Fld Z h0 a "com/example/dhole/dhole/event/Actor$Builder" "sessionCreated" "Lcom/example/dhole/dhole/event/EventTime;" .null) (ne_a_x : a ≠ x) :
    OCon l Z n0 (⟨"com/example/dhole/dhole/event/Actor", "<init>", "(Lcom/example/dhole/dhole/event/Actor$Builder;)V"⟩ : MethodName) prog_4_method_1_code 2 none ({ frames := 1, cells := 0, slots := 0, locals := 12 } : Room) #[(.ref x), (.ref a)] h0 (fun v h => v = none ∧ Keep h0 h [x] ∧ Exa Z h x "com/example/dhole/dhole/event/Actor" ∧ Fld Z h x "com/example/dhole/dhole/event/Actor" "kind" "Lcom/example/dhole/dhole/event/ActorKind;" (.ref k) ∧ Fld Z h x "com/example/dhole/dhole/event/Actor" "type" "Ljava/lang/String;" (.ref t) ∧ Fld Z h x "com/example/dhole/dhole/event/Actor" "mfa" "Ljava/lang/Boolean;" .null) := by
  refine OCon.of (Ls := #[.val (.ref x), .val (.ref a)]) pn_12 rfl rfl (fun m => by first | (simp [entryFrame, mkF, argsToLocals, Value.category]; done) | rfl) ?_
  intro p e s m below meth c T0 X0 K e0
  have N0 := Fr.nil n0
  have KK0 := Keep.refl h0 [x]
  refine o_aloadN X0 K d12_0 1 rfl rfl rfl ?_
  refine o_initO X0 K d12_1 4 rfl (w_76 hw) (w_22 hw) (w_23 hw) e0 rfl (by decide) 0 (Nat.le_of_eq rfl) (by decide) ?_
  intro T_234 X_234 e_234
  refine o_aloadN X_234 K d12_4 5 rfl rfl rfl ?_
  refine o_aloadN X_234 K d12_5 6 rfl rfl rfl ?_
  refine o_getfieldR X_234 K d12_6 9 rfl (w_77 hw) e_234 F_a_kind ?_
  refine o_putfield X_234 K (host := "") (ty := (.object "com/example/dhole/dhole/event/ActorKind")) d12_9 12 rfl (Or.inl (w_78 hw)) Via.refl e_234 F_x_kind E_x (Or.inr ⟨(w_79 hw), rfl, rfl⟩) (w_71 hw) (by decide) rfl rfl N0 g_x ?_
  intro T_235 h_235 locs_235 X_235 e_235 W_235 N_235
  have Z_235 : n0 ≤ h_235.size := by rw [Wr.size W_235]; exact Z0
  have K_235 := KK0.wr W_235 (Or.inl (by simp))
  have f_236 := Exa.wr W_235 E_x
  have f_237 := Fld.same W_235 F_x_kind
  have f_238 := Fld.other W_235 F_x_type (Or.inr (slot_ne (Or.inr (w_83 hw)) (Or.inr (w_79 hw)) (by decide) (t := (.object "java/lang/String")) (t' := (.object "com/example/dhole/dhole/event/ActorKind")) (by decide) (by decide)))
  have f_239 := Fld.other W_235 F_x_id (Or.inr (slot_ne (Or.inr (w_87 hw)) (Or.inr (w_79 hw)) (by decide) (t := (.object "java/lang/String")) (t' := (.object "com/example/dhole/dhole/event/ActorKind")) (by decide) (by decide)))
  have f_240 := Fld.other W_235 F_x_account (Or.inr (slot_ne (Or.inr (w_91 hw)) (Or.inr (w_79 hw)) (by decide) (t := (.object "java/lang/String")) (t' := (.object "com/example/dhole/dhole/event/ActorKind")) (by decide) (by decide)))
  have f_241 := Fld.other W_235 F_x_name (Or.inr (slot_ne (Or.inr (w_95 hw)) (Or.inr (w_79 hw)) (by decide) (t := (.object "java/lang/String")) (t' := (.object "com/example/dhole/dhole/event/ActorKind")) (by decide) (by decide)))
  have f_242 := Fld.other W_235 F_x_accessKey (Or.inr (slot_ne (Or.inr (w_99 hw)) (Or.inr (w_79 hw)) (by decide) (t := (.object "java/lang/String")) (t' := (.object "com/example/dhole/dhole/event/ActorKind")) (by decide) (by decide)))
  have f_243 := Fld.other W_235 F_x_mfa (Or.inr (slot_ne (Or.inr (w_103 hw)) (Or.inr (w_79 hw)) (by decide) (t := (.object "java/lang/Boolean")) (t' := (.object "com/example/dhole/dhole/event/ActorKind")) (by decide) (by decide)))
  have f_244 := Fld.other W_235 F_x_sessionCreated (Or.inr (slot_ne (Or.inr (w_107 hw)) (Or.inr (w_79 hw)) (by decide) (t := (.object "com/example/dhole/dhole/event/EventTime")) (t' := (.object "com/example/dhole/dhole/event/ActorKind")) (by decide) (by decide)))
  have f_245 := Fld.other W_235 F_a_kind (Or.inl ne_a_x)
  have f_246 := Fld.other W_235 F_a_type (Or.inl ne_a_x)
  have f_247 := Fld.other W_235 F_a_id (Or.inl ne_a_x)
  have f_248 := Fld.other W_235 F_a_account (Or.inl ne_a_x)
  have f_249 := Fld.other W_235 F_a_name (Or.inl ne_a_x)
  have f_250 := Fld.other W_235 F_a_accessKey (Or.inl ne_a_x)
  have f_251 := Fld.other W_235 F_a_mfa (Or.inl ne_a_x)
  have f_252 := Fld.other W_235 F_a_sessionCreated (Or.inl ne_a_x)
  refine o_aloadN X_235 K d12_12 13 rfl rfl rfl ?_
  refine o_aloadN X_235 K d12_13 14 rfl rfl rfl ?_
  refine o_getfieldR X_235 K d12_14 17 rfl (w_80 hw) e_235 f_246 ?_
  refine o_putfield X_235 K (host := "") (ty := (.object "java/lang/String")) d12_17 20 rfl (Or.inl (w_82 hw)) Via.refl e_235 f_238 f_236 (Or.inr ⟨(w_83 hw), rfl, rfl⟩) (w_71 hw) (by decide) rfl rfl N_235 g_x ?_
  intro T_253 h_253 locs_253 X_253 e_253 W_253 N_253
  have Z_253 : n0 ≤ h_253.size := by rw [Wr.size W_253]; exact Z_235
  have K_253 := K_235.wr W_253 (Or.inl (by simp))
  have f_254 := Exa.wr W_253 f_236
  have f_255 := Fld.other W_253 f_237 (Or.inr (slot_ne (Or.inr (w_79 hw)) (Or.inr (w_83 hw)) (by decide) (t := (.object "com/example/dhole/dhole/event/ActorKind")) (t' := (.object "java/lang/String")) (by decide) (by decide)))
  have f_256 := Fld.same W_253 f_238
  have f_257 := Fld.other W_253 f_239 (Or.inr (slot_ne (Or.inr (w_87 hw)) (Or.inr (w_83 hw)) (by decide) (t := (.object "java/lang/String")) (t' := (.object "java/lang/String")) (by decide) (by decide)))
  have f_258 := Fld.other W_253 f_240 (Or.inr (slot_ne (Or.inr (w_91 hw)) (Or.inr (w_83 hw)) (by decide) (t := (.object "java/lang/String")) (t' := (.object "java/lang/String")) (by decide) (by decide)))
  have f_259 := Fld.other W_253 f_241 (Or.inr (slot_ne (Or.inr (w_95 hw)) (Or.inr (w_83 hw)) (by decide) (t := (.object "java/lang/String")) (t' := (.object "java/lang/String")) (by decide) (by decide)))
  have f_260 := Fld.other W_253 f_242 (Or.inr (slot_ne (Or.inr (w_99 hw)) (Or.inr (w_83 hw)) (by decide) (t := (.object "java/lang/String")) (t' := (.object "java/lang/String")) (by decide) (by decide)))
  have f_261 := Fld.other W_253 f_243 (Or.inr (slot_ne (Or.inr (w_103 hw)) (Or.inr (w_83 hw)) (by decide) (t := (.object "java/lang/Boolean")) (t' := (.object "java/lang/String")) (by decide) (by decide)))
  have f_262 := Fld.other W_253 f_244 (Or.inr (slot_ne (Or.inr (w_107 hw)) (Or.inr (w_83 hw)) (by decide) (t := (.object "com/example/dhole/dhole/event/EventTime")) (t' := (.object "java/lang/String")) (by decide) (by decide)))
  have f_263 := Fld.other W_253 f_245 (Or.inl ne_a_x)
  have f_264 := Fld.other W_253 f_246 (Or.inl ne_a_x)
  have f_265 := Fld.other W_253 f_247 (Or.inl ne_a_x)
  have f_266 := Fld.other W_253 f_248 (Or.inl ne_a_x)
  have f_267 := Fld.other W_253 f_249 (Or.inl ne_a_x)
  have f_268 := Fld.other W_253 f_250 (Or.inl ne_a_x)
  have f_269 := Fld.other W_253 f_251 (Or.inl ne_a_x)
  have f_270 := Fld.other W_253 f_252 (Or.inl ne_a_x)
  refine o_aloadN X_253 K d12_20 21 rfl rfl rfl ?_
  refine o_aloadN X_253 K d12_21 22 rfl rfl rfl ?_
  refine o_getfieldR X_253 K d12_22 25 rfl (w_84 hw) e_253 f_265 ?_
  refine o_putfield X_253 K (host := "") (ty := (.object "java/lang/String")) d12_25 28 rfl (Or.inl (w_86 hw)) Via.refl e_253 f_257 f_254 (Or.inr ⟨(w_87 hw), rfl, rfl⟩) (w_71 hw) (by decide) rfl rfl N_253 g_x ?_
  intro T_271 h_271 locs_271 X_271 e_271 W_271 N_271
  have Z_271 : n0 ≤ h_271.size := by rw [Wr.size W_271]; exact Z_253
  have K_271 := K_253.wr W_271 (Or.inl (by simp))
  have f_272 := Exa.wr W_271 f_254
  have f_273 := Fld.other W_271 f_255 (Or.inr (slot_ne (Or.inr (w_79 hw)) (Or.inr (w_87 hw)) (by decide) (t := (.object "com/example/dhole/dhole/event/ActorKind")) (t' := (.object "java/lang/String")) (by decide) (by decide)))
  have f_274 := Fld.other W_271 f_256 (Or.inr (slot_ne (Or.inr (w_83 hw)) (Or.inr (w_87 hw)) (by decide) (t := (.object "java/lang/String")) (t' := (.object "java/lang/String")) (by decide) (by decide)))
  have f_275 := Fld.same W_271 f_257
  have f_276 := Fld.other W_271 f_258 (Or.inr (slot_ne (Or.inr (w_91 hw)) (Or.inr (w_87 hw)) (by decide) (t := (.object "java/lang/String")) (t' := (.object "java/lang/String")) (by decide) (by decide)))
  have f_277 := Fld.other W_271 f_259 (Or.inr (slot_ne (Or.inr (w_95 hw)) (Or.inr (w_87 hw)) (by decide) (t := (.object "java/lang/String")) (t' := (.object "java/lang/String")) (by decide) (by decide)))
  have f_278 := Fld.other W_271 f_260 (Or.inr (slot_ne (Or.inr (w_99 hw)) (Or.inr (w_87 hw)) (by decide) (t := (.object "java/lang/String")) (t' := (.object "java/lang/String")) (by decide) (by decide)))
  have f_279 := Fld.other W_271 f_261 (Or.inr (slot_ne (Or.inr (w_103 hw)) (Or.inr (w_87 hw)) (by decide) (t := (.object "java/lang/Boolean")) (t' := (.object "java/lang/String")) (by decide) (by decide)))
  have f_280 := Fld.other W_271 f_262 (Or.inr (slot_ne (Or.inr (w_107 hw)) (Or.inr (w_87 hw)) (by decide) (t := (.object "com/example/dhole/dhole/event/EventTime")) (t' := (.object "java/lang/String")) (by decide) (by decide)))
  have f_281 := Fld.other W_271 f_263 (Or.inl ne_a_x)
  have f_282 := Fld.other W_271 f_264 (Or.inl ne_a_x)
  have f_283 := Fld.other W_271 f_265 (Or.inl ne_a_x)
  have f_284 := Fld.other W_271 f_266 (Or.inl ne_a_x)
  have f_285 := Fld.other W_271 f_267 (Or.inl ne_a_x)
  have f_286 := Fld.other W_271 f_268 (Or.inl ne_a_x)
  have f_287 := Fld.other W_271 f_269 (Or.inl ne_a_x)
  have f_288 := Fld.other W_271 f_270 (Or.inl ne_a_x)
  refine o_aloadN X_271 K d12_28 29 rfl rfl rfl ?_
  refine o_aloadN X_271 K d12_29 30 rfl rfl rfl ?_
  refine o_getfieldR X_271 K d12_30 33 rfl (w_88 hw) e_271 f_284 ?_
  refine o_putfield X_271 K (host := "") (ty := (.object "java/lang/String")) d12_33 36 rfl (Or.inl (w_90 hw)) Via.refl e_271 f_276 f_272 (Or.inr ⟨(w_91 hw), rfl, rfl⟩) (w_71 hw) (by decide) rfl rfl N_271 g_x ?_
  intro T_289 h_289 locs_289 X_289 e_289 W_289 N_289
  have Z_289 : n0 ≤ h_289.size := by rw [Wr.size W_289]; exact Z_271
  have K_289 := K_271.wr W_289 (Or.inl (by simp))
  have f_290 := Exa.wr W_289 f_272
  have f_291 := Fld.other W_289 f_273 (Or.inr (slot_ne (Or.inr (w_79 hw)) (Or.inr (w_91 hw)) (by decide) (t := (.object "com/example/dhole/dhole/event/ActorKind")) (t' := (.object "java/lang/String")) (by decide) (by decide)))
  have f_292 := Fld.other W_289 f_274 (Or.inr (slot_ne (Or.inr (w_83 hw)) (Or.inr (w_91 hw)) (by decide) (t := (.object "java/lang/String")) (t' := (.object "java/lang/String")) (by decide) (by decide)))
  have f_293 := Fld.other W_289 f_275 (Or.inr (slot_ne (Or.inr (w_87 hw)) (Or.inr (w_91 hw)) (by decide) (t := (.object "java/lang/String")) (t' := (.object "java/lang/String")) (by decide) (by decide)))
  have f_294 := Fld.same W_289 f_276
  have f_295 := Fld.other W_289 f_277 (Or.inr (slot_ne (Or.inr (w_95 hw)) (Or.inr (w_91 hw)) (by decide) (t := (.object "java/lang/String")) (t' := (.object "java/lang/String")) (by decide) (by decide)))
  have f_296 := Fld.other W_289 f_278 (Or.inr (slot_ne (Or.inr (w_99 hw)) (Or.inr (w_91 hw)) (by decide) (t := (.object "java/lang/String")) (t' := (.object "java/lang/String")) (by decide) (by decide)))
  have f_297 := Fld.other W_289 f_279 (Or.inr (slot_ne (Or.inr (w_103 hw)) (Or.inr (w_91 hw)) (by decide) (t := (.object "java/lang/Boolean")) (t' := (.object "java/lang/String")) (by decide) (by decide)))
  have f_298 := Fld.other W_289 f_280 (Or.inr (slot_ne (Or.inr (w_107 hw)) (Or.inr (w_91 hw)) (by decide) (t := (.object "com/example/dhole/dhole/event/EventTime")) (t' := (.object "java/lang/String")) (by decide) (by decide)))
  have f_299 := Fld.other W_289 f_281 (Or.inl ne_a_x)
  have f_300 := Fld.other W_289 f_282 (Or.inl ne_a_x)
  have f_301 := Fld.other W_289 f_283 (Or.inl ne_a_x)
  have f_302 := Fld.other W_289 f_284 (Or.inl ne_a_x)
  have f_303 := Fld.other W_289 f_285 (Or.inl ne_a_x)
  have f_304 := Fld.other W_289 f_286 (Or.inl ne_a_x)
  have f_305 := Fld.other W_289 f_287 (Or.inl ne_a_x)
  have f_306 := Fld.other W_289 f_288 (Or.inl ne_a_x)
  refine o_aloadN X_289 K d12_36 37 rfl rfl rfl ?_
  refine o_aloadN X_289 K d12_37 38 rfl rfl rfl ?_
  refine o_getfieldR X_289 K d12_38 41 rfl (w_92 hw) e_289 f_303 ?_
  refine o_putfield X_289 K (host := "") (ty := (.object "java/lang/String")) d12_41 44 rfl (Or.inl (w_94 hw)) Via.refl e_289 f_295 f_290 (Or.inr ⟨(w_95 hw), rfl, rfl⟩) (w_71 hw) (by decide) rfl rfl N_289 g_x ?_
  intro T_307 h_307 locs_307 X_307 e_307 W_307 N_307
  have Z_307 : n0 ≤ h_307.size := by rw [Wr.size W_307]; exact Z_289
  have K_307 := K_289.wr W_307 (Or.inl (by simp))
  have f_308 := Exa.wr W_307 f_290
  have f_309 := Fld.other W_307 f_291 (Or.inr (slot_ne (Or.inr (w_79 hw)) (Or.inr (w_95 hw)) (by decide) (t := (.object "com/example/dhole/dhole/event/ActorKind")) (t' := (.object "java/lang/String")) (by decide) (by decide)))
  have f_310 := Fld.other W_307 f_292 (Or.inr (slot_ne (Or.inr (w_83 hw)) (Or.inr (w_95 hw)) (by decide) (t := (.object "java/lang/String")) (t' := (.object "java/lang/String")) (by decide) (by decide)))
  have f_311 := Fld.other W_307 f_293 (Or.inr (slot_ne (Or.inr (w_87 hw)) (Or.inr (w_95 hw)) (by decide) (t := (.object "java/lang/String")) (t' := (.object "java/lang/String")) (by decide) (by decide)))
  have f_312 := Fld.other W_307 f_294 (Or.inr (slot_ne (Or.inr (w_91 hw)) (Or.inr (w_95 hw)) (by decide) (t := (.object "java/lang/String")) (t' := (.object "java/lang/String")) (by decide) (by decide)))
  have f_313 := Fld.same W_307 f_295
  have f_314 := Fld.other W_307 f_296 (Or.inr (slot_ne (Or.inr (w_99 hw)) (Or.inr (w_95 hw)) (by decide) (t := (.object "java/lang/String")) (t' := (.object "java/lang/String")) (by decide) (by decide)))
  have f_315 := Fld.other W_307 f_297 (Or.inr (slot_ne (Or.inr (w_103 hw)) (Or.inr (w_95 hw)) (by decide) (t := (.object "java/lang/Boolean")) (t' := (.object "java/lang/String")) (by decide) (by decide)))
  have f_316 := Fld.other W_307 f_298 (Or.inr (slot_ne (Or.inr (w_107 hw)) (Or.inr (w_95 hw)) (by decide) (t := (.object "com/example/dhole/dhole/event/EventTime")) (t' := (.object "java/lang/String")) (by decide) (by decide)))
  have f_317 := Fld.other W_307 f_299 (Or.inl ne_a_x)
  have f_318 := Fld.other W_307 f_300 (Or.inl ne_a_x)
  have f_319 := Fld.other W_307 f_301 (Or.inl ne_a_x)
  have f_320 := Fld.other W_307 f_302 (Or.inl ne_a_x)
  have f_321 := Fld.other W_307 f_303 (Or.inl ne_a_x)
  have f_322 := Fld.other W_307 f_304 (Or.inl ne_a_x)
  have f_323 := Fld.other W_307 f_305 (Or.inl ne_a_x)
  have f_324 := Fld.other W_307 f_306 (Or.inl ne_a_x)
  refine o_aloadN X_307 K d12_44 45 rfl rfl rfl ?_
  refine o_aloadN X_307 K d12_45 46 rfl rfl rfl ?_
  refine o_getfieldR X_307 K d12_46 49 rfl (w_96 hw) e_307 f_322 ?_
  refine o_putfield X_307 K (host := "") (ty := (.object "java/lang/String")) d12_49 52 rfl (Or.inl (w_98 hw)) Via.refl e_307 f_314 f_308 (Or.inr ⟨(w_99 hw), rfl, rfl⟩) (w_71 hw) (by decide) rfl rfl N_307 g_x ?_
  intro T_325 h_325 locs_325 X_325 e_325 W_325 N_325
  have Z_325 : n0 ≤ h_325.size := by rw [Wr.size W_325]; exact Z_307
  have K_325 := K_307.wr W_325 (Or.inl (by simp))
  have f_326 := Exa.wr W_325 f_308
  have f_327 := Fld.other W_325 f_309 (Or.inr (slot_ne (Or.inr (w_79 hw)) (Or.inr (w_99 hw)) (by decide) (t := (.object "com/example/dhole/dhole/event/ActorKind")) (t' := (.object "java/lang/String")) (by decide) (by decide)))
  have f_328 := Fld.other W_325 f_310 (Or.inr (slot_ne (Or.inr (w_83 hw)) (Or.inr (w_99 hw)) (by decide) (t := (.object "java/lang/String")) (t' := (.object "java/lang/String")) (by decide) (by decide)))
  have f_329 := Fld.other W_325 f_311 (Or.inr (slot_ne (Or.inr (w_87 hw)) (Or.inr (w_99 hw)) (by decide) (t := (.object "java/lang/String")) (t' := (.object "java/lang/String")) (by decide) (by decide)))
  have f_330 := Fld.other W_325 f_312 (Or.inr (slot_ne (Or.inr (w_91 hw)) (Or.inr (w_99 hw)) (by decide) (t := (.object "java/lang/String")) (t' := (.object "java/lang/String")) (by decide) (by decide)))
  have f_331 := Fld.other W_325 f_313 (Or.inr (slot_ne (Or.inr (w_95 hw)) (Or.inr (w_99 hw)) (by decide) (t := (.object "java/lang/String")) (t' := (.object "java/lang/String")) (by decide) (by decide)))
  have f_332 := Fld.same W_325 f_314
  have f_333 := Fld.other W_325 f_315 (Or.inr (slot_ne (Or.inr (w_103 hw)) (Or.inr (w_99 hw)) (by decide) (t := (.object "java/lang/Boolean")) (t' := (.object "java/lang/String")) (by decide) (by decide)))
  have f_334 := Fld.other W_325 f_316 (Or.inr (slot_ne (Or.inr (w_107 hw)) (Or.inr (w_99 hw)) (by decide) (t := (.object "com/example/dhole/dhole/event/EventTime")) (t' := (.object "java/lang/String")) (by decide) (by decide)))
  have f_335 := Fld.other W_325 f_317 (Or.inl ne_a_x)
  have f_336 := Fld.other W_325 f_318 (Or.inl ne_a_x)
  have f_337 := Fld.other W_325 f_319 (Or.inl ne_a_x)
  have f_338 := Fld.other W_325 f_320 (Or.inl ne_a_x)
  have f_339 := Fld.other W_325 f_321 (Or.inl ne_a_x)
  have f_340 := Fld.other W_325 f_322 (Or.inl ne_a_x)
  have f_341 := Fld.other W_325 f_323 (Or.inl ne_a_x)
  have f_342 := Fld.other W_325 f_324 (Or.inl ne_a_x)
  refine o_aloadN X_325 K d12_52 53 rfl rfl rfl ?_
  refine o_aloadN X_325 K d12_53 54 rfl rfl rfl ?_
  refine o_getfieldR X_325 K d12_54 57 rfl (w_100 hw) e_325 f_341 ?_
  refine o_putfield X_325 K (host := "") (ty := (.object "java/lang/Boolean")) d12_57 60 rfl (Or.inl (w_102 hw)) Via.refl e_325 f_333 f_326 (Or.inr ⟨(w_103 hw), rfl, rfl⟩) (w_71 hw) (by decide) rfl rfl N_325 g_x ?_
  intro T_343 h_343 locs_343 X_343 e_343 W_343 N_343
  have Z_343 : n0 ≤ h_343.size := by rw [Wr.size W_343]; exact Z_325
  have K_343 := K_325.wr W_343 (Or.inl (by simp))
  have f_344 := Exa.wr W_343 f_326
  have f_345 := Fld.other W_343 f_327 (Or.inr (slot_ne (Or.inr (w_79 hw)) (Or.inr (w_103 hw)) (by decide) (t := (.object "com/example/dhole/dhole/event/ActorKind")) (t' := (.object "java/lang/Boolean")) (by decide) (by decide)))
  have f_346 := Fld.other W_343 f_328 (Or.inr (slot_ne (Or.inr (w_83 hw)) (Or.inr (w_103 hw)) (by decide) (t := (.object "java/lang/String")) (t' := (.object "java/lang/Boolean")) (by decide) (by decide)))
  have f_347 := Fld.other W_343 f_329 (Or.inr (slot_ne (Or.inr (w_87 hw)) (Or.inr (w_103 hw)) (by decide) (t := (.object "java/lang/String")) (t' := (.object "java/lang/Boolean")) (by decide) (by decide)))
  have f_348 := Fld.other W_343 f_330 (Or.inr (slot_ne (Or.inr (w_91 hw)) (Or.inr (w_103 hw)) (by decide) (t := (.object "java/lang/String")) (t' := (.object "java/lang/Boolean")) (by decide) (by decide)))
  have f_349 := Fld.other W_343 f_331 (Or.inr (slot_ne (Or.inr (w_95 hw)) (Or.inr (w_103 hw)) (by decide) (t := (.object "java/lang/String")) (t' := (.object "java/lang/Boolean")) (by decide) (by decide)))
  have f_350 := Fld.other W_343 f_332 (Or.inr (slot_ne (Or.inr (w_99 hw)) (Or.inr (w_103 hw)) (by decide) (t := (.object "java/lang/String")) (t' := (.object "java/lang/Boolean")) (by decide) (by decide)))
  have f_351 := Fld.same W_343 f_333
  have f_352 := Fld.other W_343 f_334 (Or.inr (slot_ne (Or.inr (w_107 hw)) (Or.inr (w_103 hw)) (by decide) (t := (.object "com/example/dhole/dhole/event/EventTime")) (t' := (.object "java/lang/Boolean")) (by decide) (by decide)))
  have f_353 := Fld.other W_343 f_335 (Or.inl ne_a_x)
  have f_354 := Fld.other W_343 f_336 (Or.inl ne_a_x)
  have f_355 := Fld.other W_343 f_337 (Or.inl ne_a_x)
  have f_356 := Fld.other W_343 f_338 (Or.inl ne_a_x)
  have f_357 := Fld.other W_343 f_339 (Or.inl ne_a_x)
  have f_358 := Fld.other W_343 f_340 (Or.inl ne_a_x)
  have f_359 := Fld.other W_343 f_341 (Or.inl ne_a_x)
  have f_360 := Fld.other W_343 f_342 (Or.inl ne_a_x)
  refine o_aloadN X_343 K d12_60 61 rfl rfl rfl ?_
  refine o_aloadN X_343 K d12_61 62 rfl rfl rfl ?_
  refine o_getfieldR X_343 K d12_62 65 rfl (w_104 hw) e_343 f_360 ?_
  refine o_putfield X_343 K (host := "") (ty := (.object "com/example/dhole/dhole/event/EventTime")) d12_65 68 rfl (Or.inl (w_106 hw)) Via.refl e_343 f_352 f_344 (Or.inr ⟨(w_107 hw), rfl, rfl⟩) (w_71 hw) (by decide) rfl rfl N_343 g_x ?_
  intro T_361 h_361 locs_361 X_361 e_361 W_361 N_361
  have Z_361 : n0 ≤ h_361.size := by rw [Wr.size W_361]; exact Z_343
  have K_361 := K_343.wr W_361 (Or.inl (by simp))
  have f_362 := Exa.wr W_361 f_344
  have f_363 := Fld.other W_361 f_345 (Or.inr (slot_ne (Or.inr (w_79 hw)) (Or.inr (w_107 hw)) (by decide) (t := (.object "com/example/dhole/dhole/event/ActorKind")) (t' := (.object "com/example/dhole/dhole/event/EventTime")) (by decide) (by decide)))
  have f_364 := Fld.other W_361 f_346 (Or.inr (slot_ne (Or.inr (w_83 hw)) (Or.inr (w_107 hw)) (by decide) (t := (.object "java/lang/String")) (t' := (.object "com/example/dhole/dhole/event/EventTime")) (by decide) (by decide)))
  have f_365 := Fld.other W_361 f_347 (Or.inr (slot_ne (Or.inr (w_87 hw)) (Or.inr (w_107 hw)) (by decide) (t := (.object "java/lang/String")) (t' := (.object "com/example/dhole/dhole/event/EventTime")) (by decide) (by decide)))
  have f_366 := Fld.other W_361 f_348 (Or.inr (slot_ne (Or.inr (w_91 hw)) (Or.inr (w_107 hw)) (by decide) (t := (.object "java/lang/String")) (t' := (.object "com/example/dhole/dhole/event/EventTime")) (by decide) (by decide)))
  have f_367 := Fld.other W_361 f_349 (Or.inr (slot_ne (Or.inr (w_95 hw)) (Or.inr (w_107 hw)) (by decide) (t := (.object "java/lang/String")) (t' := (.object "com/example/dhole/dhole/event/EventTime")) (by decide) (by decide)))
  have f_368 := Fld.other W_361 f_350 (Or.inr (slot_ne (Or.inr (w_99 hw)) (Or.inr (w_107 hw)) (by decide) (t := (.object "java/lang/String")) (t' := (.object "com/example/dhole/dhole/event/EventTime")) (by decide) (by decide)))
  have f_369 := Fld.other W_361 f_351 (Or.inr (slot_ne (Or.inr (w_103 hw)) (Or.inr (w_107 hw)) (by decide) (t := (.object "java/lang/Boolean")) (t' := (.object "com/example/dhole/dhole/event/EventTime")) (by decide) (by decide)))
  have f_370 := Fld.same W_361 f_352
  have f_371 := Fld.other W_361 f_353 (Or.inl ne_a_x)
  have f_372 := Fld.other W_361 f_354 (Or.inl ne_a_x)
  have f_373 := Fld.other W_361 f_355 (Or.inl ne_a_x)
  have f_374 := Fld.other W_361 f_356 (Or.inl ne_a_x)
  have f_375 := Fld.other W_361 f_357 (Or.inl ne_a_x)
  have f_376 := Fld.other W_361 f_358 (Or.inl ne_a_x)
  have f_377 := Fld.other W_361 f_359 (Or.inl ne_a_x)
  have f_378 := Fld.other W_361 f_360 (Or.inl ne_a_x)
  refine o_return X_361 K d12_68 (by decide) (by decide) N_361 ?_
  rw [e_361]
  exact ⟨rfl, K_361, f_362, f_363, f_364, f_369⟩
set_option maxHeartbeats 4000000 in
theorem c_build1 (l : Launch) (Z : State) (a0 : Array Value) (hw : OW Z a0) (n0 : Nat) (a k t : Addr) (h0 : Heap) (Z0 : n0 ≤ h0.size) (E_a : Exa Z h0 a "com/example/dhole/dhole/event/Actor$Builder") (F_a_kind : Fld Z h0 a "com/example/dhole/dhole/event/Actor$Builder" "kind" "Lcom/example/dhole/dhole/event/ActorKind;" (.ref k)) (F_a_type : Fld Z h0 a "com/example/dhole/dhole/event/Actor$Builder" "type" "Ljava/lang/String;" (.ref t)) (F_a_id : Fld Z h0 a "com/example/dhole/dhole/event/Actor$Builder" "id" "Ljava/lang/String;" .null) (F_a_account : Fld Z h0 a "com/example/dhole/dhole/event/Actor$Builder" "account" "Ljava/lang/String;" .null) (F_a_name : Fld Z h0 a "com/example/dhole/dhole/event/Actor$Builder" "name" "Ljava/lang/String;" .null) (F_a_accessKey : Fld Z h0 a "com/example/dhole/dhole/event/Actor$Builder" "accessKey" "Ljava/lang/String;" .null) (F_a_mfa : Fld Z h0 a "com/example/dhole/dhole/event/Actor$Builder" "mfa" "Ljava/lang/Boolean;" .null) (F_a_sessionCreated : Fld Z h0 a "com/example/dhole/dhole/event/Actor$Builder" "sessionCreated" "Lcom/example/dhole/dhole/event/EventTime;" .null) :
    OCon l Z n0 (⟨"com/example/dhole/dhole/event/Actor$Builder", "build", "()Lcom/example/dhole/dhole/event/Actor;"⟩ : MethodName) prog_5_method_10_code 1 (some (.object "com/example/dhole/dhole/event/Actor")) ({ frames := 2, cells := 1, slots := 8, locals := 28 } : Room) #[(.ref a)] h0 (fun v h => ∃ x : Addr, v = some (.ref x) ∧ Keep h0 h [] ∧ n0 ≤ x ∧ h0.size ≤ x ∧ Exa Z h x "com/example/dhole/dhole/event/Actor" ∧ Fld Z h x "com/example/dhole/dhole/event/Actor" "kind" "Lcom/example/dhole/dhole/event/ActorKind;" (.ref k) ∧ Fld Z h x "com/example/dhole/dhole/event/Actor" "type" "Ljava/lang/String;" (.ref t) ∧ Fld Z h x "com/example/dhole/dhole/event/Actor" "mfa" "Ljava/lang/Boolean;" .null) := by
  refine OCon.of (Ls := #[.val (.ref a)]) pn_11 rfl rfl (fun m => by first | (simp [entryFrame, mkF, argsToLocals, Value.category]; done) | rfl) ?_
  intro p e s m below meth c T0 X0 K e0
  have N0 := Fr.nil n0
  have KK0 := Keep.refl h0 []
  refine o_new X0 K d11_0 3 rfl (w_70 hw) (w_71 hw) (w_72 hw) e0 (by decide) (by decide) ?_
  intro T_379 h_379 x g_379 X_379 e_379 E_379 B_379 D_379
  have Z_379 : n0 ≤ h_379.size := Nat.le_trans Z0 E_379.1
  have K_379 := KK0.ext E_379
  have f_380 := Exa.ext E_379 E_a
  have f_381 := Fld.ext E_379 F_a_kind
  have f_382 := Fld.ext E_379 F_a_type
  have f_383 := Fld.ext E_379 F_a_id
  have f_384 := Fld.ext E_379 F_a_account
  have f_385 := Fld.ext E_379 F_a_name
  have f_386 := Fld.ext E_379 F_a_accessKey
  have f_387 := Fld.ext E_379 F_a_mfa
  have f_388 := Fld.ext E_379 F_a_sessionCreated
  have g_x : n0 ≤ x := by rw [g_379]; exact Z0
  have ne_a_x : a ≠ x := by rw [g_379]; exact Nat.ne_of_lt E_a.lt
  have sz_x : h0.size ≤ x := by rw [g_379]; exact KK0.1
  have F_kind__379 : Fld Z h_379 x "com/example/dhole/dhole/event/Actor" "kind" "Lcom/example/dhole/dhole/event/ActorKind;" .null := D_379 (Or.inr (w_79 hw)) (ty := (.object "com/example/dhole/dhole/event/ActorKind")) (by decide)
  have F_type__379 : Fld Z h_379 x "com/example/dhole/dhole/event/Actor" "type" "Ljava/lang/String;" .null := D_379 (Or.inr (w_83 hw)) (ty := (.object "java/lang/String")) (by decide)
  have F_id__379 : Fld Z h_379 x "com/example/dhole/dhole/event/Actor" "id" "Ljava/lang/String;" .null := D_379 (Or.inr (w_87 hw)) (ty := (.object "java/lang/String")) (by decide)
  have F_account__379 : Fld Z h_379 x "com/example/dhole/dhole/event/Actor" "account" "Ljava/lang/String;" .null := D_379 (Or.inr (w_91 hw)) (ty := (.object "java/lang/String")) (by decide)
  have F_name__379 : Fld Z h_379 x "com/example/dhole/dhole/event/Actor" "name" "Ljava/lang/String;" .null := D_379 (Or.inr (w_95 hw)) (ty := (.object "java/lang/String")) (by decide)
  have F_accessKey__379 : Fld Z h_379 x "com/example/dhole/dhole/event/Actor" "accessKey" "Ljava/lang/String;" .null := D_379 (Or.inr (w_99 hw)) (ty := (.object "java/lang/String")) (by decide)
  have F_mfa__379 : Fld Z h_379 x "com/example/dhole/dhole/event/Actor" "mfa" "Ljava/lang/Boolean;" .null := D_379 (Or.inr (w_103 hw)) (ty := (.object "java/lang/Boolean")) (by decide)
  have F_sessionCreated__379 : Fld Z h_379 x "com/example/dhole/dhole/event/Actor" "sessionCreated" "Lcom/example/dhole/dhole/event/EventTime;" .null := D_379 (Or.inr (w_107 hw)) (ty := (.object "com/example/dhole/dhole/event/EventTime")) (by decide)
  refine o_dup X_379 K d11_3 4 rfl rfl ?_
  refine o_aloadN X_379 K d11_4 5 rfl rfl rfl ?_
  refine o_invokespecialN X_379 K d11_5 8 rfl rfl (w_73 hw) (w_74 hw) (w_72 hw) (w_75 hw) (by decide) [(.ref a)] [(.ref x)] rfl  (c_ainit1 l Z a0 hw n0 x a k t h_379 Z_379 B_379 F_kind__379 F_type__379 F_id__379 F_account__379 F_name__379 F_accessKey__379 F_mfa__379 F_sessionCreated__379 g_x f_381 f_382 f_383 f_384 f_385 f_386 f_387 f_388 ne_a_x) e_379 rfl (lenOf pd__Lcom_example_dhole_dhole_event_Actor_Builder__V rfl) (by decide) 1 (Nat.le_of_eq rfl) (by decide) (by decide) (by decide) N0 ?_
  rintro _ T_389 h_389 locs_389 X_389 e_389 ⟨rfl, k_389, p_389f0, p_389f1, p_389f2, p_389f3⟩ N_389
  have Z_389 : n0 ≤ h_389.size := Nat.le_trans Z_379 k_389.1
  have K_389 := K_379.trans k_389 (allS (Or.inr sz_x) (all0))
  have f_390 := Exa.keep f_380 k_389
  have f_391 := Fld.keep f_381 k_389 (ninS ne_a_x (nin0))
  have f_392 := Fld.keep f_382 k_389 (ninS ne_a_x (nin0))
  have f_393 := Fld.keep f_383 k_389 (ninS ne_a_x (nin0))
  have f_394 := Fld.keep f_384 k_389 (ninS ne_a_x (nin0))
  have f_395 := Fld.keep f_385 k_389 (ninS ne_a_x (nin0))
  have f_396 := Fld.keep f_386 k_389 (ninS ne_a_x (nin0))
  have f_397 := Fld.keep f_387 k_389 (ninS ne_a_x (nin0))
  have f_398 := Fld.keep f_388 k_389 (ninS ne_a_x (nin0))
  have f_399 := Exa.keep B_379 k_389
  show OGo p e below _ n0 _ (T_389.setTop (mkF m 8 #[.val (.ref a)] [(.ref x)]))
  refine o_areturn X_389 K rfl rfl rfl d11_8 (by decide) (by decide) N_389 ?_
  rw [e_389]
  exact ⟨x, rfl, K_389, g_x, sz_x, p_389f0, p_389f1, p_389f2, p_389f3⟩
set_option maxHeartbeats 4000000 in
theorem c_atype1 (l : Launch) (Z : State) (a0 : Array Value) (hw : OW Z a0) (n0 : Nat) (a t : Addr) (h0 : Heap) (Z0 : n0 ≤ h0.size) (F_a_type : Fld Z h0 a "com/example/dhole/dhole/event/Actor" "type" "Ljava/lang/String;" (.ref t)) :
    OCon l Z n0 (⟨"com/example/dhole/dhole/event/Actor", "type", "()Ljava/lang/String;"⟩ : MethodName) prog_4_method_3_code 1 (some (.object "java/lang/String")) ({ frames := 0, cells := 0, slots := 0, locals := 0 } : Room) #[(.ref a)] h0 (fun v h => v = some (.ref t) ∧ h = h0) := by
  refine OCon.of (Ls := #[.val (.ref a)]) pn_13 rfl rfl (fun m => by first | (simp [entryFrame, mkF, argsToLocals, Value.category]; done) | rfl) ?_
  intro p e s m below meth c T0 X0 K e0
  have N0 := Fr.nil n0
  refine o_aloadN X0 K d13_0 1 rfl rfl rfl ?_
  refine o_getfield X0 K (host := "") d13_1 4 rfl (Or.inl (w_82 hw)) Via.refl e0 F_a_type ?_
  intro T_400 X_400 e_400
  refine o_areturn X_400 K rfl rfl rfl d13_4 (by decide) (by decide) N0 ?_
  exact ⟨rfl, e_400⟩
theorem d16_0 : decode prog_5_method_3_code 0 = .ok (.aload_n 0, 1) := by decide +kernel
theorem d16_1 : decode prog_5_method_3_code 1 = .ok (.aload_n 1, 1) := by decide +kernel
theorem d16_2 : decode prog_5_method_3_code 2 = .ok (.putfield 25, 3) := by decide +kernel
theorem d16_5 : decode prog_5_method_3_code 5 = .ok (.aload_n 0, 1) := by decide +kernel
theorem d16_6 : decode prog_5_method_3_code 6 = .ok (.areturn, 1) := by decide +kernel
theorem pn_16 : plainFor (⟨"com/example/dhole/dhole/event/Actor$Builder", "type", "(Ljava/lang/String;)Lcom/example/dhole/dhole/event/Actor$Builder;"⟩ : MethodName) = true := plainFor_of_name (by first | (simp [plainName, overriddenIn]; done) | decide +kernel)
set_option maxHeartbeats 4000000 in
theorem c_btype (l : Launch) (Z : State) (a0 : Array Value) (hw : OW Z a0) (n0 : Nat) (a k t : Addr) (h0 : Heap) (Z0 : n0 ≤ h0.size) (E_a : Exa Z h0 a "com/example/dhole/dhole/event/Actor$Builder") (F_a_kind : Fld Z h0 a "com/example/dhole/dhole/event/Actor$Builder" "kind" "Lcom/example/dhole/dhole/event/ActorKind;" (.ref k)) (F_a_type : Fld Z h0 a "com/example/dhole/dhole/event/Actor$Builder" "type" "Ljava/lang/String;" .null) (F_a_id : Fld Z h0 a "com/example/dhole/dhole/event/Actor$Builder" "id" "Ljava/lang/String;" .null) (F_a_account : Fld Z h0 a "com/example/dhole/dhole/event/Actor$Builder" "account" "Ljava/lang/String;" .null) (F_a_name : Fld Z h0 a "com/example/dhole/dhole/event/Actor$Builder" "name" "Ljava/lang/String;" .null) (F_a_accessKey : Fld Z h0 a "com/example/dhole/dhole/event/Actor$Builder" "accessKey" "Ljava/lang/String;" .null) (F_a_mfa : Fld Z h0 a "com/example/dhole/dhole/event/Actor$Builder" "mfa" "Ljava/lang/Boolean;" .null) (F_a_sessionCreated : Fld Z h0 a "com/example/dhole/dhole/event/Actor$Builder" "sessionCreated" "Lcom/example/dhole/dhole/event/EventTime;" .null) (g_a : n0 ≤ a) :
    OCon l Z n0 (⟨"com/example/dhole/dhole/event/Actor$Builder", "type", "(Ljava/lang/String;)Lcom/example/dhole/dhole/event/Actor$Builder;"⟩ : MethodName) prog_5_method_3_code 2 (some (.object "com/example/dhole/dhole/event/Actor$Builder")) ({ frames := 0, cells := 0, slots := 0, locals := 0 } : Room) #[(.ref a), (.ref t)] h0 (fun v h => v = some (.ref a) ∧ Keep h0 h [a] ∧ Exa Z h a "com/example/dhole/dhole/event/Actor$Builder" ∧ Fld Z h a "com/example/dhole/dhole/event/Actor$Builder" "kind" "Lcom/example/dhole/dhole/event/ActorKind;" (.ref k) ∧ Fld Z h a "com/example/dhole/dhole/event/Actor$Builder" "type" "Ljava/lang/String;" (.ref t) ∧ Fld Z h a "com/example/dhole/dhole/event/Actor$Builder" "id" "Ljava/lang/String;" .null ∧ Fld Z h a "com/example/dhole/dhole/event/Actor$Builder" "account" "Ljava/lang/String;" .null ∧ Fld Z h a "com/example/dhole/dhole/event/Actor$Builder" "name" "Ljava/lang/String;" .null ∧ Fld Z h a "com/example/dhole/dhole/event/Actor$Builder" "accessKey" "Ljava/lang/String;" .null ∧ Fld Z h a "com/example/dhole/dhole/event/Actor$Builder" "mfa" "Ljava/lang/Boolean;" .null ∧ Fld Z h a "com/example/dhole/dhole/event/Actor$Builder" "sessionCreated" "Lcom/example/dhole/dhole/event/EventTime;" .null) := by
  refine OCon.of (Ls := #[.val (.ref a), .val (.ref t)]) pn_16 rfl rfl (fun m => by first | (simp [entryFrame, mkF, argsToLocals, Value.category]; done) | rfl) ?_
  intro p e s m below meth c T0 X0 K e0
  have N0 := Fr.nil n0
  have KK0 := Keep.refl h0 [a]
  refine o_aloadN X0 K d16_0 1 rfl rfl rfl ?_
  refine o_aloadN X0 K d16_1 2 rfl rfl rfl ?_
  refine o_putfield X0 K (host := "") (ty := (.object "java/lang/String")) d16_2 5 rfl (Or.inl (w_130 hw)) Via.refl e0 F_a_type E_a (Or.inl (w_81 hw)) (w_41 hw) (by decide) rfl rfl N0 g_a ?_
  intro T_401 h_401 locs_401 X_401 e_401 W_401 N_401
  have Z_401 : n0 ≤ h_401.size := by rw [Wr.size W_401]; exact Z0
  have K_401 := KK0.wr W_401 (Or.inl (by simp))
  have f_402 := Exa.wr W_401 E_a
  have f_403 := Fld.other W_401 F_a_kind (Or.inr (slot_ne (Or.inl (w_50 hw)) (Or.inl (w_81 hw)) (by decide) (t := (.object "com/example/dhole/dhole/event/ActorKind")) (t' := (.object "java/lang/String")) (by decide) (by decide)))
  have f_404 := Fld.same W_401 F_a_type
  have f_405 := Fld.other W_401 F_a_id (Or.inr (slot_ne (Or.inl (w_85 hw)) (Or.inl (w_81 hw)) (by decide) (t := (.object "java/lang/String")) (t' := (.object "java/lang/String")) (by decide) (by decide)))
  have f_406 := Fld.other W_401 F_a_account (Or.inr (slot_ne (Or.inl (w_89 hw)) (Or.inl (w_81 hw)) (by decide) (t := (.object "java/lang/String")) (t' := (.object "java/lang/String")) (by decide) (by decide)))
  have f_407 := Fld.other W_401 F_a_name (Or.inr (slot_ne (Or.inl (w_93 hw)) (Or.inl (w_81 hw)) (by decide) (t := (.object "java/lang/String")) (t' := (.object "java/lang/String")) (by decide) (by decide)))
  have f_408 := Fld.other W_401 F_a_accessKey (Or.inr (slot_ne (Or.inl (w_97 hw)) (Or.inl (w_81 hw)) (by decide) (t := (.object "java/lang/String")) (t' := (.object "java/lang/String")) (by decide) (by decide)))
  have f_409 := Fld.other W_401 F_a_mfa (Or.inr (slot_ne (Or.inl (w_101 hw)) (Or.inl (w_81 hw)) (by decide) (t := (.object "java/lang/Boolean")) (t' := (.object "java/lang/String")) (by decide) (by decide)))
  have f_410 := Fld.other W_401 F_a_sessionCreated (Or.inr (slot_ne (Or.inl (w_105 hw)) (Or.inl (w_81 hw)) (by decide) (t := (.object "com/example/dhole/dhole/event/EventTime")) (t' := (.object "java/lang/String")) (by decide) (by decide)))
  refine o_aloadN X_401 K d16_5 6 rfl rfl rfl ?_
  refine o_areturn X_401 K rfl rfl rfl d16_6 (by decide) (by decide) N_401 ?_
  rw [e_401]
  exact ⟨rfl, K_401, f_402, f_403, f_404, f_405, f_406, f_407, f_408, f_409, f_410⟩
theorem d14_0 : decode prog_4_method_2_code 0 = .ok (.aload_n 0, 1) := by decide +kernel
theorem d14_1 : decode prog_4_method_2_code 1 = .ok (.getfield 13, 3) := by decide +kernel
theorem d14_4 : decode prog_4_method_2_code 4 = .ok (.areturn, 1) := by decide +kernel
theorem pn_14 : plainFor (⟨"com/example/dhole/dhole/event/Actor", "kind", "()Lcom/example/dhole/dhole/event/ActorKind;"⟩ : MethodName) = true := plainFor_of_name (by first | (simp [plainName, overriddenIn]; done) | decide +kernel)
set_option maxHeartbeats 4000000 in
theorem c_akind (l : Launch) (Z : State) (a0 : Array Value) (hw : OW Z a0) (n0 : Nat) (a k : Addr) (h0 : Heap) (Z0 : n0 ≤ h0.size) (F_a_kind : Fld Z h0 a "com/example/dhole/dhole/event/Actor" "kind" "Lcom/example/dhole/dhole/event/ActorKind;" (.ref k)) :
    OCon l Z n0 (⟨"com/example/dhole/dhole/event/Actor", "kind", "()Lcom/example/dhole/dhole/event/ActorKind;"⟩ : MethodName) prog_4_method_2_code 1 (some (.object "com/example/dhole/dhole/event/ActorKind")) ({ frames := 0, cells := 0, slots := 0, locals := 0 } : Room) #[(.ref a)] h0 (fun v h => v = some (.ref k) ∧ h = h0) := by
  refine OCon.of (Ls := #[.val (.ref a)]) pn_14 rfl rfl (fun m => by first | (simp [entryFrame, mkF, argsToLocals, Value.category]; done) | rfl) ?_
  intro p e s m below meth c T0 X0 K e0
  have N0 := Fr.nil n0
  refine o_aloadN X0 K d14_0 1 rfl rfl rfl ?_
  refine o_getfield X0 K (host := "") d14_1 4 rfl (Or.inl (w_78 hw)) Via.refl e0 F_a_kind ?_
  intro T_411 X_411 e_411
  refine o_areturn X_411 K rfl rfl rfl d14_4 (by decide) (by decide) N0 ?_
  exact ⟨rfl, e_411⟩
theorem d15_0 : decode prog_4_method_8_code 0 = .ok (.aload_n 0, 1) := by decide +kernel
theorem d15_1 : decode prog_4_method_8_code 1 = .ok (.getfield 41, 3) := by decide +kernel
theorem d15_4 : decode prog_4_method_8_code 4 = .ok (.areturn, 1) := by decide +kernel
theorem pn_15 : plainFor (⟨"com/example/dhole/dhole/event/Actor", "mfa", "()Ljava/lang/Boolean;"⟩ : MethodName) = true := plainFor_of_name (by first | (simp [plainName, overriddenIn]; done) | decide +kernel)
set_option maxHeartbeats 4000000 in
theorem c_amfa (l : Launch) (Z : State) (a0 : Array Value) (hw : OW Z a0) (n0 : Nat) (a : Addr) (h0 : Heap) (Z0 : n0 ≤ h0.size) (F_a_mfa : Fld Z h0 a "com/example/dhole/dhole/event/Actor" "mfa" "Ljava/lang/Boolean;" .null) :
    OCon l Z n0 (⟨"com/example/dhole/dhole/event/Actor", "mfa", "()Ljava/lang/Boolean;"⟩ : MethodName) prog_4_method_8_code 1 (some (.object "java/lang/Boolean")) ({ frames := 0, cells := 0, slots := 0, locals := 0 } : Room) #[(.ref a)] h0 (fun v h => v = some .null ∧ h = h0) := by
  refine OCon.of (Ls := #[.val (.ref a)]) pn_15 rfl rfl (fun m => by first | (simp [entryFrame, mkF, argsToLocals, Value.category]; done) | rfl) ?_
  intro p e s m below meth c T0 X0 K e0
  have N0 := Fr.nil n0
  refine o_aloadN X0 K d15_0 1 rfl rfl rfl ?_
  refine o_getfield X0 K (host := "") d15_1 4 rfl (Or.inl (w_102 hw)) Via.refl e0 F_a_mfa ?_
  intro T_412 X_412 e_412
  refine o_areturn X_412 K rfl rfl rfl d15_4 (by decide) (by decide) N0 ?_
  exact ⟨rfl, e_412⟩
theorem d17_0 : decode jdk_42_method_66_code 0 = .ok (.aload_n 0, 1) := by decide +kernel
theorem d17_1 : decode jdk_42_method_66_code 1 = .ok (.aload_n 1, 1) := by decide +kernel
theorem d17_2 : decode jdk_42_method_66_code 2 = .ok (.if_acmp .ne 5, 3) := by decide +kernel
theorem d17_5 : decode jdk_42_method_66_code 5 = .ok (.iconst 1, 1) := by decide +kernel
theorem d17_6 : decode jdk_42_method_66_code 6 = .ok (.ireturn, 1) := by decide +kernel
theorem pn_17 : plainFor (⟨"java/lang/String", "equals", "(Ljava/lang/Object;)Z"⟩ : MethodName) = true := plainFor_of_name (by first | (simp [plainName, overriddenIn]; done) | decide +kernel)
set_option maxHeartbeats 4000000 in
theorem c_seq (l : Launch) (Z : State) (a0 : Array Value) (hw : OW Z a0) (n0 : Nat) (a : Addr) (h0 : Heap) (Z0 : n0 ≤ h0.size) :
    OCon l Z n0 (⟨"java/lang/String", "equals", "(Ljava/lang/Object;)Z"⟩ : MethodName) jdk_42_method_66_code 3 (some .boolean) ({ frames := 0, cells := 0, slots := 0, locals := 0 } : Room) #[(.ref a), (.ref a)] h0 (fun v h => v = some (.int (1 : Int32)) ∧ h = h0) := by
  refine OCon.of (Ls := #[.val (.ref a), .val (.ref a), .unset]) pn_17 rfl rfl (fun m => by first | (simp [entryFrame, mkF, argsToLocals, Value.category]; done) | rfl) ?_
  intro p e s m below meth c T0 X0 K e0
  have N0 := Fr.nil n0
  refine o_aloadN X0 K d17_0 1 rfl rfl rfl ?_
  refine o_aloadN X0 K d17_1 2 rfl rfl rfl ?_
  refine o_acmp X0 K d17_2 5 rfl rfl true (decide_eq_true rfl) (by decide) (by decide) ?_
  refine o_iconst X0 K (1 : Int32) d17_5 6 rfl rfl ?_
  refine o_ireturnN X0 K (by decide) d17_6 (by decide) (by decide) N0 ?_
  exact ⟨rfl, e0⟩
theorem o_all1 {P : Int32 → Prop} {a : Int32} (h1 : P a) : ∀ c ∈ [a], P c := by
  intro c hc
  rw [List.mem_singleton] at hc
  subst hc
  exact h1
theorem pd__I_Lcom_example_dhole_dhole_event_ActorKind_ : parseMethodDescriptor "(I)Lcom/example/dhole/dhole/event/ActorKind;" = some ⟨[.int], some (.object "com/example/dhole/dhole/event/ActorKind")⟩ := by decide +kernel
theorem pd___V : parseMethodDescriptor "()V" = some ⟨[], none⟩ := by decide +kernel
theorem pd___Lcom_example_dhole_dhole_event_Actor_ : parseMethodDescriptor "()Lcom/example/dhole/dhole/event/Actor;" = some ⟨[], some (.object "com/example/dhole/dhole/event/Actor")⟩ := by decide +kernel
theorem pd___Ljava_lang_String_ : parseMethodDescriptor "()Ljava/lang/String;" = some ⟨[], some (.object "java/lang/String")⟩ := by decide +kernel
theorem pd___Lcom_example_dhole_dhole_event_ActorKind_ : parseMethodDescriptor "()Lcom/example/dhole/dhole/event/ActorKind;" = some ⟨[], some (.object "com/example/dhole/dhole/event/ActorKind")⟩ := by decide +kernel
theorem pd___Ljava_lang_Boolean_ : parseMethodDescriptor "()Ljava/lang/Boolean;" = some ⟨[], some (.object "java/lang/Boolean")⟩ := by decide +kernel
theorem pd__Lcom_example_dhole_dhole_event_ActorKind__Lcom_example_dhole_dhole_event_Actor_Builder_ : parseMethodDescriptor "(Lcom/example/dhole/dhole/event/ActorKind;)Lcom/example/dhole/dhole/event/Actor$Builder;" = some ⟨[(.object "com/example/dhole/dhole/event/ActorKind")], some (.object "com/example/dhole/dhole/event/Actor$Builder")⟩ := by decide +kernel
theorem pd__Ljava_lang_String__Lcom_example_dhole_dhole_event_Actor_Builder_ : parseMethodDescriptor "(Ljava/lang/String;)Lcom/example/dhole/dhole/event/Actor$Builder;" = some ⟨[(.object "java/lang/String")], some (.object "com/example/dhole/dhole/event/Actor$Builder")⟩ := by decide +kernel
theorem pd__Ljava_lang_Object__Z : parseMethodDescriptor "(Ljava/lang/Object;)Z" = some ⟨[(.object "java/lang/Object")], some .boolean⟩ := by decide +kernel
theorem pn_0 : plainFor x = true := plainFor_of_name (by first | (simp [plainName, overriddenIn, x]; done) | decide +kernel)
set_option maxHeartbeats 4000000 in
theorem rm0 (l : Launch) (Z : State) (a0 : Array Value) (hw : OW Z a0) (n0 : Nat) (p0 p1 p2 p3 zcs : Int32) (r0 r1 r2 r3 r4 : Addr) (h0 : Heap) (Z0 : n0 ≤ h0.size) (S_COMPACT_STRINGS : Sta Z h0 "java/lang/String" "COMPACT_STRINGS" "Z" (.int zcs)) (hcs : ¬ zcs = 0) (S_ROOT : Sta Z h0 "com/example/dhole/dhole/event/ActorKind" "ROOT" "Lcom/example/dhole/dhole/event/ActorKind;" (.ref r0)) (S_USER : Sta Z h0 "com/example/dhole/dhole/event/ActorKind" "USER" "Lcom/example/dhole/dhole/event/ActorKind;" (.ref r1)) (S_ROLE : Sta Z h0 "com/example/dhole/dhole/event/ActorKind" "ROLE" "Lcom/example/dhole/dhole/event/ActorKind;" (.ref r2)) (S_SERVICE : Sta Z h0 "com/example/dhole/dhole/event/ActorKind" "SERVICE" "Lcom/example/dhole/dhole/event/ActorKind;" (.ref r3)) (S_UNKNOWN : Sta Z h0 "com/example/dhole/dhole/event/ActorKind" "UNKNOWN" "Lcom/example/dhole/dhole/event/ActorKind;" (.ref r4)) (E_r0 : Exa Z h0 r0 "com/example/dhole/dhole/event/ActorKind") (E_r1 : Exa Z h0 r1 "com/example/dhole/dhole/event/ActorKind") (E_r2 : Exa Z h0 r2 "com/example/dhole/dhole/event/ActorKind") (E_r3 : Exa Z h0 r3 "com/example/dhole/dhole/event/ActorKind") (E_r4 : Exa Z h0 r4 "com/example/dhole/dhole/event/ActorKind") :
    OConW l Z n0 x code maxLocals ret room_1 #[(.int p0), (.int p1), (.int p2), (.int p3)] h0 (fun v _ => v = some (.int 1)) := by
  refine OConW.of (Ls := #[.val (.int p0), .val (.int p1), .val (.int p2), .val (.int p3), .unset, .unset, .unset, .unset, .unset, .unset, .unset, .unset, .unset, .unset, .unset, .unset]) pn_0 rfl rfl (fun m => by first | (simp [entryFrame, mkF, argsToLocals, Value.category, maxLocals]; done) | rfl) ?_
  intro p e s m below meth c T0 vm0 X0 K e0 hS0
  have hk0 : h0.size ≤ h0.size := Nat.le_refl _
  have N0 := Fr.nil n0
  refine o_iloadN X0 K at_0 1 rfl rfl ?_
  refine o_invokestatic X0 K at_1 4 rfl (w_0 hw) (w_1 hw) (w_2 hw) (w_3 hw) (by decide) [(.int p0)] [] rfl  (c_pick l Z a0 hw n0 p0 r0 r1 r2 r3 r4 h0 Z0 S_ROOT S_USER S_ROLE S_SERVICE S_UNKNOWN E_r0 E_r1 E_r2 E_r3 E_r4) e0 rfl (lenOf pd__I_Lcom_example_dhole_dhole_event_ActorKind_ rfl) (by decide) 0 (Nat.le_of_eq rfl) (by decide) (by decide) (by decide) N0 ?_
  rintro _ T_413 h_413 locs_413 X_413 q_413 ⟨ka, rfl, E_413, r_413⟩ N_413
  have e_413 := q_413.trans r_413
  show OGo p e below _ n0 _ (T_413.setTop (mkF m 4 #[.val (.int p0), .val (.int p1), .val (.int p2), .val (.int p3), .unset, .unset, .unset, .unset, .unset, .unset, .unset, .unset, .unset, .unset, .unset, .unset] [(.ref ka)]))
  refine o_astore X_413 K at_4 6 rfl #[.val (.int p0), .val (.int p1), .val (.int p2), .val (.int p3), .val (.ref ka), .unset, .unset, .unset, .unset, .unset, .unset, .unset, .unset, .unset, .unset, .unset] rfl rfl ?_
  refine o_iloadN X_413 K at_6 7 rfl rfl ?_
  refine o_invokestatic X_413 K at_7 10 rfl (w_0 hw) (w_1 hw) (w_2 hw) (w_3 hw) (by decide) [(.int p1)] [] rfl  (c_pick l Z a0 hw n0 p1 r0 r1 r2 r3 r4 h0 Z0 S_ROOT S_USER S_ROLE S_SERVICE S_UNKNOWN E_r0 E_r1 E_r2 E_r3 E_r4) e_413 rfl (lenOf pd__I_Lcom_example_dhole_dhole_event_ActorKind_ rfl) (by decide) 0 (Nat.le_of_eq rfl) (by decide) (by decide) (by decide) N_413 ?_
  rintro _ T_414 h_414 locs_414 X_414 q_414 ⟨kb, rfl, E_414, r_414⟩ N_414
  have e_414 := q_414.trans r_414
  show OGo p e below _ n0 _ (T_414.setTop (mkF m 10 #[.val (.int p0), .val (.int p1), .val (.int p2), .val (.int p3), .val (.ref ka), .unset, .unset, .unset, .unset, .unset, .unset, .unset, .unset, .unset, .unset, .unset] [(.ref kb)]))
  refine o_astore X_414 K at_10 12 rfl #[.val (.int p0), .val (.int p1), .val (.int p2), .val (.int p3), .val (.ref ka), .val (.ref kb), .unset, .unset, .unset, .unset, .unset, .unset, .unset, .unset, .unset, .unset] rfl rfl ?_
  refine o_iloadN X_414 K at_12 13 rfl rfl ?_
  refine o_iconst X_414 K (1 : Int32) at_13 14 rfl rfl ?_
  refine o_iand X_414 K at_14 15 rfl ?_
  refine o_if_eq X_414 K at_15 22 (by decide) (by decide) 18 rfl (fun hc15 => ?_) (fun hc15 => ?_)
  · refine o_iconst X_414 K (0 : Int32) at_22 23 rfl rfl ?_
    refine o_istore X_414 K at_23 25 rfl #[.val (.int p0), .val (.int p1), .val (.int p2), .val (.int p3), .val (.ref ka), .val (.ref kb), .val (.int (0 : Int32)), .unset, .unset, .unset, .unset, .unset, .unset, .unset, .unset, .unset] rfl rfl ?_
    refine o_iloadN X_414 K at_25 26 rfl rfl ?_
    refine o_iconst X_414 K (2 : Int32) at_26 27 rfl rfl ?_
    refine o_iand X_414 K at_27 28 rfl ?_
    refine o_if_eq X_414 K at_28 35 (by decide) (by decide) 31 rfl (fun hc28 => ?_) (fun hc28 => ?_)
    · refine o_iconst X_414 K (0 : Int32) at_35 36 rfl rfl ?_
      refine o_istore X_414 K at_36 38 rfl #[.val (.int p0), .val (.int p1), .val (.int p2), .val (.int p3), .val (.ref ka), .val (.ref kb), .val (.int (0 : Int32)), .val (.int (0 : Int32)), .unset, .unset, .unset, .unset, .unset, .unset, .unset, .unset] rfl rfl ?_
      refine o_iloadN X_414 K at_38 39 rfl rfl ?_
      refine o_iconst X_414 K (4 : Int32) at_39 40 rfl rfl ?_
      refine o_iand X_414 K at_40 41 rfl ?_
      refine o_if_eq X_414 K at_41 48 (by decide) (by decide) 44 rfl (fun hc41 => ?_) (fun hc41 => ?_)
      · refine o_iconst X_414 K (0 : Int32) at_48 49 rfl rfl ?_
        refine o_istore X_414 K at_49 51 rfl #[.val (.int p0), .val (.int p1), .val (.int p2), .val (.int p3), .val (.ref ka), .val (.ref kb), .val (.int (0 : Int32)), .val (.int (0 : Int32)), .val (.int (0 : Int32)), .unset, .unset, .unset, .unset, .unset, .unset, .unset] rfl rfl ?_
        refine o_iconst X_414 K (1 : Int32) at_51 52 rfl rfl ?_
        refine o_newarray X_414 K (n := 1) at_52 54 rfl (w_10 hw) e_414 (by decide) 1 (by decide) (by decide) (by decide) (by decide) rfl ?_
        intro T_415 h_415 ca g_415 X_415 e_415 E_415 A_415
        dsimp only [newarray.typeOf, defaultValue] at A_415
        have hk_415 : _ ≤ h_415.size := Nat.le_trans hk0 (E_415.1)
        have Z_415 : n0 ≤ h_415.size := Nat.le_trans Z0 E_415.1
        have f_416 := Sta.ext E_415 S_COMPACT_STRINGS
        have f_417 := Sta.ext E_415 S_ROOT
        have f_418 := Sta.ext E_415 S_USER
        have f_419 := Sta.ext E_415 S_ROLE
        have f_420 := Sta.ext E_415 S_SERVICE
        have f_421 := Sta.ext E_415 S_UNKNOWN
        have f_422 := Exa.ext E_415 E_r0
        have f_423 := Exa.ext E_415 E_r1
        have f_424 := Exa.ext E_415 E_r2
        have f_425 := Exa.ext E_415 E_r3
        have f_426 := Exa.ext E_415 E_r4
        have f_427 := Exa.ext E_415 E_413
        have f_428 := Exa.ext E_415 E_414
        have g_ca : n0 ≤ ca := by rw [g_415]; exact Z0
        have ne_r0_ca : r0 ≠ ca := by rw [g_415]; exact Nat.ne_of_lt E_r0.lt
        have ne_r1_ca : r1 ≠ ca := by rw [g_415]; exact Nat.ne_of_lt E_r1.lt
        have ne_r2_ca : r2 ≠ ca := by rw [g_415]; exact Nat.ne_of_lt E_r2.lt
        have ne_r3_ca : r3 ≠ ca := by rw [g_415]; exact Nat.ne_of_lt E_r3.lt
        have ne_r4_ca : r4 ≠ ca := by rw [g_415]; exact Nat.ne_of_lt E_r4.lt
        have ne_ka_ca : ka ≠ ca := by rw [g_415]; exact Nat.ne_of_lt E_413.lt
        have ne_kb_ca : kb ≠ ca := by rw [g_415]; exact Nat.ne_of_lt E_414.lt
        refine o_dup X_415 K at_54 55 rfl rfl ?_
        refine o_iconst X_415 K (0 : Int32) at_55 56 rfl rfl ?_
        refine o_iloadN X_415 K at_56 57 rfl rfl ?_
        refine o_sipush X_415 K (255 : Int32) at_57 60 rfl rfl ?_
        refine o_iand X_415 K at_60 61 rfl ?_
        refine o_i2c X_415 K at_61 62 rfl ?_
        refine o_castore X_415 K (i := 0) (x' := ((p2 &&& (255 : Int32)).toUInt32.toUInt16.toUInt32.toInt32)) at_62 63 rfl e_415 A_415 (by decide) (by decide) (o_nc _) N_414 g_ca ?_
        intro T_429 h_429 locs_429 X_429 e_429 W_429 A_429 N_429
        have hk_429 : _ ≤ h_429.size := Nat.le_trans hk_415 (Nat.le_of_eq (Wr.size W_429).symm)
        have Z_429 : n0 ≤ h_429.size := by rw [Wr.size W_429]; exact Z_415
        have f_430 := Sta.wr W_429 f_416
        have f_431 := Sta.wr W_429 f_417
        have f_432 := Sta.wr W_429 f_418
        have f_433 := Sta.wr W_429 f_419
        have f_434 := Sta.wr W_429 f_420
        have f_435 := Sta.wr W_429 f_421
        have f_436 := Exa.wr W_429 f_422
        have f_437 := Exa.wr W_429 f_423
        have f_438 := Exa.wr W_429 f_424
        have f_439 := Exa.wr W_429 f_425
        have f_440 := Exa.wr W_429 f_426
        have f_441 := Exa.wr W_429 f_427
        have f_442 := Exa.wr W_429 f_428
        refine o_astore X_429 K at_63 65 rfl #[.val (.int p0), .val (.int p1), .val (.int p2), .val (.int p3), .val (.ref ka), .val (.ref kb), .val (.int (0 : Int32)), .val (.int (0 : Int32)), .val (.int (0 : Int32)), .val (.ref ca), .unset, .unset, .unset, .unset, .unset, .unset] rfl rfl ?_
        refine o_new X_429 K at_65 68 rfl (w_11 hw) (w_12 hw) (w_13 hw) e_429 (by decide) (by decide) ?_
        intro T_443 h_443 st g_443 X_443 e_443 E_443 B_443 D_443
        have hk_443 : _ ≤ h_443.size := Nat.le_trans hk_429 (E_443.1)
        have Z_443 : n0 ≤ h_443.size := Nat.le_trans Z_429 E_443.1
        have f_444 := Sta.ext E_443 f_430
        have f_445 := Sta.ext E_443 f_431
        have f_446 := Sta.ext E_443 f_432
        have f_447 := Sta.ext E_443 f_433
        have f_448 := Sta.ext E_443 f_434
        have f_449 := Sta.ext E_443 f_435
        have f_450 := Exa.ext E_443 f_436
        have f_451 := Exa.ext E_443 f_437
        have f_452 := Exa.ext E_443 f_438
        have f_453 := Exa.ext E_443 f_439
        have f_454 := Exa.ext E_443 f_440
        have f_455 := Exa.ext E_443 f_441
        have f_456 := Exa.ext E_443 f_442
        have f_457 := A_429.ext E_443
        have g_st : n0 ≤ st := by rw [g_443]; exact Z_429
        have ne_r0_st : r0 ≠ st := by rw [g_443]; exact Nat.ne_of_lt f_436.lt
        have ne_r1_st : r1 ≠ st := by rw [g_443]; exact Nat.ne_of_lt f_437.lt
        have ne_r2_st : r2 ≠ st := by rw [g_443]; exact Nat.ne_of_lt f_438.lt
        have ne_r3_st : r3 ≠ st := by rw [g_443]; exact Nat.ne_of_lt f_439.lt
        have ne_r4_st : r4 ≠ st := by rw [g_443]; exact Nat.ne_of_lt f_440.lt
        have ne_ka_st : ka ≠ st := by rw [g_443]; exact Nat.ne_of_lt f_441.lt
        have ne_kb_st : kb ≠ st := by rw [g_443]; exact Nat.ne_of_lt f_442.lt
        have ne_ca_st : ca ≠ st := by rw [g_443]; exact Nat.ne_of_lt A_429.lt
        have F_coder__443 : Fld Z h_443 st "java/lang/String" "coder" "B" (.int (0 : Int32)) := D_443 (Or.inr (w_37 hw)) (ty := .byte) (by decide)
        have F_value__443 : Fld Z h_443 st "java/lang/String" "value" "[B" .null := D_443 (Or.inr (w_39 hw)) (ty := (.array .byte)) (by decide)
        refine o_dup X_443 K at_68 69 rfl rfl ?_
        refine o_aload X_443 K at_69 71 rfl rfl rfl ?_
        refine o_strinit X_443 K (cs := [((p2 &&& (255 : Int32)).toUInt32.toUInt16.toUInt32.toInt32)]) at_71 74 rfl (w_14 hw) (w_15 hw) (w_16 hw) (hws_ hw) (w_12 hw) e_443 Z_443 g_st B_443 F_value__443 F_coder__443 f_457 f_444 hcs rfl (fun j hj => by rcases (by omega : j = 0) with rfl <;> rfl) (by decide) (by decide) (o_all1 (o_and255 _)) rfl N_429 (by decide) 1 (Nat.le_of_eq rfl) (by decide) (by decide) (by decide) ?_
        intro T_458 h_458 locs_458 tv X_458 e_458 k_458 E_458 Fc_458 g_458 s_458 ne_tv_st Fv_458 A_458 N_458
        have hk_458 : _ ≤ h_458.size := Nat.le_trans hk_443 (k_458.1)
        have Z_458 : n0 ≤ h_458.size := Nat.le_trans Z_443 k_458.1
        have f_459 := Exa.keep f_450 k_458
        have f_460 := Exa.keep f_451 k_458
        have f_461 := Exa.keep f_452 k_458
        have f_462 := Exa.keep f_453 k_458
        have f_463 := Exa.keep f_454 k_458
        have f_464 := Exa.keep f_455 k_458
        have f_465 := Exa.keep f_456 k_458
        have f_466 := f_457.keep k_458 (ninS ne_ca_st (nin0))
        have f_467 := Exa.keep B_443 k_458
        have f_468 := o_sta_keep f_444 k_458 (fun y_ hy_ cl_ hc_ => by rw [List.mem_singleton] at hy_; subst hy_; obtain ⟨c1_, -, d1_, -, -, d4_, -⟩ := B_443; cases hc_.symm.trans d1_; exact d4_)
        have f_469 := o_sta_keep f_445 k_458 (fun y_ hy_ cl_ hc_ => by rw [List.mem_singleton] at hy_; subst hy_; obtain ⟨c1_, -, d1_, -, -, d4_, -⟩ := B_443; cases hc_.symm.trans d1_; exact d4_)
        have f_470 := o_sta_keep f_446 k_458 (fun y_ hy_ cl_ hc_ => by rw [List.mem_singleton] at hy_; subst hy_; obtain ⟨c1_, -, d1_, -, -, d4_, -⟩ := B_443; cases hc_.symm.trans d1_; exact d4_)
        have f_471 := o_sta_keep f_447 k_458 (fun y_ hy_ cl_ hc_ => by rw [List.mem_singleton] at hy_; subst hy_; obtain ⟨c1_, -, d1_, -, -, d4_, -⟩ := B_443; cases hc_.symm.trans d1_; exact d4_)
        have f_472 := o_sta_keep f_448 k_458 (fun y_ hy_ cl_ hc_ => by rw [List.mem_singleton] at hy_; subst hy_; obtain ⟨c1_, -, d1_, -, -, d4_, -⟩ := B_443; cases hc_.symm.trans d1_; exact d4_)
        have f_473 := o_sta_keep f_449 k_458 (fun y_ hy_ cl_ hc_ => by rw [List.mem_singleton] at hy_; subst hy_; obtain ⟨c1_, -, d1_, -, -, d4_, -⟩ := B_443; cases hc_.symm.trans d1_; exact d4_)
        have ne_r0_tv : r0 ≠ tv := Nat.ne_of_lt (Nat.lt_of_lt_of_le f_450.lt s_458)
        have ne_r1_tv : r1 ≠ tv := Nat.ne_of_lt (Nat.lt_of_lt_of_le f_451.lt s_458)
        have ne_r2_tv : r2 ≠ tv := Nat.ne_of_lt (Nat.lt_of_lt_of_le f_452.lt s_458)
        have ne_r3_tv : r3 ≠ tv := Nat.ne_of_lt (Nat.lt_of_lt_of_le f_453.lt s_458)
        have ne_r4_tv : r4 ≠ tv := Nat.ne_of_lt (Nat.lt_of_lt_of_le f_454.lt s_458)
        have ne_ka_tv : ka ≠ tv := Nat.ne_of_lt (Nat.lt_of_lt_of_le f_455.lt s_458)
        have ne_kb_tv : kb ≠ tv := Nat.ne_of_lt (Nat.lt_of_lt_of_le f_456.lt s_458)
        have ne_ca_tv : ca ≠ tv := Nat.ne_of_lt (Nat.lt_of_lt_of_le f_457.lt s_458)
        show OGo p e below _ n0 _ (T_458.setTop (mkF m 74 #[.val (.int p0), .val (.int p1), .val (.int p2), .val (.int p3), .val (.ref ka), .val (.ref kb), .val (.int (0 : Int32)), .val (.int (0 : Int32)), .val (.int (0 : Int32)), .val (.ref ca), .unset, .unset, .unset, .unset, .unset, .unset] [(.ref st)]))
        refine o_astore X_458 K at_74 76 rfl #[.val (.int p0), .val (.int p1), .val (.int p2), .val (.int p3), .val (.ref ka), .val (.ref kb), .val (.int (0 : Int32)), .val (.int (0 : Int32)), .val (.int (0 : Int32)), .val (.ref ca), .val (.ref st), .unset, .unset, .unset, .unset, .unset] rfl rfl ?_
        refine o_new X_458 K at_76 79 rfl (w_40 hw) (w_41 hw) (w_42 hw) e_458 (by decide) (by decide) ?_
        intro T_474 h_474 bu g_474 X_474 e_474 E_474 B_474 D_474
        have hk_474 : _ ≤ h_474.size := Nat.le_trans hk_458 (E_474.1)
        have Z_474 : n0 ≤ h_474.size := Nat.le_trans Z_458 E_474.1
        have f_475 := Exa.ext E_474 f_459
        have f_476 := Exa.ext E_474 f_460
        have f_477 := Exa.ext E_474 f_461
        have f_478 := Exa.ext E_474 f_462
        have f_479 := Exa.ext E_474 f_463
        have f_480 := Exa.ext E_474 f_464
        have f_481 := Exa.ext E_474 f_465
        have f_482 := f_466.ext E_474
        have f_483 := Exa.ext E_474 E_458
        have f_484 := Sta.ext E_474 f_468
        have f_485 := Sta.ext E_474 f_469
        have f_486 := Sta.ext E_474 f_470
        have f_487 := Sta.ext E_474 f_471
        have f_488 := Sta.ext E_474 f_472
        have f_489 := Sta.ext E_474 f_473
        have f_490 := Fld.ext E_474 Fc_458
        have f_491 := Fld.ext E_474 Fv_458
        have f_492 := A_458.ext E_474
        have g_bu : n0 ≤ bu := by rw [g_474]; exact Z_458
        have ne_r0_bu : r0 ≠ bu := by rw [g_474]; exact Nat.ne_of_lt f_459.lt
        have ne_r1_bu : r1 ≠ bu := by rw [g_474]; exact Nat.ne_of_lt f_460.lt
        have ne_r2_bu : r2 ≠ bu := by rw [g_474]; exact Nat.ne_of_lt f_461.lt
        have ne_r3_bu : r3 ≠ bu := by rw [g_474]; exact Nat.ne_of_lt f_462.lt
        have ne_r4_bu : r4 ≠ bu := by rw [g_474]; exact Nat.ne_of_lt f_463.lt
        have ne_ka_bu : ka ≠ bu := by rw [g_474]; exact Nat.ne_of_lt f_464.lt
        have ne_kb_bu : kb ≠ bu := by rw [g_474]; exact Nat.ne_of_lt f_465.lt
        have ne_ca_bu : ca ≠ bu := by rw [g_474]; exact Nat.ne_of_lt f_466.lt
        have ne_st_bu : st ≠ bu := by rw [g_474]; exact Nat.ne_of_lt E_458.lt
        have ne_tv_bu : tv ≠ bu := by rw [g_474]; exact Nat.ne_of_lt A_458.lt
        have F_kind__474 : Fld Z h_474 bu "com/example/dhole/dhole/event/Actor$Builder" "kind" "Lcom/example/dhole/dhole/event/ActorKind;" .null := D_474 (Or.inl (w_50 hw)) (ty := (.object "com/example/dhole/dhole/event/ActorKind")) (by decide)
        have F_type__474 : Fld Z h_474 bu "com/example/dhole/dhole/event/Actor$Builder" "type" "Ljava/lang/String;" .null := D_474 (Or.inl (w_81 hw)) (ty := (.object "java/lang/String")) (by decide)
        have F_id__474 : Fld Z h_474 bu "com/example/dhole/dhole/event/Actor$Builder" "id" "Ljava/lang/String;" .null := D_474 (Or.inl (w_85 hw)) (ty := (.object "java/lang/String")) (by decide)
        have F_account__474 : Fld Z h_474 bu "com/example/dhole/dhole/event/Actor$Builder" "account" "Ljava/lang/String;" .null := D_474 (Or.inl (w_89 hw)) (ty := (.object "java/lang/String")) (by decide)
        have F_name__474 : Fld Z h_474 bu "com/example/dhole/dhole/event/Actor$Builder" "name" "Ljava/lang/String;" .null := D_474 (Or.inl (w_93 hw)) (ty := (.object "java/lang/String")) (by decide)
        have F_accessKey__474 : Fld Z h_474 bu "com/example/dhole/dhole/event/Actor$Builder" "accessKey" "Ljava/lang/String;" .null := D_474 (Or.inl (w_97 hw)) (ty := (.object "java/lang/String")) (by decide)
        have F_mfa__474 : Fld Z h_474 bu "com/example/dhole/dhole/event/Actor$Builder" "mfa" "Ljava/lang/Boolean;" .null := D_474 (Or.inl (w_101 hw)) (ty := (.object "java/lang/Boolean")) (by decide)
        have F_sessionCreated__474 : Fld Z h_474 bu "com/example/dhole/dhole/event/Actor$Builder" "sessionCreated" "Lcom/example/dhole/dhole/event/EventTime;" .null := D_474 (Or.inl (w_105 hw)) (ty := (.object "com/example/dhole/dhole/event/EventTime")) (by decide)
        refine o_dup X_474 K at_79 80 rfl rfl ?_
        refine o_invokespecial X_474 K at_80 83 rfl rfl (w_43 hw) (w_44 hw) (w_42 hw) (w_45 hw) (by decide) [] [(.ref bu)] rfl  (c_binit l Z a0 hw n0 bu r4 h_474 Z_474 f_489 B_474 F_kind__474 F_type__474 F_id__474 F_account__474 F_name__474 F_accessKey__474 F_mfa__474 F_sessionCreated__474 g_bu) e_474 rfl (lenOf pd___V rfl) (by decide) 1 (Nat.le_of_eq rfl) (by decide) (by decide) (by decide) N_458 ?_
        rintro _ T_493 h_493 locs_493 X_493 e_493 ⟨rfl, k_493, p_493f0, p_493f1, p_493f2, p_493f3, p_493f4, p_493f5, p_493f6, p_493f7, p_493f8⟩ N_493
        have hk_493 : _ ≤ h_493.size := Nat.le_trans hk_474 (k_493.1)
        have Z_493 : n0 ≤ h_493.size := Nat.le_trans Z_474 k_493.1
        have f_494 := Exa.keep f_475 k_493
        have f_495 := Exa.keep f_476 k_493
        have f_496 := Exa.keep f_477 k_493
        have f_497 := Exa.keep f_478 k_493
        have f_498 := Exa.keep f_479 k_493
        have f_499 := Exa.keep f_480 k_493
        have f_500 := Exa.keep f_481 k_493
        have f_501 := f_482.keep k_493 (ninS ne_ca_bu (nin0))
        have f_502 := Exa.keep f_483 k_493
        have f_503 := o_sta_keep f_484 k_493 (o_plainS B_474 (o_plain0))
        have f_504 := o_sta_keep f_485 k_493 (o_plainS B_474 (o_plain0))
        have f_505 := o_sta_keep f_486 k_493 (o_plainS B_474 (o_plain0))
        have f_506 := o_sta_keep f_487 k_493 (o_plainS B_474 (o_plain0))
        have f_507 := o_sta_keep f_488 k_493 (o_plainS B_474 (o_plain0))
        have f_508 := o_sta_keep f_489 k_493 (o_plainS B_474 (o_plain0))
        have f_509 := Fld.keep f_490 k_493 (ninS ne_st_bu (nin0))
        have f_510 := Fld.keep f_491 k_493 (ninS ne_st_bu (nin0))
        have f_511 := f_492.keep k_493 (ninS ne_tv_bu (nin0))
        have f_512 := Exa.keep B_474 k_493
        show OGo p e below _ n0 _ (T_493.setTop (mkF m 83 #[.val (.int p0), .val (.int p1), .val (.int p2), .val (.int p3), .val (.ref ka), .val (.ref kb), .val (.int (0 : Int32)), .val (.int (0 : Int32)), .val (.int (0 : Int32)), .val (.ref ca), .val (.ref st), .unset, .unset, .unset, .unset, .unset] [(.ref bu)]))
        refine o_astore X_493 K at_83 85 rfl #[.val (.int p0), .val (.int p1), .val (.int p2), .val (.int p3), .val (.ref ka), .val (.ref kb), .val (.int (0 : Int32)), .val (.int (0 : Int32)), .val (.int (0 : Int32)), .val (.ref ca), .val (.ref st), .val (.ref bu), .unset, .unset, .unset, .unset] rfl rfl ?_
        refine o_iconst X_493 K (1 : Int32) at_85 86 rfl rfl ?_
        refine o_istore X_493 K at_86 88 rfl #[.val (.int p0), .val (.int p1), .val (.int p2), .val (.int p3), .val (.ref ka), .val (.ref kb), .val (.int (0 : Int32)), .val (.int (0 : Int32)), .val (.int (0 : Int32)), .val (.ref ca), .val (.ref st), .val (.ref bu), .val (.int (1 : Int32)), .unset, .unset, .unset] rfl rfl ?_
        refine o_iload X_493 K at_88 90 rfl rfl ?_
        refine o_if_eq_t X_493 K at_90 117 (by decide) (by decide) (by decide) ?_
        refine o_iload X_493 K at_117 119 rfl rfl ?_
        refine o_if_eq_t X_493 K at_119 130 (by decide) (by decide) (by decide) ?_
        refine o_iload X_493 K at_130 132 rfl rfl ?_
        refine o_if_eq_t X_493 K at_132 159 (by decide) (by decide) (by decide) ?_
        refine o_aload X_493 K at_159 161 rfl rfl rfl ?_
        refine o_invokevirtual X_493 K at_161 164 rfl (w_65 hw) (w_66 hw) (w_68 hw) (w_67 hw) (w_42 hw) (w_69 hw) (by decide) p_493f0 [] [] rfl  (c_build0 l Z a0 hw n0 bu r4 h_493 Z_493 p_493f0 p_493f1 p_493f2 p_493f3 p_493f4 p_493f5 p_493f6 p_493f7 p_493f8) e_493 rfl (lenOf pd___Lcom_example_dhole_dhole_event_Actor_ rfl) (by decide) 0 (Nat.le_of_eq rfl) (by decide) (by decide) (by decide) N_493 ?_
        rintro _ T_513 h_513 locs_513 X_513 e_513 ⟨xa, rfl, k_513, gg_513_x, sz_513_x, p_513f0, p_513f1, p_513f2, p_513f3⟩ N_513
        have hk_513 : _ ≤ h_513.size := Nat.le_trans hk_493 (k_513.1)
        have Z_513 : n0 ≤ h_513.size := Nat.le_trans Z_493 k_513.1
        have f_514 := Exa.keep f_494 k_513
        have f_515 := Exa.keep f_495 k_513
        have f_516 := Exa.keep f_496 k_513
        have f_517 := Exa.keep f_497 k_513
        have f_518 := Exa.keep f_498 k_513
        have f_519 := Exa.keep f_499 k_513
        have f_520 := Exa.keep f_500 k_513
        have f_521 := f_501.keep k_513 (nin0)
        have f_522 := Exa.keep f_502 k_513
        have f_523 := o_sta_keep f_503 k_513 (o_plain0)
        have f_524 := o_sta_keep f_504 k_513 (o_plain0)
        have f_525 := o_sta_keep f_505 k_513 (o_plain0)
        have f_526 := o_sta_keep f_506 k_513 (o_plain0)
        have f_527 := o_sta_keep f_507 k_513 (o_plain0)
        have f_528 := o_sta_keep f_508 k_513 (o_plain0)
        have f_529 := Fld.keep f_509 k_513 (nin0)
        have f_530 := Fld.keep f_510 k_513 (nin0)
        have f_531 := f_511.keep k_513 (nin0)
        have f_532 := Exa.keep p_493f0 k_513
        have f_533 := Fld.keep p_493f1 k_513 (nin0)
        have f_534 := Fld.keep p_493f2 k_513 (nin0)
        have f_535 := Fld.keep p_493f3 k_513 (nin0)
        have f_536 := Fld.keep p_493f4 k_513 (nin0)
        have f_537 := Fld.keep p_493f5 k_513 (nin0)
        have f_538 := Fld.keep p_493f6 k_513 (nin0)
        have f_539 := Fld.keep p_493f7 k_513 (nin0)
        have f_540 := Fld.keep p_493f8 k_513 (nin0)
        have ne_r0_xa : r0 ≠ xa := Nat.ne_of_lt (Nat.lt_of_lt_of_le f_494.lt sz_513_x)
        have ne_r1_xa : r1 ≠ xa := Nat.ne_of_lt (Nat.lt_of_lt_of_le f_495.lt sz_513_x)
        have ne_r2_xa : r2 ≠ xa := Nat.ne_of_lt (Nat.lt_of_lt_of_le f_496.lt sz_513_x)
        have ne_r3_xa : r3 ≠ xa := Nat.ne_of_lt (Nat.lt_of_lt_of_le f_497.lt sz_513_x)
        have ne_r4_xa : r4 ≠ xa := Nat.ne_of_lt (Nat.lt_of_lt_of_le f_498.lt sz_513_x)
        have ne_ka_xa : ka ≠ xa := Nat.ne_of_lt (Nat.lt_of_lt_of_le f_499.lt sz_513_x)
        have ne_kb_xa : kb ≠ xa := Nat.ne_of_lt (Nat.lt_of_lt_of_le f_500.lt sz_513_x)
        have ne_ca_xa : ca ≠ xa := Nat.ne_of_lt (Nat.lt_of_lt_of_le f_501.lt sz_513_x)
        have ne_st_xa : st ≠ xa := Nat.ne_of_lt (Nat.lt_of_lt_of_le f_502.lt sz_513_x)
        have ne_tv_xa : tv ≠ xa := Nat.ne_of_lt (Nat.lt_of_lt_of_le f_511.lt sz_513_x)
        have ne_bu_xa : bu ≠ xa := Nat.ne_of_lt (Nat.lt_of_lt_of_le p_493f0.lt sz_513_x)
        show OGo p e below _ n0 _ (T_513.setTop (mkF m 164 #[.val (.int p0), .val (.int p1), .val (.int p2), .val (.int p3), .val (.ref ka), .val (.ref kb), .val (.int (0 : Int32)), .val (.int (0 : Int32)), .val (.int (0 : Int32)), .val (.ref ca), .val (.ref st), .val (.ref bu), .val (.int (1 : Int32)), .unset, .unset, .unset] [(.ref xa)]))
        refine o_astore X_513 K at_164 166 rfl #[.val (.int p0), .val (.int p1), .val (.int p2), .val (.int p3), .val (.ref ka), .val (.ref kb), .val (.int (0 : Int32)), .val (.int (0 : Int32)), .val (.int (0 : Int32)), .val (.ref ca), .val (.ref st), .val (.ref bu), .val (.int (1 : Int32)), .val (.ref xa), .unset, .unset] rfl rfl ?_
        refine o_iload X_513 K at_166 168 rfl rfl ?_
        refine o_if_eq_t X_513 K at_168 178 (by decide) (by decide) (by decide) ?_
        refine o_iload X_513 K at_178 180 rfl rfl ?_
        refine o_if_eq_t X_513 K at_180 190 (by decide) (by decide) (by decide) ?_
        refine o_getstatic X_513 K (host := "") at_190 193 rfl (Or.inl (w_131 hw)) Via.refl e_513 f_528 ?_
        intro T_541 X_541 e_541
        refine o_astore X_541 K at_193 195 rfl #[.val (.int p0), .val (.int p1), .val (.int p2), .val (.int p3), .val (.ref ka), .val (.ref kb), .val (.int (0 : Int32)), .val (.int (0 : Int32)), .val (.int (0 : Int32)), .val (.ref ca), .val (.ref st), .val (.ref bu), .val (.int (1 : Int32)), .val (.ref xa), .val (.ref r4), .unset] rfl rfl ?_
        refine o_iload X_541 K at_195 197 rfl rfl ?_
        refine o_if_eq_t X_541 K at_197 215 (by decide) (by decide) (by decide) ?_
        refine o_aload X_541 K at_215 217 rfl rfl rfl ?_
        refine o_invokevirtual X_541 K at_217 220 rfl (w_108 hw) (w_109 hw) (w_111 hw) (w_110 hw) (w_72 hw) (w_112 hw) (by decide) p_513f0 [] [] rfl  (c_atype0 l Z a0 hw n0 xa h_513 Z_513 p_513f2) e_541 rfl (lenOf pd___Ljava_lang_String_ rfl) (by decide) 0 (Nat.le_of_eq rfl) (by decide) (by decide) (by decide) N_513 ?_
        rintro _ T_542 h_542 locs_542 X_542 q_542 ⟨rfl, r_542⟩ N_542
        have e_542 := q_542.trans r_542
        show OGo p e below _ n0 _ (T_542.setTop (mkF m 220 #[.val (.int p0), .val (.int p1), .val (.int p2), .val (.int p3), .val (.ref ka), .val (.ref kb), .val (.int (0 : Int32)), .val (.int (0 : Int32)), .val (.int (0 : Int32)), .val (.ref ca), .val (.ref st), .val (.ref bu), .val (.int (1 : Int32)), .val (.ref xa), .val (.ref r4), .unset] [.null]))
        refine o_ifnonnull_f X_542 K at_220 223 rfl ?_
        refine o_iconst X_542 K (1 : Int32) at_223 224 rfl rfl ?_
        refine o_goto X_542 K at_224 228 (by decide) (by decide) ?_
        refine o_istore X_542 K at_228 230 rfl #[.val (.int p0), .val (.int p1), .val (.int p2), .val (.int p3), .val (.ref ka), .val (.ref kb), .val (.int (0 : Int32)), .val (.int (0 : Int32)), .val (.int (0 : Int32)), .val (.ref ca), .val (.ref st), .val (.ref bu), .val (.int (1 : Int32)), .val (.ref xa), .val (.ref r4), .val (.int (1 : Int32))] rfl rfl ?_
        refine o_iload X_542 K at_230 232 rfl rfl ?_
        refine o_if_eq_f X_542 K at_232 235 rfl (by decide) ?_
        refine o_aload X_542 K at_235 237 rfl rfl rfl ?_
        refine o_invokevirtual X_542 K at_237 240 rfl (w_113 hw) (w_114 hw) (w_116 hw) (w_115 hw) (w_72 hw) (w_117 hw) (by decide) p_513f0 [] [] rfl  (c_akind l Z a0 hw n0 xa r4 h_513 Z_513 p_513f1) e_542 rfl (lenOf pd___Lcom_example_dhole_dhole_event_ActorKind_ rfl) (by decide) 0 (Nat.le_of_eq rfl) (by decide) (by decide) (by decide) N_542 ?_
        rintro _ T_543 h_543 locs_543 X_543 q_543 ⟨rfl, r_543⟩ N_543
        have e_543 := q_543.trans r_543
        show OGo p e below _ n0 _ (T_543.setTop (mkF m 240 #[.val (.int p0), .val (.int p1), .val (.int p2), .val (.int p3), .val (.ref ka), .val (.ref kb), .val (.int (0 : Int32)), .val (.int (0 : Int32)), .val (.int (0 : Int32)), .val (.ref ca), .val (.ref st), .val (.ref bu), .val (.int (1 : Int32)), .val (.ref xa), .val (.ref r4), .val (.int (1 : Int32))] [(.ref r4)]))
        refine o_aload X_543 K at_240 242 rfl rfl rfl ?_
        refine o_acmp X_543 K at_242 245 rfl rfl true (decide_eq_true rfl) (by decide) (by decide) ?_
        refine o_iload X_543 K at_245 247 rfl rfl ?_
        refine o_if_eq_f X_543 K at_247 250 rfl (by decide) ?_
        refine o_aload X_543 K at_250 252 rfl rfl rfl ?_
        refine o_invokevirtual X_543 K at_252 255 rfl (w_118 hw) (w_119 hw) (w_121 hw) (w_120 hw) (w_72 hw) (w_122 hw) (by decide) p_513f0 [] [] rfl  (c_amfa l Z a0 hw n0 xa h_513 Z_513 p_513f3) e_543 rfl (lenOf pd___Ljava_lang_Boolean_ rfl) (by decide) 0 (Nat.le_of_eq rfl) (by decide) (by decide) (by decide) N_543 ?_
        rintro _ T_544 h_544 locs_544 X_544 q_544 ⟨rfl, r_544⟩ N_544
        have e_544 := q_544.trans r_544
        show OGo p e below _ n0 _ (T_544.setTop (mkF m 255 #[.val (.int p0), .val (.int p1), .val (.int p2), .val (.int p3), .val (.ref ka), .val (.ref kb), .val (.int (0 : Int32)), .val (.int (0 : Int32)), .val (.int (0 : Int32)), .val (.ref ca), .val (.ref st), .val (.ref bu), .val (.int (1 : Int32)), .val (.ref xa), .val (.ref r4), .val (.int (1 : Int32))] [.null]))
        refine o_ifnonnull_f X_544 K at_255 258 rfl ?_
        refine o_iconst X_544 K (1 : Int32) at_258 259 rfl rfl ?_
        refine o_goto X_544 K at_259 263 (by decide) (by decide) ?_
        refine o_ireturnNW X_544 hS0 e_544 hk_513 K (by decide) at_263 (by decide) (by decide) N_544 ?_
        exact rfl
      · refine o_iconst X_414 K (1 : Int32) at_44 45 rfl rfl ?_
        refine o_goto X_414 K at_45 49 (by decide) (by decide) ?_
        refine o_istore X_414 K at_49 51 rfl #[.val (.int p0), .val (.int p1), .val (.int p2), .val (.int p3), .val (.ref ka), .val (.ref kb), .val (.int (0 : Int32)), .val (.int (0 : Int32)), .val (.int (1 : Int32)), .unset, .unset, .unset, .unset, .unset, .unset, .unset] rfl rfl ?_
        refine o_iconst X_414 K (1 : Int32) at_51 52 rfl rfl ?_
        refine o_newarray X_414 K (n := 1) at_52 54 rfl (w_10 hw) e_414 (by decide) 1 (by decide) (by decide) (by decide) (by decide) rfl ?_
        intro T_545 h_545 ca g_545 X_545 e_545 E_545 A_545
        dsimp only [newarray.typeOf, defaultValue] at A_545
        have hk_545 : _ ≤ h_545.size := Nat.le_trans hk0 (E_545.1)
        have Z_545 : n0 ≤ h_545.size := Nat.le_trans Z0 E_545.1
        have f_546 := Sta.ext E_545 S_COMPACT_STRINGS
        have f_547 := Sta.ext E_545 S_ROOT
        have f_548 := Sta.ext E_545 S_USER
        have f_549 := Sta.ext E_545 S_ROLE
        have f_550 := Sta.ext E_545 S_SERVICE
        have f_551 := Sta.ext E_545 S_UNKNOWN
        have f_552 := Exa.ext E_545 E_r0
        have f_553 := Exa.ext E_545 E_r1
        have f_554 := Exa.ext E_545 E_r2
        have f_555 := Exa.ext E_545 E_r3
        have f_556 := Exa.ext E_545 E_r4
        have f_557 := Exa.ext E_545 E_413
        have f_558 := Exa.ext E_545 E_414
        have g_ca : n0 ≤ ca := by rw [g_545]; exact Z0
        have ne_r0_ca : r0 ≠ ca := by rw [g_545]; exact Nat.ne_of_lt E_r0.lt
        have ne_r1_ca : r1 ≠ ca := by rw [g_545]; exact Nat.ne_of_lt E_r1.lt
        have ne_r2_ca : r2 ≠ ca := by rw [g_545]; exact Nat.ne_of_lt E_r2.lt
        have ne_r3_ca : r3 ≠ ca := by rw [g_545]; exact Nat.ne_of_lt E_r3.lt
        have ne_r4_ca : r4 ≠ ca := by rw [g_545]; exact Nat.ne_of_lt E_r4.lt
        have ne_ka_ca : ka ≠ ca := by rw [g_545]; exact Nat.ne_of_lt E_413.lt
        have ne_kb_ca : kb ≠ ca := by rw [g_545]; exact Nat.ne_of_lt E_414.lt
        refine o_dup X_545 K at_54 55 rfl rfl ?_
        refine o_iconst X_545 K (0 : Int32) at_55 56 rfl rfl ?_
        refine o_iloadN X_545 K at_56 57 rfl rfl ?_
        refine o_sipush X_545 K (255 : Int32) at_57 60 rfl rfl ?_
        refine o_iand X_545 K at_60 61 rfl ?_
        refine o_i2c X_545 K at_61 62 rfl ?_
        refine o_castore X_545 K (i := 0) (x' := ((p2 &&& (255 : Int32)).toUInt32.toUInt16.toUInt32.toInt32)) at_62 63 rfl e_545 A_545 (by decide) (by decide) (o_nc _) N_414 g_ca ?_
        intro T_559 h_559 locs_559 X_559 e_559 W_559 A_559 N_559
        have hk_559 : _ ≤ h_559.size := Nat.le_trans hk_545 (Nat.le_of_eq (Wr.size W_559).symm)
        have Z_559 : n0 ≤ h_559.size := by rw [Wr.size W_559]; exact Z_545
        have f_560 := Sta.wr W_559 f_546
        have f_561 := Sta.wr W_559 f_547
        have f_562 := Sta.wr W_559 f_548
        have f_563 := Sta.wr W_559 f_549
        have f_564 := Sta.wr W_559 f_550
        have f_565 := Sta.wr W_559 f_551
        have f_566 := Exa.wr W_559 f_552
        have f_567 := Exa.wr W_559 f_553
        have f_568 := Exa.wr W_559 f_554
        have f_569 := Exa.wr W_559 f_555
        have f_570 := Exa.wr W_559 f_556
        have f_571 := Exa.wr W_559 f_557
        have f_572 := Exa.wr W_559 f_558
        refine o_astore X_559 K at_63 65 rfl #[.val (.int p0), .val (.int p1), .val (.int p2), .val (.int p3), .val (.ref ka), .val (.ref kb), .val (.int (0 : Int32)), .val (.int (0 : Int32)), .val (.int (1 : Int32)), .val (.ref ca), .unset, .unset, .unset, .unset, .unset, .unset] rfl rfl ?_
        refine o_new X_559 K at_65 68 rfl (w_11 hw) (w_12 hw) (w_13 hw) e_559 (by decide) (by decide) ?_
        intro T_573 h_573 st g_573 X_573 e_573 E_573 B_573 D_573
        have hk_573 : _ ≤ h_573.size := Nat.le_trans hk_559 (E_573.1)
        have Z_573 : n0 ≤ h_573.size := Nat.le_trans Z_559 E_573.1
        have f_574 := Sta.ext E_573 f_560
        have f_575 := Sta.ext E_573 f_561
        have f_576 := Sta.ext E_573 f_562
        have f_577 := Sta.ext E_573 f_563
        have f_578 := Sta.ext E_573 f_564
        have f_579 := Sta.ext E_573 f_565
        have f_580 := Exa.ext E_573 f_566
        have f_581 := Exa.ext E_573 f_567
        have f_582 := Exa.ext E_573 f_568
        have f_583 := Exa.ext E_573 f_569
        have f_584 := Exa.ext E_573 f_570
        have f_585 := Exa.ext E_573 f_571
        have f_586 := Exa.ext E_573 f_572
        have f_587 := A_559.ext E_573
        have g_st : n0 ≤ st := by rw [g_573]; exact Z_559
        have ne_r0_st : r0 ≠ st := by rw [g_573]; exact Nat.ne_of_lt f_566.lt
        have ne_r1_st : r1 ≠ st := by rw [g_573]; exact Nat.ne_of_lt f_567.lt
        have ne_r2_st : r2 ≠ st := by rw [g_573]; exact Nat.ne_of_lt f_568.lt
        have ne_r3_st : r3 ≠ st := by rw [g_573]; exact Nat.ne_of_lt f_569.lt
        have ne_r4_st : r4 ≠ st := by rw [g_573]; exact Nat.ne_of_lt f_570.lt
        have ne_ka_st : ka ≠ st := by rw [g_573]; exact Nat.ne_of_lt f_571.lt
        have ne_kb_st : kb ≠ st := by rw [g_573]; exact Nat.ne_of_lt f_572.lt
        have ne_ca_st : ca ≠ st := by rw [g_573]; exact Nat.ne_of_lt A_559.lt
        have F_coder__573 : Fld Z h_573 st "java/lang/String" "coder" "B" (.int (0 : Int32)) := D_573 (Or.inr (w_37 hw)) (ty := .byte) (by decide)
        have F_value__573 : Fld Z h_573 st "java/lang/String" "value" "[B" .null := D_573 (Or.inr (w_39 hw)) (ty := (.array .byte)) (by decide)
        refine o_dup X_573 K at_68 69 rfl rfl ?_
        refine o_aload X_573 K at_69 71 rfl rfl rfl ?_
        refine o_strinit X_573 K (cs := [((p2 &&& (255 : Int32)).toUInt32.toUInt16.toUInt32.toInt32)]) at_71 74 rfl (w_14 hw) (w_15 hw) (w_16 hw) (hws_ hw) (w_12 hw) e_573 Z_573 g_st B_573 F_value__573 F_coder__573 f_587 f_574 hcs rfl (fun j hj => by rcases (by omega : j = 0) with rfl <;> rfl) (by decide) (by decide) (o_all1 (o_and255 _)) rfl N_559 (by decide) 1 (Nat.le_of_eq rfl) (by decide) (by decide) (by decide) ?_
        intro T_588 h_588 locs_588 tv X_588 e_588 k_588 E_588 Fc_588 g_588 s_588 ne_tv_st Fv_588 A_588 N_588
        have hk_588 : _ ≤ h_588.size := Nat.le_trans hk_573 (k_588.1)
        have Z_588 : n0 ≤ h_588.size := Nat.le_trans Z_573 k_588.1
        have f_589 := Exa.keep f_580 k_588
        have f_590 := Exa.keep f_581 k_588
        have f_591 := Exa.keep f_582 k_588
        have f_592 := Exa.keep f_583 k_588
        have f_593 := Exa.keep f_584 k_588
        have f_594 := Exa.keep f_585 k_588
        have f_595 := Exa.keep f_586 k_588
        have f_596 := f_587.keep k_588 (ninS ne_ca_st (nin0))
        have f_597 := Exa.keep B_573 k_588
        have f_598 := o_sta_keep f_574 k_588 (fun y_ hy_ cl_ hc_ => by rw [List.mem_singleton] at hy_; subst hy_; obtain ⟨c1_, -, d1_, -, -, d4_, -⟩ := B_573; cases hc_.symm.trans d1_; exact d4_)
        have f_599 := o_sta_keep f_575 k_588 (fun y_ hy_ cl_ hc_ => by rw [List.mem_singleton] at hy_; subst hy_; obtain ⟨c1_, -, d1_, -, -, d4_, -⟩ := B_573; cases hc_.symm.trans d1_; exact d4_)
        have f_600 := o_sta_keep f_576 k_588 (fun y_ hy_ cl_ hc_ => by rw [List.mem_singleton] at hy_; subst hy_; obtain ⟨c1_, -, d1_, -, -, d4_, -⟩ := B_573; cases hc_.symm.trans d1_; exact d4_)
        have f_601 := o_sta_keep f_577 k_588 (fun y_ hy_ cl_ hc_ => by rw [List.mem_singleton] at hy_; subst hy_; obtain ⟨c1_, -, d1_, -, -, d4_, -⟩ := B_573; cases hc_.symm.trans d1_; exact d4_)
        have f_602 := o_sta_keep f_578 k_588 (fun y_ hy_ cl_ hc_ => by rw [List.mem_singleton] at hy_; subst hy_; obtain ⟨c1_, -, d1_, -, -, d4_, -⟩ := B_573; cases hc_.symm.trans d1_; exact d4_)
        have f_603 := o_sta_keep f_579 k_588 (fun y_ hy_ cl_ hc_ => by rw [List.mem_singleton] at hy_; subst hy_; obtain ⟨c1_, -, d1_, -, -, d4_, -⟩ := B_573; cases hc_.symm.trans d1_; exact d4_)
        have ne_r0_tv : r0 ≠ tv := Nat.ne_of_lt (Nat.lt_of_lt_of_le f_580.lt s_588)
        have ne_r1_tv : r1 ≠ tv := Nat.ne_of_lt (Nat.lt_of_lt_of_le f_581.lt s_588)
        have ne_r2_tv : r2 ≠ tv := Nat.ne_of_lt (Nat.lt_of_lt_of_le f_582.lt s_588)
        have ne_r3_tv : r3 ≠ tv := Nat.ne_of_lt (Nat.lt_of_lt_of_le f_583.lt s_588)
        have ne_r4_tv : r4 ≠ tv := Nat.ne_of_lt (Nat.lt_of_lt_of_le f_584.lt s_588)
        have ne_ka_tv : ka ≠ tv := Nat.ne_of_lt (Nat.lt_of_lt_of_le f_585.lt s_588)
        have ne_kb_tv : kb ≠ tv := Nat.ne_of_lt (Nat.lt_of_lt_of_le f_586.lt s_588)
        have ne_ca_tv : ca ≠ tv := Nat.ne_of_lt (Nat.lt_of_lt_of_le f_587.lt s_588)
        show OGo p e below _ n0 _ (T_588.setTop (mkF m 74 #[.val (.int p0), .val (.int p1), .val (.int p2), .val (.int p3), .val (.ref ka), .val (.ref kb), .val (.int (0 : Int32)), .val (.int (0 : Int32)), .val (.int (1 : Int32)), .val (.ref ca), .unset, .unset, .unset, .unset, .unset, .unset] [(.ref st)]))
        refine o_astore X_588 K at_74 76 rfl #[.val (.int p0), .val (.int p1), .val (.int p2), .val (.int p3), .val (.ref ka), .val (.ref kb), .val (.int (0 : Int32)), .val (.int (0 : Int32)), .val (.int (1 : Int32)), .val (.ref ca), .val (.ref st), .unset, .unset, .unset, .unset, .unset] rfl rfl ?_
        refine o_new X_588 K at_76 79 rfl (w_40 hw) (w_41 hw) (w_42 hw) e_588 (by decide) (by decide) ?_
        intro T_604 h_604 bu g_604 X_604 e_604 E_604 B_604 D_604
        have hk_604 : _ ≤ h_604.size := Nat.le_trans hk_588 (E_604.1)
        have Z_604 : n0 ≤ h_604.size := Nat.le_trans Z_588 E_604.1
        have f_605 := Exa.ext E_604 f_589
        have f_606 := Exa.ext E_604 f_590
        have f_607 := Exa.ext E_604 f_591
        have f_608 := Exa.ext E_604 f_592
        have f_609 := Exa.ext E_604 f_593
        have f_610 := Exa.ext E_604 f_594
        have f_611 := Exa.ext E_604 f_595
        have f_612 := f_596.ext E_604
        have f_613 := Exa.ext E_604 E_588
        have f_614 := Sta.ext E_604 f_598
        have f_615 := Sta.ext E_604 f_599
        have f_616 := Sta.ext E_604 f_600
        have f_617 := Sta.ext E_604 f_601
        have f_618 := Sta.ext E_604 f_602
        have f_619 := Sta.ext E_604 f_603
        have f_620 := Fld.ext E_604 Fc_588
        have f_621 := Fld.ext E_604 Fv_588
        have f_622 := A_588.ext E_604
        have g_bu : n0 ≤ bu := by rw [g_604]; exact Z_588
        have ne_r0_bu : r0 ≠ bu := by rw [g_604]; exact Nat.ne_of_lt f_589.lt
        have ne_r1_bu : r1 ≠ bu := by rw [g_604]; exact Nat.ne_of_lt f_590.lt
        have ne_r2_bu : r2 ≠ bu := by rw [g_604]; exact Nat.ne_of_lt f_591.lt
        have ne_r3_bu : r3 ≠ bu := by rw [g_604]; exact Nat.ne_of_lt f_592.lt
        have ne_r4_bu : r4 ≠ bu := by rw [g_604]; exact Nat.ne_of_lt f_593.lt
        have ne_ka_bu : ka ≠ bu := by rw [g_604]; exact Nat.ne_of_lt f_594.lt
        have ne_kb_bu : kb ≠ bu := by rw [g_604]; exact Nat.ne_of_lt f_595.lt
        have ne_ca_bu : ca ≠ bu := by rw [g_604]; exact Nat.ne_of_lt f_596.lt
        have ne_st_bu : st ≠ bu := by rw [g_604]; exact Nat.ne_of_lt E_588.lt
        have ne_tv_bu : tv ≠ bu := by rw [g_604]; exact Nat.ne_of_lt A_588.lt
        have F_kind__604 : Fld Z h_604 bu "com/example/dhole/dhole/event/Actor$Builder" "kind" "Lcom/example/dhole/dhole/event/ActorKind;" .null := D_604 (Or.inl (w_50 hw)) (ty := (.object "com/example/dhole/dhole/event/ActorKind")) (by decide)
        have F_type__604 : Fld Z h_604 bu "com/example/dhole/dhole/event/Actor$Builder" "type" "Ljava/lang/String;" .null := D_604 (Or.inl (w_81 hw)) (ty := (.object "java/lang/String")) (by decide)
        have F_id__604 : Fld Z h_604 bu "com/example/dhole/dhole/event/Actor$Builder" "id" "Ljava/lang/String;" .null := D_604 (Or.inl (w_85 hw)) (ty := (.object "java/lang/String")) (by decide)
        have F_account__604 : Fld Z h_604 bu "com/example/dhole/dhole/event/Actor$Builder" "account" "Ljava/lang/String;" .null := D_604 (Or.inl (w_89 hw)) (ty := (.object "java/lang/String")) (by decide)
        have F_name__604 : Fld Z h_604 bu "com/example/dhole/dhole/event/Actor$Builder" "name" "Ljava/lang/String;" .null := D_604 (Or.inl (w_93 hw)) (ty := (.object "java/lang/String")) (by decide)
        have F_accessKey__604 : Fld Z h_604 bu "com/example/dhole/dhole/event/Actor$Builder" "accessKey" "Ljava/lang/String;" .null := D_604 (Or.inl (w_97 hw)) (ty := (.object "java/lang/String")) (by decide)
        have F_mfa__604 : Fld Z h_604 bu "com/example/dhole/dhole/event/Actor$Builder" "mfa" "Ljava/lang/Boolean;" .null := D_604 (Or.inl (w_101 hw)) (ty := (.object "java/lang/Boolean")) (by decide)
        have F_sessionCreated__604 : Fld Z h_604 bu "com/example/dhole/dhole/event/Actor$Builder" "sessionCreated" "Lcom/example/dhole/dhole/event/EventTime;" .null := D_604 (Or.inl (w_105 hw)) (ty := (.object "com/example/dhole/dhole/event/EventTime")) (by decide)
        refine o_dup X_604 K at_79 80 rfl rfl ?_
        refine o_invokespecial X_604 K at_80 83 rfl rfl (w_43 hw) (w_44 hw) (w_42 hw) (w_45 hw) (by decide) [] [(.ref bu)] rfl  (c_binit l Z a0 hw n0 bu r4 h_604 Z_604 f_619 B_604 F_kind__604 F_type__604 F_id__604 F_account__604 F_name__604 F_accessKey__604 F_mfa__604 F_sessionCreated__604 g_bu) e_604 rfl (lenOf pd___V rfl) (by decide) 1 (Nat.le_of_eq rfl) (by decide) (by decide) (by decide) N_588 ?_
        rintro _ T_623 h_623 locs_623 X_623 e_623 ⟨rfl, k_623, p_623f0, p_623f1, p_623f2, p_623f3, p_623f4, p_623f5, p_623f6, p_623f7, p_623f8⟩ N_623
        have hk_623 : _ ≤ h_623.size := Nat.le_trans hk_604 (k_623.1)
        have Z_623 : n0 ≤ h_623.size := Nat.le_trans Z_604 k_623.1
        have f_624 := Exa.keep f_605 k_623
        have f_625 := Exa.keep f_606 k_623
        have f_626 := Exa.keep f_607 k_623
        have f_627 := Exa.keep f_608 k_623
        have f_628 := Exa.keep f_609 k_623
        have f_629 := Exa.keep f_610 k_623
        have f_630 := Exa.keep f_611 k_623
        have f_631 := f_612.keep k_623 (ninS ne_ca_bu (nin0))
        have f_632 := Exa.keep f_613 k_623
        have f_633 := o_sta_keep f_614 k_623 (o_plainS B_604 (o_plain0))
        have f_634 := o_sta_keep f_615 k_623 (o_plainS B_604 (o_plain0))
        have f_635 := o_sta_keep f_616 k_623 (o_plainS B_604 (o_plain0))
        have f_636 := o_sta_keep f_617 k_623 (o_plainS B_604 (o_plain0))
        have f_637 := o_sta_keep f_618 k_623 (o_plainS B_604 (o_plain0))
        have f_638 := o_sta_keep f_619 k_623 (o_plainS B_604 (o_plain0))
        have f_639 := Fld.keep f_620 k_623 (ninS ne_st_bu (nin0))
        have f_640 := Fld.keep f_621 k_623 (ninS ne_st_bu (nin0))
        have f_641 := f_622.keep k_623 (ninS ne_tv_bu (nin0))
        have f_642 := Exa.keep B_604 k_623
        show OGo p e below _ n0 _ (T_623.setTop (mkF m 83 #[.val (.int p0), .val (.int p1), .val (.int p2), .val (.int p3), .val (.ref ka), .val (.ref kb), .val (.int (0 : Int32)), .val (.int (0 : Int32)), .val (.int (1 : Int32)), .val (.ref ca), .val (.ref st), .unset, .unset, .unset, .unset, .unset] [(.ref bu)]))
        refine o_astore X_623 K at_83 85 rfl #[.val (.int p0), .val (.int p1), .val (.int p2), .val (.int p3), .val (.ref ka), .val (.ref kb), .val (.int (0 : Int32)), .val (.int (0 : Int32)), .val (.int (1 : Int32)), .val (.ref ca), .val (.ref st), .val (.ref bu), .unset, .unset, .unset, .unset] rfl rfl ?_
        refine o_iconst X_623 K (1 : Int32) at_85 86 rfl rfl ?_
        refine o_istore X_623 K at_86 88 rfl #[.val (.int p0), .val (.int p1), .val (.int p2), .val (.int p3), .val (.ref ka), .val (.ref kb), .val (.int (0 : Int32)), .val (.int (0 : Int32)), .val (.int (1 : Int32)), .val (.ref ca), .val (.ref st), .val (.ref bu), .val (.int (1 : Int32)), .unset, .unset, .unset] rfl rfl ?_
        refine o_iload X_623 K at_88 90 rfl rfl ?_
        refine o_if_eq_t X_623 K at_90 117 (by decide) (by decide) (by decide) ?_
        refine o_iload X_623 K at_117 119 rfl rfl ?_
        refine o_if_eq_t X_623 K at_119 130 (by decide) (by decide) (by decide) ?_
        refine o_iload X_623 K at_130 132 rfl rfl ?_
        refine o_if_eq_f X_623 K at_132 135 rfl (by decide) ?_
        refine o_iload X_623 K at_135 137 rfl rfl ?_
        refine o_if_eq_f X_623 K at_137 140 rfl (by decide) ?_
        refine o_aload X_623 K at_140 142 rfl rfl rfl ?_
        refine o_aload X_623 K at_142 144 rfl rfl rfl ?_
        refine o_invokevirtualW X_623 K hS0 hk_623 at_144 147 rfl (w_51 hw) (w_52 hw) (w_54 hw) (w_53 hw) (w_42 hw) (w_55 hw) (by decide) p_623f0 [(.ref kb)] [] rfl  (c_kind0 l Z a0 hw n0 bu r4 kb h_623 Z_623 p_623f0 p_623f1 p_623f2 p_623f3 p_623f4 p_623f5 p_623f6 p_623f7 p_623f8 g_bu f_630) e_623 rfl (lenOf pd__Lcom_example_dhole_dhole_event_ActorKind__Lcom_example_dhole_dhole_event_Actor_Builder_ rfl) (by decide) 0 (Nat.le_of_eq rfl) (by decide) (by decide) (by decide) N_623 ?_
        rintro _ T_643 h_643 locs_643 k1_643 X_643 KW_643 e_643 hS_643 hq_643 ⟨rfl, k_643, p_643f0, p_643f1, p_643f2, p_643f3, p_643f4, p_643f5, p_643f6, p_643f7, p_643f8⟩ N_643
        have Z_643 : n0 ≤ h_643.size := Nat.le_trans Z_623 k_643.1
        have f_644 := Exa.keep f_624 k_643
        have f_645 := Exa.keep f_625 k_643
        have f_646 := Exa.keep f_626 k_643
        have f_647 := Exa.keep f_627 k_643
        have f_648 := Exa.keep f_628 k_643
        have f_649 := Exa.keep f_629 k_643
        have f_650 := Exa.keep f_630 k_643
        have f_651 := f_631.keep k_643 (ninS ne_ca_bu (nin0))
        have f_652 := Exa.keep f_632 k_643
        have f_653 := o_sta_keep f_633 k_643 (o_plainS p_623f0 (o_plain0))
        have f_654 := o_sta_keep f_634 k_643 (o_plainS p_623f0 (o_plain0))
        have f_655 := o_sta_keep f_635 k_643 (o_plainS p_623f0 (o_plain0))
        have f_656 := o_sta_keep f_636 k_643 (o_plainS p_623f0 (o_plain0))
        have f_657 := o_sta_keep f_637 k_643 (o_plainS p_623f0 (o_plain0))
        have f_658 := o_sta_keep f_638 k_643 (o_plainS p_623f0 (o_plain0))
        have f_659 := Fld.keep f_639 k_643 (ninS ne_st_bu (nin0))
        have f_660 := Fld.keep f_640 k_643 (ninS ne_st_bu (nin0))
        have f_661 := f_641.keep k_643 (ninS ne_tv_bu (nin0))
        have f_662 := Exa.keep p_623f0 k_643
        show OGo p e below _ n0 _ (T_643.setTop (mkF m 147 #[.val (.int p0), .val (.int p1), .val (.int p2), .val (.int p3), .val (.ref ka), .val (.ref kb), .val (.int (0 : Int32)), .val (.int (0 : Int32)), .val (.int (1 : Int32)), .val (.ref ca), .val (.ref st), .val (.ref bu), .val (.int (1 : Int32)), .unset, .unset, .unset] [(.ref bu)]))
        refine o_aload X_643 KW_643 at_147 149 rfl rfl rfl ?_
        refine o_acmp X_643 KW_643 at_149 152 rfl rfl true (decide_eq_true rfl) (by decide) (by decide) ?_
        refine o_iconst X_643 KW_643 (1 : Int32) at_152 153 rfl rfl ?_
        refine o_goto X_643 KW_643 at_153 157 (by decide) (by decide) ?_
        refine o_istore X_643 KW_643 at_157 159 rfl #[.val (.int p0), .val (.int p1), .val (.int p2), .val (.int p3), .val (.ref ka), .val (.ref kb), .val (.int (0 : Int32)), .val (.int (0 : Int32)), .val (.int (1 : Int32)), .val (.ref ca), .val (.ref st), .val (.ref bu), .val (.int (1 : Int32)), .unset, .unset, .unset] rfl rfl ?_
        refine o_aload X_643 KW_643 at_159 161 rfl rfl rfl ?_
        refine o_invokevirtual X_643 KW_643 at_161 164 rfl (w_65 hw) (w_66 hw) (w_68 hw) (w_67 hw) (w_42 hw) (w_69 hw) (by decide) p_643f0 [] [] rfl  (c_build0 l Z a0 hw n0 bu kb h_643 Z_643 p_643f0 p_643f1 p_643f2 p_643f3 p_643f4 p_643f5 p_643f6 p_643f7 p_643f8) e_643 rfl (lenOf pd___Lcom_example_dhole_dhole_event_Actor_ rfl) (by decide) 0 (Nat.le_of_eq rfl) (by decide) (by decide) (by decide) N_643 ?_
        rintro _ T_663 h_663 locs_663 X_663 e_663 ⟨xa, rfl, k_663, gg_663_x, sz_663_x, p_663f0, p_663f1, p_663f2, p_663f3⟩ N_663
        have hk_663 : _ ≤ h_663.size := Nat.le_trans hq_643 (k_663.1)
        have Z_663 : n0 ≤ h_663.size := Nat.le_trans Z_643 k_663.1
        have f_664 := Exa.keep f_644 k_663
        have f_665 := Exa.keep f_645 k_663
        have f_666 := Exa.keep f_646 k_663
        have f_667 := Exa.keep f_647 k_663
        have f_668 := Exa.keep f_648 k_663
        have f_669 := Exa.keep f_649 k_663
        have f_670 := Exa.keep f_650 k_663
        have f_671 := f_651.keep k_663 (nin0)
        have f_672 := Exa.keep f_652 k_663
        have f_673 := o_sta_keep f_653 k_663 (o_plain0)
        have f_674 := o_sta_keep f_654 k_663 (o_plain0)
        have f_675 := o_sta_keep f_655 k_663 (o_plain0)
        have f_676 := o_sta_keep f_656 k_663 (o_plain0)
        have f_677 := o_sta_keep f_657 k_663 (o_plain0)
        have f_678 := o_sta_keep f_658 k_663 (o_plain0)
        have f_679 := Fld.keep f_659 k_663 (nin0)
        have f_680 := Fld.keep f_660 k_663 (nin0)
        have f_681 := f_661.keep k_663 (nin0)
        have f_682 := Exa.keep p_643f0 k_663
        have f_683 := Fld.keep p_643f1 k_663 (nin0)
        have f_684 := Fld.keep p_643f2 k_663 (nin0)
        have f_685 := Fld.keep p_643f3 k_663 (nin0)
        have f_686 := Fld.keep p_643f4 k_663 (nin0)
        have f_687 := Fld.keep p_643f5 k_663 (nin0)
        have f_688 := Fld.keep p_643f6 k_663 (nin0)
        have f_689 := Fld.keep p_643f7 k_663 (nin0)
        have f_690 := Fld.keep p_643f8 k_663 (nin0)
        have ne_r0_xa : r0 ≠ xa := Nat.ne_of_lt (Nat.lt_of_lt_of_le f_644.lt sz_663_x)
        have ne_r1_xa : r1 ≠ xa := Nat.ne_of_lt (Nat.lt_of_lt_of_le f_645.lt sz_663_x)
        have ne_r2_xa : r2 ≠ xa := Nat.ne_of_lt (Nat.lt_of_lt_of_le f_646.lt sz_663_x)
        have ne_r3_xa : r3 ≠ xa := Nat.ne_of_lt (Nat.lt_of_lt_of_le f_647.lt sz_663_x)
        have ne_r4_xa : r4 ≠ xa := Nat.ne_of_lt (Nat.lt_of_lt_of_le f_648.lt sz_663_x)
        have ne_ka_xa : ka ≠ xa := Nat.ne_of_lt (Nat.lt_of_lt_of_le f_649.lt sz_663_x)
        have ne_kb_xa : kb ≠ xa := Nat.ne_of_lt (Nat.lt_of_lt_of_le f_650.lt sz_663_x)
        have ne_ca_xa : ca ≠ xa := Nat.ne_of_lt (Nat.lt_of_lt_of_le f_651.lt sz_663_x)
        have ne_st_xa : st ≠ xa := Nat.ne_of_lt (Nat.lt_of_lt_of_le f_652.lt sz_663_x)
        have ne_tv_xa : tv ≠ xa := Nat.ne_of_lt (Nat.lt_of_lt_of_le f_661.lt sz_663_x)
        have ne_bu_xa : bu ≠ xa := Nat.ne_of_lt (Nat.lt_of_lt_of_le p_643f0.lt sz_663_x)
        show OGo p e below _ n0 _ (T_663.setTop (mkF m 164 #[.val (.int p0), .val (.int p1), .val (.int p2), .val (.int p3), .val (.ref ka), .val (.ref kb), .val (.int (0 : Int32)), .val (.int (0 : Int32)), .val (.int (1 : Int32)), .val (.ref ca), .val (.ref st), .val (.ref bu), .val (.int (1 : Int32)), .unset, .unset, .unset] [(.ref xa)]))
        refine o_astore X_663 KW_643 at_164 166 rfl #[.val (.int p0), .val (.int p1), .val (.int p2), .val (.int p3), .val (.ref ka), .val (.ref kb), .val (.int (0 : Int32)), .val (.int (0 : Int32)), .val (.int (1 : Int32)), .val (.ref ca), .val (.ref st), .val (.ref bu), .val (.int (1 : Int32)), .val (.ref xa), .unset, .unset] rfl rfl ?_
        refine o_iload X_663 KW_643 at_166 168 rfl rfl ?_
        refine o_if_eq_f X_663 KW_643 at_168 171 rfl (by decide) ?_
        refine o_aload X_663 KW_643 at_171 173 rfl rfl rfl ?_
        refine o_astore X_663 KW_643 at_173 175 rfl #[.val (.int p0), .val (.int p1), .val (.int p2), .val (.int p3), .val (.ref ka), .val (.ref kb), .val (.int (0 : Int32)), .val (.int (0 : Int32)), .val (.int (1 : Int32)), .val (.ref ca), .val (.ref st), .val (.ref bu), .val (.int (1 : Int32)), .val (.ref xa), .val (.ref kb), .unset] rfl rfl ?_
        refine o_goto X_663 KW_643 at_175 195 (by decide) (by decide) ?_
        refine o_iload X_663 KW_643 at_195 197 rfl rfl ?_
        refine o_if_eq_t X_663 KW_643 at_197 215 (by decide) (by decide) (by decide) ?_
        refine o_aload X_663 KW_643 at_215 217 rfl rfl rfl ?_
        refine o_invokevirtual X_663 KW_643 at_217 220 rfl (w_108 hw) (w_109 hw) (w_111 hw) (w_110 hw) (w_72 hw) (w_112 hw) (by decide) p_663f0 [] [] rfl  (c_atype0 l Z a0 hw n0 xa h_663 Z_663 p_663f2) e_663 rfl (lenOf pd___Ljava_lang_String_ rfl) (by decide) 0 (Nat.le_of_eq rfl) (by decide) (by decide) (by decide) N_663 ?_
        rintro _ T_691 h_691 locs_691 X_691 q_691 ⟨rfl, r_691⟩ N_691
        have e_691 := q_691.trans r_691
        show OGo p e below _ n0 _ (T_691.setTop (mkF m 220 #[.val (.int p0), .val (.int p1), .val (.int p2), .val (.int p3), .val (.ref ka), .val (.ref kb), .val (.int (0 : Int32)), .val (.int (0 : Int32)), .val (.int (1 : Int32)), .val (.ref ca), .val (.ref st), .val (.ref bu), .val (.int (1 : Int32)), .val (.ref xa), .val (.ref kb), .unset] [.null]))
        refine o_ifnonnull_f X_691 KW_643 at_220 223 rfl ?_
        refine o_iconst X_691 KW_643 (1 : Int32) at_223 224 rfl rfl ?_
        refine o_goto X_691 KW_643 at_224 228 (by decide) (by decide) ?_
        refine o_istore X_691 KW_643 at_228 230 rfl #[.val (.int p0), .val (.int p1), .val (.int p2), .val (.int p3), .val (.ref ka), .val (.ref kb), .val (.int (0 : Int32)), .val (.int (0 : Int32)), .val (.int (1 : Int32)), .val (.ref ca), .val (.ref st), .val (.ref bu), .val (.int (1 : Int32)), .val (.ref xa), .val (.ref kb), .val (.int (1 : Int32))] rfl rfl ?_
        refine o_iload X_691 KW_643 at_230 232 rfl rfl ?_
        refine o_if_eq_f X_691 KW_643 at_232 235 rfl (by decide) ?_
        refine o_aload X_691 KW_643 at_235 237 rfl rfl rfl ?_
        refine o_invokevirtual X_691 KW_643 at_237 240 rfl (w_113 hw) (w_114 hw) (w_116 hw) (w_115 hw) (w_72 hw) (w_117 hw) (by decide) p_663f0 [] [] rfl  (c_akind l Z a0 hw n0 xa kb h_663 Z_663 p_663f1) e_691 rfl (lenOf pd___Lcom_example_dhole_dhole_event_ActorKind_ rfl) (by decide) 0 (Nat.le_of_eq rfl) (by decide) (by decide) (by decide) N_691 ?_
        rintro _ T_692 h_692 locs_692 X_692 q_692 ⟨rfl, r_692⟩ N_692
        have e_692 := q_692.trans r_692
        show OGo p e below _ n0 _ (T_692.setTop (mkF m 240 #[.val (.int p0), .val (.int p1), .val (.int p2), .val (.int p3), .val (.ref ka), .val (.ref kb), .val (.int (0 : Int32)), .val (.int (0 : Int32)), .val (.int (1 : Int32)), .val (.ref ca), .val (.ref st), .val (.ref bu), .val (.int (1 : Int32)), .val (.ref xa), .val (.ref kb), .val (.int (1 : Int32))] [(.ref kb)]))
        refine o_aload X_692 KW_643 at_240 242 rfl rfl rfl ?_
        refine o_acmp X_692 KW_643 at_242 245 rfl rfl true (decide_eq_true rfl) (by decide) (by decide) ?_
        refine o_iload X_692 KW_643 at_245 247 rfl rfl ?_
        refine o_if_eq_f X_692 KW_643 at_247 250 rfl (by decide) ?_
        refine o_aload X_692 KW_643 at_250 252 rfl rfl rfl ?_
        refine o_invokevirtual X_692 KW_643 at_252 255 rfl (w_118 hw) (w_119 hw) (w_121 hw) (w_120 hw) (w_72 hw) (w_122 hw) (by decide) p_663f0 [] [] rfl  (c_amfa l Z a0 hw n0 xa h_663 Z_663 p_663f3) e_692 rfl (lenOf pd___Ljava_lang_Boolean_ rfl) (by decide) 0 (Nat.le_of_eq rfl) (by decide) (by decide) (by decide) N_692 ?_
        rintro _ T_693 h_693 locs_693 X_693 q_693 ⟨rfl, r_693⟩ N_693
        have e_693 := q_693.trans r_693
        show OGo p e below _ n0 _ (T_693.setTop (mkF m 255 #[.val (.int p0), .val (.int p1), .val (.int p2), .val (.int p3), .val (.ref ka), .val (.ref kb), .val (.int (0 : Int32)), .val (.int (0 : Int32)), .val (.int (1 : Int32)), .val (.ref ca), .val (.ref st), .val (.ref bu), .val (.int (1 : Int32)), .val (.ref xa), .val (.ref kb), .val (.int (1 : Int32))] [.null]))
        refine o_ifnonnull_f X_693 KW_643 at_255 258 rfl ?_
        refine o_iconst X_693 KW_643 (1 : Int32) at_258 259 rfl rfl ?_
        refine o_goto X_693 KW_643 at_259 263 (by decide) (by decide) ?_
        refine o_ireturnNW X_693 hS_643 e_693 hk_663 KW_643 (by decide) at_263 (by decide) (by decide) N_693 ?_
        exact rfl
    · refine o_iconst X_414 K (1 : Int32) at_31 32 rfl rfl ?_
      refine o_goto X_414 K at_32 36 (by decide) (by decide) ?_
      refine o_istore X_414 K at_36 38 rfl #[.val (.int p0), .val (.int p1), .val (.int p2), .val (.int p3), .val (.ref ka), .val (.ref kb), .val (.int (0 : Int32)), .val (.int (1 : Int32)), .unset, .unset, .unset, .unset, .unset, .unset, .unset, .unset] rfl rfl ?_
      refine o_iloadN X_414 K at_38 39 rfl rfl ?_
      refine o_iconst X_414 K (4 : Int32) at_39 40 rfl rfl ?_
      refine o_iand X_414 K at_40 41 rfl ?_
      refine o_if_eq X_414 K at_41 48 (by decide) (by decide) 44 rfl (fun hc41 => ?_) (fun hc41 => ?_)
      · refine o_iconst X_414 K (0 : Int32) at_48 49 rfl rfl ?_
        refine o_istore X_414 K at_49 51 rfl #[.val (.int p0), .val (.int p1), .val (.int p2), .val (.int p3), .val (.ref ka), .val (.ref kb), .val (.int (0 : Int32)), .val (.int (1 : Int32)), .val (.int (0 : Int32)), .unset, .unset, .unset, .unset, .unset, .unset, .unset] rfl rfl ?_
        refine o_iconst X_414 K (1 : Int32) at_51 52 rfl rfl ?_
        refine o_newarray X_414 K (n := 1) at_52 54 rfl (w_10 hw) e_414 (by decide) 1 (by decide) (by decide) (by decide) (by decide) rfl ?_
        intro T_694 h_694 ca g_694 X_694 e_694 E_694 A_694
        dsimp only [newarray.typeOf, defaultValue] at A_694
        have hk_694 : _ ≤ h_694.size := Nat.le_trans hk0 (E_694.1)
        have Z_694 : n0 ≤ h_694.size := Nat.le_trans Z0 E_694.1
        have f_695 := Sta.ext E_694 S_COMPACT_STRINGS
        have f_696 := Sta.ext E_694 S_ROOT
        have f_697 := Sta.ext E_694 S_USER
        have f_698 := Sta.ext E_694 S_ROLE
        have f_699 := Sta.ext E_694 S_SERVICE
        have f_700 := Sta.ext E_694 S_UNKNOWN
        have f_701 := Exa.ext E_694 E_r0
        have f_702 := Exa.ext E_694 E_r1
        have f_703 := Exa.ext E_694 E_r2
        have f_704 := Exa.ext E_694 E_r3
        have f_705 := Exa.ext E_694 E_r4
        have f_706 := Exa.ext E_694 E_413
        have f_707 := Exa.ext E_694 E_414
        have g_ca : n0 ≤ ca := by rw [g_694]; exact Z0
        have ne_r0_ca : r0 ≠ ca := by rw [g_694]; exact Nat.ne_of_lt E_r0.lt
        have ne_r1_ca : r1 ≠ ca := by rw [g_694]; exact Nat.ne_of_lt E_r1.lt
        have ne_r2_ca : r2 ≠ ca := by rw [g_694]; exact Nat.ne_of_lt E_r2.lt
        have ne_r3_ca : r3 ≠ ca := by rw [g_694]; exact Nat.ne_of_lt E_r3.lt
        have ne_r4_ca : r4 ≠ ca := by rw [g_694]; exact Nat.ne_of_lt E_r4.lt
        have ne_ka_ca : ka ≠ ca := by rw [g_694]; exact Nat.ne_of_lt E_413.lt
        have ne_kb_ca : kb ≠ ca := by rw [g_694]; exact Nat.ne_of_lt E_414.lt
        refine o_dup X_694 K at_54 55 rfl rfl ?_
        refine o_iconst X_694 K (0 : Int32) at_55 56 rfl rfl ?_
        refine o_iloadN X_694 K at_56 57 rfl rfl ?_
        refine o_sipush X_694 K (255 : Int32) at_57 60 rfl rfl ?_
        refine o_iand X_694 K at_60 61 rfl ?_
        refine o_i2c X_694 K at_61 62 rfl ?_
        refine o_castore X_694 K (i := 0) (x' := ((p2 &&& (255 : Int32)).toUInt32.toUInt16.toUInt32.toInt32)) at_62 63 rfl e_694 A_694 (by decide) (by decide) (o_nc _) N_414 g_ca ?_
        intro T_708 h_708 locs_708 X_708 e_708 W_708 A_708 N_708
        have hk_708 : _ ≤ h_708.size := Nat.le_trans hk_694 (Nat.le_of_eq (Wr.size W_708).symm)
        have Z_708 : n0 ≤ h_708.size := by rw [Wr.size W_708]; exact Z_694
        have f_709 := Sta.wr W_708 f_695
        have f_710 := Sta.wr W_708 f_696
        have f_711 := Sta.wr W_708 f_697
        have f_712 := Sta.wr W_708 f_698
        have f_713 := Sta.wr W_708 f_699
        have f_714 := Sta.wr W_708 f_700
        have f_715 := Exa.wr W_708 f_701
        have f_716 := Exa.wr W_708 f_702
        have f_717 := Exa.wr W_708 f_703
        have f_718 := Exa.wr W_708 f_704
        have f_719 := Exa.wr W_708 f_705
        have f_720 := Exa.wr W_708 f_706
        have f_721 := Exa.wr W_708 f_707
        refine o_astore X_708 K at_63 65 rfl #[.val (.int p0), .val (.int p1), .val (.int p2), .val (.int p3), .val (.ref ka), .val (.ref kb), .val (.int (0 : Int32)), .val (.int (1 : Int32)), .val (.int (0 : Int32)), .val (.ref ca), .unset, .unset, .unset, .unset, .unset, .unset] rfl rfl ?_
        refine o_new X_708 K at_65 68 rfl (w_11 hw) (w_12 hw) (w_13 hw) e_708 (by decide) (by decide) ?_
        intro T_722 h_722 st g_722 X_722 e_722 E_722 B_722 D_722
        have hk_722 : _ ≤ h_722.size := Nat.le_trans hk_708 (E_722.1)
        have Z_722 : n0 ≤ h_722.size := Nat.le_trans Z_708 E_722.1
        have f_723 := Sta.ext E_722 f_709
        have f_724 := Sta.ext E_722 f_710
        have f_725 := Sta.ext E_722 f_711
        have f_726 := Sta.ext E_722 f_712
        have f_727 := Sta.ext E_722 f_713
        have f_728 := Sta.ext E_722 f_714
        have f_729 := Exa.ext E_722 f_715
        have f_730 := Exa.ext E_722 f_716
        have f_731 := Exa.ext E_722 f_717
        have f_732 := Exa.ext E_722 f_718
        have f_733 := Exa.ext E_722 f_719
        have f_734 := Exa.ext E_722 f_720
        have f_735 := Exa.ext E_722 f_721
        have f_736 := A_708.ext E_722
        have g_st : n0 ≤ st := by rw [g_722]; exact Z_708
        have ne_r0_st : r0 ≠ st := by rw [g_722]; exact Nat.ne_of_lt f_715.lt
        have ne_r1_st : r1 ≠ st := by rw [g_722]; exact Nat.ne_of_lt f_716.lt
        have ne_r2_st : r2 ≠ st := by rw [g_722]; exact Nat.ne_of_lt f_717.lt
        have ne_r3_st : r3 ≠ st := by rw [g_722]; exact Nat.ne_of_lt f_718.lt
        have ne_r4_st : r4 ≠ st := by rw [g_722]; exact Nat.ne_of_lt f_719.lt
        have ne_ka_st : ka ≠ st := by rw [g_722]; exact Nat.ne_of_lt f_720.lt
        have ne_kb_st : kb ≠ st := by rw [g_722]; exact Nat.ne_of_lt f_721.lt
        have ne_ca_st : ca ≠ st := by rw [g_722]; exact Nat.ne_of_lt A_708.lt
        have F_coder__722 : Fld Z h_722 st "java/lang/String" "coder" "B" (.int (0 : Int32)) := D_722 (Or.inr (w_37 hw)) (ty := .byte) (by decide)
        have F_value__722 : Fld Z h_722 st "java/lang/String" "value" "[B" .null := D_722 (Or.inr (w_39 hw)) (ty := (.array .byte)) (by decide)
        refine o_dup X_722 K at_68 69 rfl rfl ?_
        refine o_aload X_722 K at_69 71 rfl rfl rfl ?_
        refine o_strinit X_722 K (cs := [((p2 &&& (255 : Int32)).toUInt32.toUInt16.toUInt32.toInt32)]) at_71 74 rfl (w_14 hw) (w_15 hw) (w_16 hw) (hws_ hw) (w_12 hw) e_722 Z_722 g_st B_722 F_value__722 F_coder__722 f_736 f_723 hcs rfl (fun j hj => by rcases (by omega : j = 0) with rfl <;> rfl) (by decide) (by decide) (o_all1 (o_and255 _)) rfl N_708 (by decide) 1 (Nat.le_of_eq rfl) (by decide) (by decide) (by decide) ?_
        intro T_737 h_737 locs_737 tv X_737 e_737 k_737 E_737 Fc_737 g_737 s_737 ne_tv_st Fv_737 A_737 N_737
        have hk_737 : _ ≤ h_737.size := Nat.le_trans hk_722 (k_737.1)
        have Z_737 : n0 ≤ h_737.size := Nat.le_trans Z_722 k_737.1
        have f_738 := Exa.keep f_729 k_737
        have f_739 := Exa.keep f_730 k_737
        have f_740 := Exa.keep f_731 k_737
        have f_741 := Exa.keep f_732 k_737
        have f_742 := Exa.keep f_733 k_737
        have f_743 := Exa.keep f_734 k_737
        have f_744 := Exa.keep f_735 k_737
        have f_745 := f_736.keep k_737 (ninS ne_ca_st (nin0))
        have f_746 := Exa.keep B_722 k_737
        have f_747 := o_sta_keep f_723 k_737 (fun y_ hy_ cl_ hc_ => by rw [List.mem_singleton] at hy_; subst hy_; obtain ⟨c1_, -, d1_, -, -, d4_, -⟩ := B_722; cases hc_.symm.trans d1_; exact d4_)
        have f_748 := o_sta_keep f_724 k_737 (fun y_ hy_ cl_ hc_ => by rw [List.mem_singleton] at hy_; subst hy_; obtain ⟨c1_, -, d1_, -, -, d4_, -⟩ := B_722; cases hc_.symm.trans d1_; exact d4_)
        have f_749 := o_sta_keep f_725 k_737 (fun y_ hy_ cl_ hc_ => by rw [List.mem_singleton] at hy_; subst hy_; obtain ⟨c1_, -, d1_, -, -, d4_, -⟩ := B_722; cases hc_.symm.trans d1_; exact d4_)
        have f_750 := o_sta_keep f_726 k_737 (fun y_ hy_ cl_ hc_ => by rw [List.mem_singleton] at hy_; subst hy_; obtain ⟨c1_, -, d1_, -, -, d4_, -⟩ := B_722; cases hc_.symm.trans d1_; exact d4_)
        have f_751 := o_sta_keep f_727 k_737 (fun y_ hy_ cl_ hc_ => by rw [List.mem_singleton] at hy_; subst hy_; obtain ⟨c1_, -, d1_, -, -, d4_, -⟩ := B_722; cases hc_.symm.trans d1_; exact d4_)
        have f_752 := o_sta_keep f_728 k_737 (fun y_ hy_ cl_ hc_ => by rw [List.mem_singleton] at hy_; subst hy_; obtain ⟨c1_, -, d1_, -, -, d4_, -⟩ := B_722; cases hc_.symm.trans d1_; exact d4_)
        have ne_r0_tv : r0 ≠ tv := Nat.ne_of_lt (Nat.lt_of_lt_of_le f_729.lt s_737)
        have ne_r1_tv : r1 ≠ tv := Nat.ne_of_lt (Nat.lt_of_lt_of_le f_730.lt s_737)
        have ne_r2_tv : r2 ≠ tv := Nat.ne_of_lt (Nat.lt_of_lt_of_le f_731.lt s_737)
        have ne_r3_tv : r3 ≠ tv := Nat.ne_of_lt (Nat.lt_of_lt_of_le f_732.lt s_737)
        have ne_r4_tv : r4 ≠ tv := Nat.ne_of_lt (Nat.lt_of_lt_of_le f_733.lt s_737)
        have ne_ka_tv : ka ≠ tv := Nat.ne_of_lt (Nat.lt_of_lt_of_le f_734.lt s_737)
        have ne_kb_tv : kb ≠ tv := Nat.ne_of_lt (Nat.lt_of_lt_of_le f_735.lt s_737)
        have ne_ca_tv : ca ≠ tv := Nat.ne_of_lt (Nat.lt_of_lt_of_le f_736.lt s_737)
        show OGo p e below _ n0 _ (T_737.setTop (mkF m 74 #[.val (.int p0), .val (.int p1), .val (.int p2), .val (.int p3), .val (.ref ka), .val (.ref kb), .val (.int (0 : Int32)), .val (.int (1 : Int32)), .val (.int (0 : Int32)), .val (.ref ca), .unset, .unset, .unset, .unset, .unset, .unset] [(.ref st)]))
        refine o_astore X_737 K at_74 76 rfl #[.val (.int p0), .val (.int p1), .val (.int p2), .val (.int p3), .val (.ref ka), .val (.ref kb), .val (.int (0 : Int32)), .val (.int (1 : Int32)), .val (.int (0 : Int32)), .val (.ref ca), .val (.ref st), .unset, .unset, .unset, .unset, .unset] rfl rfl ?_
        refine o_new X_737 K at_76 79 rfl (w_40 hw) (w_41 hw) (w_42 hw) e_737 (by decide) (by decide) ?_
        intro T_753 h_753 bu g_753 X_753 e_753 E_753 B_753 D_753
        have hk_753 : _ ≤ h_753.size := Nat.le_trans hk_737 (E_753.1)
        have Z_753 : n0 ≤ h_753.size := Nat.le_trans Z_737 E_753.1
        have f_754 := Exa.ext E_753 f_738
        have f_755 := Exa.ext E_753 f_739
        have f_756 := Exa.ext E_753 f_740
        have f_757 := Exa.ext E_753 f_741
        have f_758 := Exa.ext E_753 f_742
        have f_759 := Exa.ext E_753 f_743
        have f_760 := Exa.ext E_753 f_744
        have f_761 := f_745.ext E_753
        have f_762 := Exa.ext E_753 E_737
        have f_763 := Sta.ext E_753 f_747
        have f_764 := Sta.ext E_753 f_748
        have f_765 := Sta.ext E_753 f_749
        have f_766 := Sta.ext E_753 f_750
        have f_767 := Sta.ext E_753 f_751
        have f_768 := Sta.ext E_753 f_752
        have f_769 := Fld.ext E_753 Fc_737
        have f_770 := Fld.ext E_753 Fv_737
        have f_771 := A_737.ext E_753
        have g_bu : n0 ≤ bu := by rw [g_753]; exact Z_737
        have ne_r0_bu : r0 ≠ bu := by rw [g_753]; exact Nat.ne_of_lt f_738.lt
        have ne_r1_bu : r1 ≠ bu := by rw [g_753]; exact Nat.ne_of_lt f_739.lt
        have ne_r2_bu : r2 ≠ bu := by rw [g_753]; exact Nat.ne_of_lt f_740.lt
        have ne_r3_bu : r3 ≠ bu := by rw [g_753]; exact Nat.ne_of_lt f_741.lt
        have ne_r4_bu : r4 ≠ bu := by rw [g_753]; exact Nat.ne_of_lt f_742.lt
        have ne_ka_bu : ka ≠ bu := by rw [g_753]; exact Nat.ne_of_lt f_743.lt
        have ne_kb_bu : kb ≠ bu := by rw [g_753]; exact Nat.ne_of_lt f_744.lt
        have ne_ca_bu : ca ≠ bu := by rw [g_753]; exact Nat.ne_of_lt f_745.lt
        have ne_st_bu : st ≠ bu := by rw [g_753]; exact Nat.ne_of_lt E_737.lt
        have ne_tv_bu : tv ≠ bu := by rw [g_753]; exact Nat.ne_of_lt A_737.lt
        have F_kind__753 : Fld Z h_753 bu "com/example/dhole/dhole/event/Actor$Builder" "kind" "Lcom/example/dhole/dhole/event/ActorKind;" .null := D_753 (Or.inl (w_50 hw)) (ty := (.object "com/example/dhole/dhole/event/ActorKind")) (by decide)
        have F_type__753 : Fld Z h_753 bu "com/example/dhole/dhole/event/Actor$Builder" "type" "Ljava/lang/String;" .null := D_753 (Or.inl (w_81 hw)) (ty := (.object "java/lang/String")) (by decide)
        have F_id__753 : Fld Z h_753 bu "com/example/dhole/dhole/event/Actor$Builder" "id" "Ljava/lang/String;" .null := D_753 (Or.inl (w_85 hw)) (ty := (.object "java/lang/String")) (by decide)
        have F_account__753 : Fld Z h_753 bu "com/example/dhole/dhole/event/Actor$Builder" "account" "Ljava/lang/String;" .null := D_753 (Or.inl (w_89 hw)) (ty := (.object "java/lang/String")) (by decide)
        have F_name__753 : Fld Z h_753 bu "com/example/dhole/dhole/event/Actor$Builder" "name" "Ljava/lang/String;" .null := D_753 (Or.inl (w_93 hw)) (ty := (.object "java/lang/String")) (by decide)
        have F_accessKey__753 : Fld Z h_753 bu "com/example/dhole/dhole/event/Actor$Builder" "accessKey" "Ljava/lang/String;" .null := D_753 (Or.inl (w_97 hw)) (ty := (.object "java/lang/String")) (by decide)
        have F_mfa__753 : Fld Z h_753 bu "com/example/dhole/dhole/event/Actor$Builder" "mfa" "Ljava/lang/Boolean;" .null := D_753 (Or.inl (w_101 hw)) (ty := (.object "java/lang/Boolean")) (by decide)
        have F_sessionCreated__753 : Fld Z h_753 bu "com/example/dhole/dhole/event/Actor$Builder" "sessionCreated" "Lcom/example/dhole/dhole/event/EventTime;" .null := D_753 (Or.inl (w_105 hw)) (ty := (.object "com/example/dhole/dhole/event/EventTime")) (by decide)
        refine o_dup X_753 K at_79 80 rfl rfl ?_
        refine o_invokespecial X_753 K at_80 83 rfl rfl (w_43 hw) (w_44 hw) (w_42 hw) (w_45 hw) (by decide) [] [(.ref bu)] rfl  (c_binit l Z a0 hw n0 bu r4 h_753 Z_753 f_768 B_753 F_kind__753 F_type__753 F_id__753 F_account__753 F_name__753 F_accessKey__753 F_mfa__753 F_sessionCreated__753 g_bu) e_753 rfl (lenOf pd___V rfl) (by decide) 1 (Nat.le_of_eq rfl) (by decide) (by decide) (by decide) N_737 ?_
        rintro _ T_772 h_772 locs_772 X_772 e_772 ⟨rfl, k_772, p_772f0, p_772f1, p_772f2, p_772f3, p_772f4, p_772f5, p_772f6, p_772f7, p_772f8⟩ N_772
        have hk_772 : _ ≤ h_772.size := Nat.le_trans hk_753 (k_772.1)
        have Z_772 : n0 ≤ h_772.size := Nat.le_trans Z_753 k_772.1
        have f_773 := Exa.keep f_754 k_772
        have f_774 := Exa.keep f_755 k_772
        have f_775 := Exa.keep f_756 k_772
        have f_776 := Exa.keep f_757 k_772
        have f_777 := Exa.keep f_758 k_772
        have f_778 := Exa.keep f_759 k_772
        have f_779 := Exa.keep f_760 k_772
        have f_780 := f_761.keep k_772 (ninS ne_ca_bu (nin0))
        have f_781 := Exa.keep f_762 k_772
        have f_782 := o_sta_keep f_763 k_772 (o_plainS B_753 (o_plain0))
        have f_783 := o_sta_keep f_764 k_772 (o_plainS B_753 (o_plain0))
        have f_784 := o_sta_keep f_765 k_772 (o_plainS B_753 (o_plain0))
        have f_785 := o_sta_keep f_766 k_772 (o_plainS B_753 (o_plain0))
        have f_786 := o_sta_keep f_767 k_772 (o_plainS B_753 (o_plain0))
        have f_787 := o_sta_keep f_768 k_772 (o_plainS B_753 (o_plain0))
        have f_788 := Fld.keep f_769 k_772 (ninS ne_st_bu (nin0))
        have f_789 := Fld.keep f_770 k_772 (ninS ne_st_bu (nin0))
        have f_790 := f_771.keep k_772 (ninS ne_tv_bu (nin0))
        have f_791 := Exa.keep B_753 k_772
        show OGo p e below _ n0 _ (T_772.setTop (mkF m 83 #[.val (.int p0), .val (.int p1), .val (.int p2), .val (.int p3), .val (.ref ka), .val (.ref kb), .val (.int (0 : Int32)), .val (.int (1 : Int32)), .val (.int (0 : Int32)), .val (.ref ca), .val (.ref st), .unset, .unset, .unset, .unset, .unset] [(.ref bu)]))
        refine o_astore X_772 K at_83 85 rfl #[.val (.int p0), .val (.int p1), .val (.int p2), .val (.int p3), .val (.ref ka), .val (.ref kb), .val (.int (0 : Int32)), .val (.int (1 : Int32)), .val (.int (0 : Int32)), .val (.ref ca), .val (.ref st), .val (.ref bu), .unset, .unset, .unset, .unset] rfl rfl ?_
        refine o_iconst X_772 K (1 : Int32) at_85 86 rfl rfl ?_
        refine o_istore X_772 K at_86 88 rfl #[.val (.int p0), .val (.int p1), .val (.int p2), .val (.int p3), .val (.ref ka), .val (.ref kb), .val (.int (0 : Int32)), .val (.int (1 : Int32)), .val (.int (0 : Int32)), .val (.ref ca), .val (.ref st), .val (.ref bu), .val (.int (1 : Int32)), .unset, .unset, .unset] rfl rfl ?_
        refine o_iload X_772 K at_88 90 rfl rfl ?_
        refine o_if_eq_t X_772 K at_90 117 (by decide) (by decide) (by decide) ?_
        refine o_iload X_772 K at_117 119 rfl rfl ?_
        refine o_if_eq_f X_772 K at_119 122 rfl (by decide) ?_
        refine o_aload X_772 K at_122 124 rfl rfl rfl ?_
        refine o_aload X_772 K at_124 126 rfl rfl rfl ?_
        refine o_invokevirtual X_772 K at_126 129 rfl (w_125 hw) (w_126 hw) (w_128 hw) (w_127 hw) (w_42 hw) (w_129 hw) (by decide) p_772f0 [(.ref st)] [] rfl  (c_btype l Z a0 hw n0 bu r4 st h_772 Z_772 p_772f0 p_772f1 p_772f2 p_772f3 p_772f4 p_772f5 p_772f6 p_772f7 p_772f8 g_bu) e_772 rfl (lenOf pd__Ljava_lang_String__Lcom_example_dhole_dhole_event_Actor_Builder_ rfl) (by decide) 0 (Nat.le_of_eq rfl) (by decide) (by decide) (by decide) N_772 ?_
        rintro _ T_792 h_792 locs_792 X_792 e_792 ⟨rfl, k_792, p_792f0, p_792f1, p_792f2, p_792f3, p_792f4, p_792f5, p_792f6, p_792f7, p_792f8⟩ N_792
        have hk_792 : _ ≤ h_792.size := Nat.le_trans hk_772 (k_792.1)
        have Z_792 : n0 ≤ h_792.size := Nat.le_trans Z_772 k_792.1
        have f_793 := Exa.keep f_773 k_792
        have f_794 := Exa.keep f_774 k_792
        have f_795 := Exa.keep f_775 k_792
        have f_796 := Exa.keep f_776 k_792
        have f_797 := Exa.keep f_777 k_792
        have f_798 := Exa.keep f_778 k_792
        have f_799 := Exa.keep f_779 k_792
        have f_800 := f_780.keep k_792 (ninS ne_ca_bu (nin0))
        have f_801 := Exa.keep f_781 k_792
        have f_802 := o_sta_keep f_782 k_792 (o_plainS p_772f0 (o_plain0))
        have f_803 := o_sta_keep f_783 k_792 (o_plainS p_772f0 (o_plain0))
        have f_804 := o_sta_keep f_784 k_792 (o_plainS p_772f0 (o_plain0))
        have f_805 := o_sta_keep f_785 k_792 (o_plainS p_772f0 (o_plain0))
        have f_806 := o_sta_keep f_786 k_792 (o_plainS p_772f0 (o_plain0))
        have f_807 := o_sta_keep f_787 k_792 (o_plainS p_772f0 (o_plain0))
        have f_808 := Fld.keep f_788 k_792 (ninS ne_st_bu (nin0))
        have f_809 := Fld.keep f_789 k_792 (ninS ne_st_bu (nin0))
        have f_810 := f_790.keep k_792 (ninS ne_tv_bu (nin0))
        have f_811 := Exa.keep p_772f0 k_792
        show OGo p e below _ n0 _ (T_792.setTop (mkF m 129 #[.val (.int p0), .val (.int p1), .val (.int p2), .val (.int p3), .val (.ref ka), .val (.ref kb), .val (.int (0 : Int32)), .val (.int (1 : Int32)), .val (.int (0 : Int32)), .val (.ref ca), .val (.ref st), .val (.ref bu), .val (.int (1 : Int32)), .unset, .unset, .unset] [(.ref bu)]))
        refine o_pop X_792 K at_129 130 rfl rfl ?_
        refine o_iload X_792 K at_130 132 rfl rfl ?_
        refine o_if_eq_t X_792 K at_132 159 (by decide) (by decide) (by decide) ?_
        refine o_aload X_792 K at_159 161 rfl rfl rfl ?_
        refine o_invokevirtual X_792 K at_161 164 rfl (w_65 hw) (w_66 hw) (w_68 hw) (w_67 hw) (w_42 hw) (w_69 hw) (by decide) p_792f0 [] [] rfl  (c_build1 l Z a0 hw n0 bu r4 st h_792 Z_792 p_792f0 p_792f1 p_792f2 p_792f3 p_792f4 p_792f5 p_792f6 p_792f7 p_792f8) e_792 rfl (lenOf pd___Lcom_example_dhole_dhole_event_Actor_ rfl) (by decide) 0 (Nat.le_of_eq rfl) (by decide) (by decide) (by decide) N_792 ?_
        rintro _ T_812 h_812 locs_812 X_812 e_812 ⟨xa, rfl, k_812, gg_812_x, sz_812_x, p_812f0, p_812f1, p_812f2, p_812f3⟩ N_812
        have hk_812 : _ ≤ h_812.size := Nat.le_trans hk_792 (k_812.1)
        have Z_812 : n0 ≤ h_812.size := Nat.le_trans Z_792 k_812.1
        have f_813 := Exa.keep f_793 k_812
        have f_814 := Exa.keep f_794 k_812
        have f_815 := Exa.keep f_795 k_812
        have f_816 := Exa.keep f_796 k_812
        have f_817 := Exa.keep f_797 k_812
        have f_818 := Exa.keep f_798 k_812
        have f_819 := Exa.keep f_799 k_812
        have f_820 := f_800.keep k_812 (nin0)
        have f_821 := Exa.keep f_801 k_812
        have f_822 := o_sta_keep f_802 k_812 (o_plain0)
        have f_823 := o_sta_keep f_803 k_812 (o_plain0)
        have f_824 := o_sta_keep f_804 k_812 (o_plain0)
        have f_825 := o_sta_keep f_805 k_812 (o_plain0)
        have f_826 := o_sta_keep f_806 k_812 (o_plain0)
        have f_827 := o_sta_keep f_807 k_812 (o_plain0)
        have f_828 := Fld.keep f_808 k_812 (nin0)
        have f_829 := Fld.keep f_809 k_812 (nin0)
        have f_830 := f_810.keep k_812 (nin0)
        have f_831 := Exa.keep p_792f0 k_812
        have f_832 := Fld.keep p_792f1 k_812 (nin0)
        have f_833 := Fld.keep p_792f2 k_812 (nin0)
        have f_834 := Fld.keep p_792f3 k_812 (nin0)
        have f_835 := Fld.keep p_792f4 k_812 (nin0)
        have f_836 := Fld.keep p_792f5 k_812 (nin0)
        have f_837 := Fld.keep p_792f6 k_812 (nin0)
        have f_838 := Fld.keep p_792f7 k_812 (nin0)
        have f_839 := Fld.keep p_792f8 k_812 (nin0)
        have ne_r0_xa : r0 ≠ xa := Nat.ne_of_lt (Nat.lt_of_lt_of_le f_793.lt sz_812_x)
        have ne_r1_xa : r1 ≠ xa := Nat.ne_of_lt (Nat.lt_of_lt_of_le f_794.lt sz_812_x)
        have ne_r2_xa : r2 ≠ xa := Nat.ne_of_lt (Nat.lt_of_lt_of_le f_795.lt sz_812_x)
        have ne_r3_xa : r3 ≠ xa := Nat.ne_of_lt (Nat.lt_of_lt_of_le f_796.lt sz_812_x)
        have ne_r4_xa : r4 ≠ xa := Nat.ne_of_lt (Nat.lt_of_lt_of_le f_797.lt sz_812_x)
        have ne_ka_xa : ka ≠ xa := Nat.ne_of_lt (Nat.lt_of_lt_of_le f_798.lt sz_812_x)
        have ne_kb_xa : kb ≠ xa := Nat.ne_of_lt (Nat.lt_of_lt_of_le f_799.lt sz_812_x)
        have ne_ca_xa : ca ≠ xa := Nat.ne_of_lt (Nat.lt_of_lt_of_le f_800.lt sz_812_x)
        have ne_st_xa : st ≠ xa := Nat.ne_of_lt (Nat.lt_of_lt_of_le f_801.lt sz_812_x)
        have ne_tv_xa : tv ≠ xa := Nat.ne_of_lt (Nat.lt_of_lt_of_le f_810.lt sz_812_x)
        have ne_bu_xa : bu ≠ xa := Nat.ne_of_lt (Nat.lt_of_lt_of_le p_792f0.lt sz_812_x)
        show OGo p e below _ n0 _ (T_812.setTop (mkF m 164 #[.val (.int p0), .val (.int p1), .val (.int p2), .val (.int p3), .val (.ref ka), .val (.ref kb), .val (.int (0 : Int32)), .val (.int (1 : Int32)), .val (.int (0 : Int32)), .val (.ref ca), .val (.ref st), .val (.ref bu), .val (.int (1 : Int32)), .unset, .unset, .unset] [(.ref xa)]))
        refine o_astore X_812 K at_164 166 rfl #[.val (.int p0), .val (.int p1), .val (.int p2), .val (.int p3), .val (.ref ka), .val (.ref kb), .val (.int (0 : Int32)), .val (.int (1 : Int32)), .val (.int (0 : Int32)), .val (.ref ca), .val (.ref st), .val (.ref bu), .val (.int (1 : Int32)), .val (.ref xa), .unset, .unset] rfl rfl ?_
        refine o_iload X_812 K at_166 168 rfl rfl ?_
        refine o_if_eq_t X_812 K at_168 178 (by decide) (by decide) (by decide) ?_
        refine o_iload X_812 K at_178 180 rfl rfl ?_
        refine o_if_eq_t X_812 K at_180 190 (by decide) (by decide) (by decide) ?_
        refine o_getstatic X_812 K (host := "") at_190 193 rfl (Or.inl (w_131 hw)) Via.refl e_812 f_827 ?_
        intro T_840 X_840 e_840
        refine o_astore X_840 K at_193 195 rfl #[.val (.int p0), .val (.int p1), .val (.int p2), .val (.int p3), .val (.ref ka), .val (.ref kb), .val (.int (0 : Int32)), .val (.int (1 : Int32)), .val (.int (0 : Int32)), .val (.ref ca), .val (.ref st), .val (.ref bu), .val (.int (1 : Int32)), .val (.ref xa), .val (.ref r4), .unset] rfl rfl ?_
        refine o_iload X_840 K at_195 197 rfl rfl ?_
        refine o_if_eq_f X_840 K at_197 200 rfl (by decide) ?_
        refine o_aload X_840 K at_200 202 rfl rfl rfl ?_
        refine o_aload X_840 K at_202 204 rfl rfl rfl ?_
        refine o_invokevirtual X_840 K at_204 207 rfl (w_108 hw) (w_109 hw) (w_111 hw) (w_110 hw) (w_72 hw) (w_112 hw) (by decide) p_812f0 [] [(.ref st)] rfl  (c_atype1 l Z a0 hw n0 xa st h_812 Z_812 p_812f2) e_840 rfl (lenOf pd___Ljava_lang_String_ rfl) (by decide) 1 (Nat.le_of_eq rfl) (by decide) (by decide) (by decide) N_812 ?_
        rintro _ T_841 h_841 locs_841 X_841 q_841 ⟨rfl, r_841⟩ N_841
        have e_841 := q_841.trans r_841
        show OGo p e below _ n0 _ (T_841.setTop (mkF m 207 #[.val (.int p0), .val (.int p1), .val (.int p2), .val (.int p3), .val (.ref ka), .val (.ref kb), .val (.int (0 : Int32)), .val (.int (1 : Int32)), .val (.int (0 : Int32)), .val (.ref ca), .val (.ref st), .val (.ref bu), .val (.int (1 : Int32)), .val (.ref xa), .val (.ref r4), .unset] [(.ref st), (.ref st)]))
        refine o_invokevirtual X_841 K at_207 210 rfl (w_132 hw) (w_133 hw) (w_135 hw) (w_134 hw) (w_13 hw) (w_136 hw) (by decide) f_821 [(.ref st)] [] rfl  (c_seq l Z a0 hw n0 st h_812 Z_812 ) e_841 rfl (lenOf pd__Ljava_lang_Object__Z rfl) (by decide) 0 (Nat.le_of_eq rfl) (by decide) (by decide) (by decide) N_841 ?_
        rintro _ T_842 h_842 locs_842 X_842 q_842 ⟨rfl, r_842⟩ N_842
        have e_842 := q_842.trans r_842
        show OGo p e below _ n0 _ (T_842.setTop (mkF m 210 #[.val (.int p0), .val (.int p1), .val (.int p2), .val (.int p3), .val (.ref ka), .val (.ref kb), .val (.int (0 : Int32)), .val (.int (1 : Int32)), .val (.int (0 : Int32)), .val (.ref ca), .val (.ref st), .val (.ref bu), .val (.int (1 : Int32)), .val (.ref xa), .val (.ref r4), .unset] [(.int (1 : Int32))]))
        refine o_istore X_842 K at_210 212 rfl #[.val (.int p0), .val (.int p1), .val (.int p2), .val (.int p3), .val (.ref ka), .val (.ref kb), .val (.int (0 : Int32)), .val (.int (1 : Int32)), .val (.int (0 : Int32)), .val (.ref ca), .val (.ref st), .val (.ref bu), .val (.int (1 : Int32)), .val (.ref xa), .val (.ref r4), .val (.int (1 : Int32))] rfl rfl ?_
        refine o_goto X_842 K at_212 230 (by decide) (by decide) ?_
        refine o_iload X_842 K at_230 232 rfl rfl ?_
        refine o_if_eq_f X_842 K at_232 235 rfl (by decide) ?_
        refine o_aload X_842 K at_235 237 rfl rfl rfl ?_
        refine o_invokevirtual X_842 K at_237 240 rfl (w_113 hw) (w_114 hw) (w_116 hw) (w_115 hw) (w_72 hw) (w_117 hw) (by decide) p_812f0 [] [] rfl  (c_akind l Z a0 hw n0 xa r4 h_812 Z_812 p_812f1) e_842 rfl (lenOf pd___Lcom_example_dhole_dhole_event_ActorKind_ rfl) (by decide) 0 (Nat.le_of_eq rfl) (by decide) (by decide) (by decide) N_842 ?_
        rintro _ T_843 h_843 locs_843 X_843 q_843 ⟨rfl, r_843⟩ N_843
        have e_843 := q_843.trans r_843
        show OGo p e below _ n0 _ (T_843.setTop (mkF m 240 #[.val (.int p0), .val (.int p1), .val (.int p2), .val (.int p3), .val (.ref ka), .val (.ref kb), .val (.int (0 : Int32)), .val (.int (1 : Int32)), .val (.int (0 : Int32)), .val (.ref ca), .val (.ref st), .val (.ref bu), .val (.int (1 : Int32)), .val (.ref xa), .val (.ref r4), .val (.int (1 : Int32))] [(.ref r4)]))
        refine o_aload X_843 K at_240 242 rfl rfl rfl ?_
        refine o_acmp X_843 K at_242 245 rfl rfl true (decide_eq_true rfl) (by decide) (by decide) ?_
        refine o_iload X_843 K at_245 247 rfl rfl ?_
        refine o_if_eq_f X_843 K at_247 250 rfl (by decide) ?_
        refine o_aload X_843 K at_250 252 rfl rfl rfl ?_
        refine o_invokevirtual X_843 K at_252 255 rfl (w_118 hw) (w_119 hw) (w_121 hw) (w_120 hw) (w_72 hw) (w_122 hw) (by decide) p_812f0 [] [] rfl  (c_amfa l Z a0 hw n0 xa h_812 Z_812 p_812f3) e_843 rfl (lenOf pd___Ljava_lang_Boolean_ rfl) (by decide) 0 (Nat.le_of_eq rfl) (by decide) (by decide) (by decide) N_843 ?_
        rintro _ T_844 h_844 locs_844 X_844 q_844 ⟨rfl, r_844⟩ N_844
        have e_844 := q_844.trans r_844
        show OGo p e below _ n0 _ (T_844.setTop (mkF m 255 #[.val (.int p0), .val (.int p1), .val (.int p2), .val (.int p3), .val (.ref ka), .val (.ref kb), .val (.int (0 : Int32)), .val (.int (1 : Int32)), .val (.int (0 : Int32)), .val (.ref ca), .val (.ref st), .val (.ref bu), .val (.int (1 : Int32)), .val (.ref xa), .val (.ref r4), .val (.int (1 : Int32))] [.null]))
        refine o_ifnonnull_f X_844 K at_255 258 rfl ?_
        refine o_iconst X_844 K (1 : Int32) at_258 259 rfl rfl ?_
        refine o_goto X_844 K at_259 263 (by decide) (by decide) ?_
        refine o_ireturnNW X_844 hS0 e_844 hk_812 K (by decide) at_263 (by decide) (by decide) N_844 ?_
        exact rfl
      · refine o_iconst X_414 K (1 : Int32) at_44 45 rfl rfl ?_
        refine o_goto X_414 K at_45 49 (by decide) (by decide) ?_
        refine o_istore X_414 K at_49 51 rfl #[.val (.int p0), .val (.int p1), .val (.int p2), .val (.int p3), .val (.ref ka), .val (.ref kb), .val (.int (0 : Int32)), .val (.int (1 : Int32)), .val (.int (1 : Int32)), .unset, .unset, .unset, .unset, .unset, .unset, .unset] rfl rfl ?_
        refine o_iconst X_414 K (1 : Int32) at_51 52 rfl rfl ?_
        refine o_newarray X_414 K (n := 1) at_52 54 rfl (w_10 hw) e_414 (by decide) 1 (by decide) (by decide) (by decide) (by decide) rfl ?_
        intro T_845 h_845 ca g_845 X_845 e_845 E_845 A_845
        dsimp only [newarray.typeOf, defaultValue] at A_845
        have hk_845 : _ ≤ h_845.size := Nat.le_trans hk0 (E_845.1)
        have Z_845 : n0 ≤ h_845.size := Nat.le_trans Z0 E_845.1
        have f_846 := Sta.ext E_845 S_COMPACT_STRINGS
        have f_847 := Sta.ext E_845 S_ROOT
        have f_848 := Sta.ext E_845 S_USER
        have f_849 := Sta.ext E_845 S_ROLE
        have f_850 := Sta.ext E_845 S_SERVICE
        have f_851 := Sta.ext E_845 S_UNKNOWN
        have f_852 := Exa.ext E_845 E_r0
        have f_853 := Exa.ext E_845 E_r1
        have f_854 := Exa.ext E_845 E_r2
        have f_855 := Exa.ext E_845 E_r3
        have f_856 := Exa.ext E_845 E_r4
        have f_857 := Exa.ext E_845 E_413
        have f_858 := Exa.ext E_845 E_414
        have g_ca : n0 ≤ ca := by rw [g_845]; exact Z0
        have ne_r0_ca : r0 ≠ ca := by rw [g_845]; exact Nat.ne_of_lt E_r0.lt
        have ne_r1_ca : r1 ≠ ca := by rw [g_845]; exact Nat.ne_of_lt E_r1.lt
        have ne_r2_ca : r2 ≠ ca := by rw [g_845]; exact Nat.ne_of_lt E_r2.lt
        have ne_r3_ca : r3 ≠ ca := by rw [g_845]; exact Nat.ne_of_lt E_r3.lt
        have ne_r4_ca : r4 ≠ ca := by rw [g_845]; exact Nat.ne_of_lt E_r4.lt
        have ne_ka_ca : ka ≠ ca := by rw [g_845]; exact Nat.ne_of_lt E_413.lt
        have ne_kb_ca : kb ≠ ca := by rw [g_845]; exact Nat.ne_of_lt E_414.lt
        refine o_dup X_845 K at_54 55 rfl rfl ?_
        refine o_iconst X_845 K (0 : Int32) at_55 56 rfl rfl ?_
        refine o_iloadN X_845 K at_56 57 rfl rfl ?_
        refine o_sipush X_845 K (255 : Int32) at_57 60 rfl rfl ?_
        refine o_iand X_845 K at_60 61 rfl ?_
        refine o_i2c X_845 K at_61 62 rfl ?_
        refine o_castore X_845 K (i := 0) (x' := ((p2 &&& (255 : Int32)).toUInt32.toUInt16.toUInt32.toInt32)) at_62 63 rfl e_845 A_845 (by decide) (by decide) (o_nc _) N_414 g_ca ?_
        intro T_859 h_859 locs_859 X_859 e_859 W_859 A_859 N_859
        have hk_859 : _ ≤ h_859.size := Nat.le_trans hk_845 (Nat.le_of_eq (Wr.size W_859).symm)
        have Z_859 : n0 ≤ h_859.size := by rw [Wr.size W_859]; exact Z_845
        have f_860 := Sta.wr W_859 f_846
        have f_861 := Sta.wr W_859 f_847
        have f_862 := Sta.wr W_859 f_848
        have f_863 := Sta.wr W_859 f_849
        have f_864 := Sta.wr W_859 f_850
        have f_865 := Sta.wr W_859 f_851
        have f_866 := Exa.wr W_859 f_852
        have f_867 := Exa.wr W_859 f_853
        have f_868 := Exa.wr W_859 f_854
        have f_869 := Exa.wr W_859 f_855
        have f_870 := Exa.wr W_859 f_856
        have f_871 := Exa.wr W_859 f_857
        have f_872 := Exa.wr W_859 f_858
        refine o_astore X_859 K at_63 65 rfl #[.val (.int p0), .val (.int p1), .val (.int p2), .val (.int p3), .val (.ref ka), .val (.ref kb), .val (.int (0 : Int32)), .val (.int (1 : Int32)), .val (.int (1 : Int32)), .val (.ref ca), .unset, .unset, .unset, .unset, .unset, .unset] rfl rfl ?_
        refine o_new X_859 K at_65 68 rfl (w_11 hw) (w_12 hw) (w_13 hw) e_859 (by decide) (by decide) ?_
        intro T_873 h_873 st g_873 X_873 e_873 E_873 B_873 D_873
        have hk_873 : _ ≤ h_873.size := Nat.le_trans hk_859 (E_873.1)
        have Z_873 : n0 ≤ h_873.size := Nat.le_trans Z_859 E_873.1
        have f_874 := Sta.ext E_873 f_860
        have f_875 := Sta.ext E_873 f_861
        have f_876 := Sta.ext E_873 f_862
        have f_877 := Sta.ext E_873 f_863
        have f_878 := Sta.ext E_873 f_864
        have f_879 := Sta.ext E_873 f_865
        have f_880 := Exa.ext E_873 f_866
        have f_881 := Exa.ext E_873 f_867
        have f_882 := Exa.ext E_873 f_868
        have f_883 := Exa.ext E_873 f_869
        have f_884 := Exa.ext E_873 f_870
        have f_885 := Exa.ext E_873 f_871
        have f_886 := Exa.ext E_873 f_872
        have f_887 := A_859.ext E_873
        have g_st : n0 ≤ st := by rw [g_873]; exact Z_859
        have ne_r0_st : r0 ≠ st := by rw [g_873]; exact Nat.ne_of_lt f_866.lt
        have ne_r1_st : r1 ≠ st := by rw [g_873]; exact Nat.ne_of_lt f_867.lt
        have ne_r2_st : r2 ≠ st := by rw [g_873]; exact Nat.ne_of_lt f_868.lt
        have ne_r3_st : r3 ≠ st := by rw [g_873]; exact Nat.ne_of_lt f_869.lt
        have ne_r4_st : r4 ≠ st := by rw [g_873]; exact Nat.ne_of_lt f_870.lt
        have ne_ka_st : ka ≠ st := by rw [g_873]; exact Nat.ne_of_lt f_871.lt
        have ne_kb_st : kb ≠ st := by rw [g_873]; exact Nat.ne_of_lt f_872.lt
        have ne_ca_st : ca ≠ st := by rw [g_873]; exact Nat.ne_of_lt A_859.lt
        have F_coder__873 : Fld Z h_873 st "java/lang/String" "coder" "B" (.int (0 : Int32)) := D_873 (Or.inr (w_37 hw)) (ty := .byte) (by decide)
        have F_value__873 : Fld Z h_873 st "java/lang/String" "value" "[B" .null := D_873 (Or.inr (w_39 hw)) (ty := (.array .byte)) (by decide)
        refine o_dup X_873 K at_68 69 rfl rfl ?_
        refine o_aload X_873 K at_69 71 rfl rfl rfl ?_
        refine o_strinit X_873 K (cs := [((p2 &&& (255 : Int32)).toUInt32.toUInt16.toUInt32.toInt32)]) at_71 74 rfl (w_14 hw) (w_15 hw) (w_16 hw) (hws_ hw) (w_12 hw) e_873 Z_873 g_st B_873 F_value__873 F_coder__873 f_887 f_874 hcs rfl (fun j hj => by rcases (by omega : j = 0) with rfl <;> rfl) (by decide) (by decide) (o_all1 (o_and255 _)) rfl N_859 (by decide) 1 (Nat.le_of_eq rfl) (by decide) (by decide) (by decide) ?_
        intro T_888 h_888 locs_888 tv X_888 e_888 k_888 E_888 Fc_888 g_888 s_888 ne_tv_st Fv_888 A_888 N_888
        have hk_888 : _ ≤ h_888.size := Nat.le_trans hk_873 (k_888.1)
        have Z_888 : n0 ≤ h_888.size := Nat.le_trans Z_873 k_888.1
        have f_889 := Exa.keep f_880 k_888
        have f_890 := Exa.keep f_881 k_888
        have f_891 := Exa.keep f_882 k_888
        have f_892 := Exa.keep f_883 k_888
        have f_893 := Exa.keep f_884 k_888
        have f_894 := Exa.keep f_885 k_888
        have f_895 := Exa.keep f_886 k_888
        have f_896 := f_887.keep k_888 (ninS ne_ca_st (nin0))
        have f_897 := Exa.keep B_873 k_888
        have f_898 := o_sta_keep f_874 k_888 (fun y_ hy_ cl_ hc_ => by rw [List.mem_singleton] at hy_; subst hy_; obtain ⟨c1_, -, d1_, -, -, d4_, -⟩ := B_873; cases hc_.symm.trans d1_; exact d4_)
        have f_899 := o_sta_keep f_875 k_888 (fun y_ hy_ cl_ hc_ => by rw [List.mem_singleton] at hy_; subst hy_; obtain ⟨c1_, -, d1_, -, -, d4_, -⟩ := B_873; cases hc_.symm.trans d1_; exact d4_)
        have f_900 := o_sta_keep f_876 k_888 (fun y_ hy_ cl_ hc_ => by rw [List.mem_singleton] at hy_; subst hy_; obtain ⟨c1_, -, d1_, -, -, d4_, -⟩ := B_873; cases hc_.symm.trans d1_; exact d4_)
        have f_901 := o_sta_keep f_877 k_888 (fun y_ hy_ cl_ hc_ => by rw [List.mem_singleton] at hy_; subst hy_; obtain ⟨c1_, -, d1_, -, -, d4_, -⟩ := B_873; cases hc_.symm.trans d1_; exact d4_)
        have f_902 := o_sta_keep f_878 k_888 (fun y_ hy_ cl_ hc_ => by rw [List.mem_singleton] at hy_; subst hy_; obtain ⟨c1_, -, d1_, -, -, d4_, -⟩ := B_873; cases hc_.symm.trans d1_; exact d4_)
        have f_903 := o_sta_keep f_879 k_888 (fun y_ hy_ cl_ hc_ => by rw [List.mem_singleton] at hy_; subst hy_; obtain ⟨c1_, -, d1_, -, -, d4_, -⟩ := B_873; cases hc_.symm.trans d1_; exact d4_)
        have ne_r0_tv : r0 ≠ tv := Nat.ne_of_lt (Nat.lt_of_lt_of_le f_880.lt s_888)
        have ne_r1_tv : r1 ≠ tv := Nat.ne_of_lt (Nat.lt_of_lt_of_le f_881.lt s_888)
        have ne_r2_tv : r2 ≠ tv := Nat.ne_of_lt (Nat.lt_of_lt_of_le f_882.lt s_888)
        have ne_r3_tv : r3 ≠ tv := Nat.ne_of_lt (Nat.lt_of_lt_of_le f_883.lt s_888)
        have ne_r4_tv : r4 ≠ tv := Nat.ne_of_lt (Nat.lt_of_lt_of_le f_884.lt s_888)
        have ne_ka_tv : ka ≠ tv := Nat.ne_of_lt (Nat.lt_of_lt_of_le f_885.lt s_888)
        have ne_kb_tv : kb ≠ tv := Nat.ne_of_lt (Nat.lt_of_lt_of_le f_886.lt s_888)
        have ne_ca_tv : ca ≠ tv := Nat.ne_of_lt (Nat.lt_of_lt_of_le f_887.lt s_888)
        show OGo p e below _ n0 _ (T_888.setTop (mkF m 74 #[.val (.int p0), .val (.int p1), .val (.int p2), .val (.int p3), .val (.ref ka), .val (.ref kb), .val (.int (0 : Int32)), .val (.int (1 : Int32)), .val (.int (1 : Int32)), .val (.ref ca), .unset, .unset, .unset, .unset, .unset, .unset] [(.ref st)]))
        refine o_astore X_888 K at_74 76 rfl #[.val (.int p0), .val (.int p1), .val (.int p2), .val (.int p3), .val (.ref ka), .val (.ref kb), .val (.int (0 : Int32)), .val (.int (1 : Int32)), .val (.int (1 : Int32)), .val (.ref ca), .val (.ref st), .unset, .unset, .unset, .unset, .unset] rfl rfl ?_
        refine o_new X_888 K at_76 79 rfl (w_40 hw) (w_41 hw) (w_42 hw) e_888 (by decide) (by decide) ?_
        intro T_904 h_904 bu g_904 X_904 e_904 E_904 B_904 D_904
        have hk_904 : _ ≤ h_904.size := Nat.le_trans hk_888 (E_904.1)
        have Z_904 : n0 ≤ h_904.size := Nat.le_trans Z_888 E_904.1
        have f_905 := Exa.ext E_904 f_889
        have f_906 := Exa.ext E_904 f_890
        have f_907 := Exa.ext E_904 f_891
        have f_908 := Exa.ext E_904 f_892
        have f_909 := Exa.ext E_904 f_893
        have f_910 := Exa.ext E_904 f_894
        have f_911 := Exa.ext E_904 f_895
        have f_912 := f_896.ext E_904
        have f_913 := Exa.ext E_904 E_888
        have f_914 := Sta.ext E_904 f_898
        have f_915 := Sta.ext E_904 f_899
        have f_916 := Sta.ext E_904 f_900
        have f_917 := Sta.ext E_904 f_901
        have f_918 := Sta.ext E_904 f_902
        have f_919 := Sta.ext E_904 f_903
        have f_920 := Fld.ext E_904 Fc_888
        have f_921 := Fld.ext E_904 Fv_888
        have f_922 := A_888.ext E_904
        have g_bu : n0 ≤ bu := by rw [g_904]; exact Z_888
        have ne_r0_bu : r0 ≠ bu := by rw [g_904]; exact Nat.ne_of_lt f_889.lt
        have ne_r1_bu : r1 ≠ bu := by rw [g_904]; exact Nat.ne_of_lt f_890.lt
        have ne_r2_bu : r2 ≠ bu := by rw [g_904]; exact Nat.ne_of_lt f_891.lt
        have ne_r3_bu : r3 ≠ bu := by rw [g_904]; exact Nat.ne_of_lt f_892.lt
        have ne_r4_bu : r4 ≠ bu := by rw [g_904]; exact Nat.ne_of_lt f_893.lt
        have ne_ka_bu : ka ≠ bu := by rw [g_904]; exact Nat.ne_of_lt f_894.lt
        have ne_kb_bu : kb ≠ bu := by rw [g_904]; exact Nat.ne_of_lt f_895.lt
        have ne_ca_bu : ca ≠ bu := by rw [g_904]; exact Nat.ne_of_lt f_896.lt
        have ne_st_bu : st ≠ bu := by rw [g_904]; exact Nat.ne_of_lt E_888.lt
        have ne_tv_bu : tv ≠ bu := by rw [g_904]; exact Nat.ne_of_lt A_888.lt
        have F_kind__904 : Fld Z h_904 bu "com/example/dhole/dhole/event/Actor$Builder" "kind" "Lcom/example/dhole/dhole/event/ActorKind;" .null := D_904 (Or.inl (w_50 hw)) (ty := (.object "com/example/dhole/dhole/event/ActorKind")) (by decide)
        have F_type__904 : Fld Z h_904 bu "com/example/dhole/dhole/event/Actor$Builder" "type" "Ljava/lang/String;" .null := D_904 (Or.inl (w_81 hw)) (ty := (.object "java/lang/String")) (by decide)
        have F_id__904 : Fld Z h_904 bu "com/example/dhole/dhole/event/Actor$Builder" "id" "Ljava/lang/String;" .null := D_904 (Or.inl (w_85 hw)) (ty := (.object "java/lang/String")) (by decide)
        have F_account__904 : Fld Z h_904 bu "com/example/dhole/dhole/event/Actor$Builder" "account" "Ljava/lang/String;" .null := D_904 (Or.inl (w_89 hw)) (ty := (.object "java/lang/String")) (by decide)
        have F_name__904 : Fld Z h_904 bu "com/example/dhole/dhole/event/Actor$Builder" "name" "Ljava/lang/String;" .null := D_904 (Or.inl (w_93 hw)) (ty := (.object "java/lang/String")) (by decide)
        have F_accessKey__904 : Fld Z h_904 bu "com/example/dhole/dhole/event/Actor$Builder" "accessKey" "Ljava/lang/String;" .null := D_904 (Or.inl (w_97 hw)) (ty := (.object "java/lang/String")) (by decide)
        have F_mfa__904 : Fld Z h_904 bu "com/example/dhole/dhole/event/Actor$Builder" "mfa" "Ljava/lang/Boolean;" .null := D_904 (Or.inl (w_101 hw)) (ty := (.object "java/lang/Boolean")) (by decide)
        have F_sessionCreated__904 : Fld Z h_904 bu "com/example/dhole/dhole/event/Actor$Builder" "sessionCreated" "Lcom/example/dhole/dhole/event/EventTime;" .null := D_904 (Or.inl (w_105 hw)) (ty := (.object "com/example/dhole/dhole/event/EventTime")) (by decide)
        refine o_dup X_904 K at_79 80 rfl rfl ?_
        refine o_invokespecial X_904 K at_80 83 rfl rfl (w_43 hw) (w_44 hw) (w_42 hw) (w_45 hw) (by decide) [] [(.ref bu)] rfl  (c_binit l Z a0 hw n0 bu r4 h_904 Z_904 f_919 B_904 F_kind__904 F_type__904 F_id__904 F_account__904 F_name__904 F_accessKey__904 F_mfa__904 F_sessionCreated__904 g_bu) e_904 rfl (lenOf pd___V rfl) (by decide) 1 (Nat.le_of_eq rfl) (by decide) (by decide) (by decide) N_888 ?_
        rintro _ T_923 h_923 locs_923 X_923 e_923 ⟨rfl, k_923, p_923f0, p_923f1, p_923f2, p_923f3, p_923f4, p_923f5, p_923f6, p_923f7, p_923f8⟩ N_923
        have hk_923 : _ ≤ h_923.size := Nat.le_trans hk_904 (k_923.1)
        have Z_923 : n0 ≤ h_923.size := Nat.le_trans Z_904 k_923.1
        have f_924 := Exa.keep f_905 k_923
        have f_925 := Exa.keep f_906 k_923
        have f_926 := Exa.keep f_907 k_923
        have f_927 := Exa.keep f_908 k_923
        have f_928 := Exa.keep f_909 k_923
        have f_929 := Exa.keep f_910 k_923
        have f_930 := Exa.keep f_911 k_923
        have f_931 := f_912.keep k_923 (ninS ne_ca_bu (nin0))
        have f_932 := Exa.keep f_913 k_923
        have f_933 := o_sta_keep f_914 k_923 (o_plainS B_904 (o_plain0))
        have f_934 := o_sta_keep f_915 k_923 (o_plainS B_904 (o_plain0))
        have f_935 := o_sta_keep f_916 k_923 (o_plainS B_904 (o_plain0))
        have f_936 := o_sta_keep f_917 k_923 (o_plainS B_904 (o_plain0))
        have f_937 := o_sta_keep f_918 k_923 (o_plainS B_904 (o_plain0))
        have f_938 := o_sta_keep f_919 k_923 (o_plainS B_904 (o_plain0))
        have f_939 := Fld.keep f_920 k_923 (ninS ne_st_bu (nin0))
        have f_940 := Fld.keep f_921 k_923 (ninS ne_st_bu (nin0))
        have f_941 := f_922.keep k_923 (ninS ne_tv_bu (nin0))
        have f_942 := Exa.keep B_904 k_923
        show OGo p e below _ n0 _ (T_923.setTop (mkF m 83 #[.val (.int p0), .val (.int p1), .val (.int p2), .val (.int p3), .val (.ref ka), .val (.ref kb), .val (.int (0 : Int32)), .val (.int (1 : Int32)), .val (.int (1 : Int32)), .val (.ref ca), .val (.ref st), .unset, .unset, .unset, .unset, .unset] [(.ref bu)]))
        refine o_astore X_923 K at_83 85 rfl #[.val (.int p0), .val (.int p1), .val (.int p2), .val (.int p3), .val (.ref ka), .val (.ref kb), .val (.int (0 : Int32)), .val (.int (1 : Int32)), .val (.int (1 : Int32)), .val (.ref ca), .val (.ref st), .val (.ref bu), .unset, .unset, .unset, .unset] rfl rfl ?_
        refine o_iconst X_923 K (1 : Int32) at_85 86 rfl rfl ?_
        refine o_istore X_923 K at_86 88 rfl #[.val (.int p0), .val (.int p1), .val (.int p2), .val (.int p3), .val (.ref ka), .val (.ref kb), .val (.int (0 : Int32)), .val (.int (1 : Int32)), .val (.int (1 : Int32)), .val (.ref ca), .val (.ref st), .val (.ref bu), .val (.int (1 : Int32)), .unset, .unset, .unset] rfl rfl ?_
        refine o_iload X_923 K at_88 90 rfl rfl ?_
        refine o_if_eq_t X_923 K at_90 117 (by decide) (by decide) (by decide) ?_
        refine o_iload X_923 K at_117 119 rfl rfl ?_
        refine o_if_eq_f X_923 K at_119 122 rfl (by decide) ?_
        refine o_aload X_923 K at_122 124 rfl rfl rfl ?_
        refine o_aload X_923 K at_124 126 rfl rfl rfl ?_
        refine o_invokevirtual X_923 K at_126 129 rfl (w_125 hw) (w_126 hw) (w_128 hw) (w_127 hw) (w_42 hw) (w_129 hw) (by decide) p_923f0 [(.ref st)] [] rfl  (c_btype l Z a0 hw n0 bu r4 st h_923 Z_923 p_923f0 p_923f1 p_923f2 p_923f3 p_923f4 p_923f5 p_923f6 p_923f7 p_923f8 g_bu) e_923 rfl (lenOf pd__Ljava_lang_String__Lcom_example_dhole_dhole_event_Actor_Builder_ rfl) (by decide) 0 (Nat.le_of_eq rfl) (by decide) (by decide) (by decide) N_923 ?_
        rintro _ T_943 h_943 locs_943 X_943 e_943 ⟨rfl, k_943, p_943f0, p_943f1, p_943f2, p_943f3, p_943f4, p_943f5, p_943f6, p_943f7, p_943f8⟩ N_943
        have hk_943 : _ ≤ h_943.size := Nat.le_trans hk_923 (k_943.1)
        have Z_943 : n0 ≤ h_943.size := Nat.le_trans Z_923 k_943.1
        have f_944 := Exa.keep f_924 k_943
        have f_945 := Exa.keep f_925 k_943
        have f_946 := Exa.keep f_926 k_943
        have f_947 := Exa.keep f_927 k_943
        have f_948 := Exa.keep f_928 k_943
        have f_949 := Exa.keep f_929 k_943
        have f_950 := Exa.keep f_930 k_943
        have f_951 := f_931.keep k_943 (ninS ne_ca_bu (nin0))
        have f_952 := Exa.keep f_932 k_943
        have f_953 := o_sta_keep f_933 k_943 (o_plainS p_923f0 (o_plain0))
        have f_954 := o_sta_keep f_934 k_943 (o_plainS p_923f0 (o_plain0))
        have f_955 := o_sta_keep f_935 k_943 (o_plainS p_923f0 (o_plain0))
        have f_956 := o_sta_keep f_936 k_943 (o_plainS p_923f0 (o_plain0))
        have f_957 := o_sta_keep f_937 k_943 (o_plainS p_923f0 (o_plain0))
        have f_958 := o_sta_keep f_938 k_943 (o_plainS p_923f0 (o_plain0))
        have f_959 := Fld.keep f_939 k_943 (ninS ne_st_bu (nin0))
        have f_960 := Fld.keep f_940 k_943 (ninS ne_st_bu (nin0))
        have f_961 := f_941.keep k_943 (ninS ne_tv_bu (nin0))
        have f_962 := Exa.keep p_923f0 k_943
        show OGo p e below _ n0 _ (T_943.setTop (mkF m 129 #[.val (.int p0), .val (.int p1), .val (.int p2), .val (.int p3), .val (.ref ka), .val (.ref kb), .val (.int (0 : Int32)), .val (.int (1 : Int32)), .val (.int (1 : Int32)), .val (.ref ca), .val (.ref st), .val (.ref bu), .val (.int (1 : Int32)), .unset, .unset, .unset] [(.ref bu)]))
        refine o_pop X_943 K at_129 130 rfl rfl ?_
        refine o_iload X_943 K at_130 132 rfl rfl ?_
        refine o_if_eq_f X_943 K at_132 135 rfl (by decide) ?_
        refine o_iload X_943 K at_135 137 rfl rfl ?_
        refine o_if_eq_f X_943 K at_137 140 rfl (by decide) ?_
        refine o_aload X_943 K at_140 142 rfl rfl rfl ?_
        refine o_aload X_943 K at_142 144 rfl rfl rfl ?_
        refine o_invokevirtualW X_943 K hS0 hk_943 at_144 147 rfl (w_51 hw) (w_52 hw) (w_54 hw) (w_53 hw) (w_42 hw) (w_55 hw) (by decide) p_943f0 [(.ref kb)] [] rfl  (c_kind1 l Z a0 hw n0 bu r4 kb st h_943 Z_943 p_943f0 p_943f1 p_943f2 p_943f3 p_943f4 p_943f5 p_943f6 p_943f7 p_943f8 g_bu f_950) e_943 rfl (lenOf pd__Lcom_example_dhole_dhole_event_ActorKind__Lcom_example_dhole_dhole_event_Actor_Builder_ rfl) (by decide) 0 (Nat.le_of_eq rfl) (by decide) (by decide) (by decide) N_943 ?_
        rintro _ T_963 h_963 locs_963 k1_963 X_963 KW_963 e_963 hS_963 hq_963 ⟨rfl, k_963, p_963f0, p_963f1, p_963f2, p_963f3, p_963f4, p_963f5, p_963f6, p_963f7, p_963f8⟩ N_963
        have Z_963 : n0 ≤ h_963.size := Nat.le_trans Z_943 k_963.1
        have f_964 := Exa.keep f_944 k_963
        have f_965 := Exa.keep f_945 k_963
        have f_966 := Exa.keep f_946 k_963
        have f_967 := Exa.keep f_947 k_963
        have f_968 := Exa.keep f_948 k_963
        have f_969 := Exa.keep f_949 k_963
        have f_970 := Exa.keep f_950 k_963
        have f_971 := f_951.keep k_963 (ninS ne_ca_bu (nin0))
        have f_972 := Exa.keep f_952 k_963
        have f_973 := o_sta_keep f_953 k_963 (o_plainS p_943f0 (o_plain0))
        have f_974 := o_sta_keep f_954 k_963 (o_plainS p_943f0 (o_plain0))
        have f_975 := o_sta_keep f_955 k_963 (o_plainS p_943f0 (o_plain0))
        have f_976 := o_sta_keep f_956 k_963 (o_plainS p_943f0 (o_plain0))
        have f_977 := o_sta_keep f_957 k_963 (o_plainS p_943f0 (o_plain0))
        have f_978 := o_sta_keep f_958 k_963 (o_plainS p_943f0 (o_plain0))
        have f_979 := Fld.keep f_959 k_963 (ninS ne_st_bu (nin0))
        have f_980 := Fld.keep f_960 k_963 (ninS ne_st_bu (nin0))
        have f_981 := f_961.keep k_963 (ninS ne_tv_bu (nin0))
        have f_982 := Exa.keep p_943f0 k_963
        show OGo p e below _ n0 _ (T_963.setTop (mkF m 147 #[.val (.int p0), .val (.int p1), .val (.int p2), .val (.int p3), .val (.ref ka), .val (.ref kb), .val (.int (0 : Int32)), .val (.int (1 : Int32)), .val (.int (1 : Int32)), .val (.ref ca), .val (.ref st), .val (.ref bu), .val (.int (1 : Int32)), .unset, .unset, .unset] [(.ref bu)]))
        refine o_aload X_963 KW_963 at_147 149 rfl rfl rfl ?_
        refine o_acmp X_963 KW_963 at_149 152 rfl rfl true (decide_eq_true rfl) (by decide) (by decide) ?_
        refine o_iconst X_963 KW_963 (1 : Int32) at_152 153 rfl rfl ?_
        refine o_goto X_963 KW_963 at_153 157 (by decide) (by decide) ?_
        refine o_istore X_963 KW_963 at_157 159 rfl #[.val (.int p0), .val (.int p1), .val (.int p2), .val (.int p3), .val (.ref ka), .val (.ref kb), .val (.int (0 : Int32)), .val (.int (1 : Int32)), .val (.int (1 : Int32)), .val (.ref ca), .val (.ref st), .val (.ref bu), .val (.int (1 : Int32)), .unset, .unset, .unset] rfl rfl ?_
        refine o_aload X_963 KW_963 at_159 161 rfl rfl rfl ?_
        refine o_invokevirtual X_963 KW_963 at_161 164 rfl (w_65 hw) (w_66 hw) (w_68 hw) (w_67 hw) (w_42 hw) (w_69 hw) (by decide) p_963f0 [] [] rfl  (c_build1 l Z a0 hw n0 bu kb st h_963 Z_963 p_963f0 p_963f1 p_963f2 p_963f3 p_963f4 p_963f5 p_963f6 p_963f7 p_963f8) e_963 rfl (lenOf pd___Lcom_example_dhole_dhole_event_Actor_ rfl) (by decide) 0 (Nat.le_of_eq rfl) (by decide) (by decide) (by decide) N_963 ?_
        rintro _ T_983 h_983 locs_983 X_983 e_983 ⟨xa, rfl, k_983, gg_983_x, sz_983_x, p_983f0, p_983f1, p_983f2, p_983f3⟩ N_983
        have hk_983 : _ ≤ h_983.size := Nat.le_trans hq_963 (k_983.1)
        have Z_983 : n0 ≤ h_983.size := Nat.le_trans Z_963 k_983.1
        have f_984 := Exa.keep f_964 k_983
        have f_985 := Exa.keep f_965 k_983
        have f_986 := Exa.keep f_966 k_983
        have f_987 := Exa.keep f_967 k_983
        have f_988 := Exa.keep f_968 k_983
        have f_989 := Exa.keep f_969 k_983
        have f_990 := Exa.keep f_970 k_983
        have f_991 := f_971.keep k_983 (nin0)
        have f_992 := Exa.keep f_972 k_983
        have f_993 := o_sta_keep f_973 k_983 (o_plain0)
        have f_994 := o_sta_keep f_974 k_983 (o_plain0)
        have f_995 := o_sta_keep f_975 k_983 (o_plain0)
        have f_996 := o_sta_keep f_976 k_983 (o_plain0)
        have f_997 := o_sta_keep f_977 k_983 (o_plain0)
        have f_998 := o_sta_keep f_978 k_983 (o_plain0)
        have f_999 := Fld.keep f_979 k_983 (nin0)
        have f_1000 := Fld.keep f_980 k_983 (nin0)
        have f_1001 := f_981.keep k_983 (nin0)
        have f_1002 := Exa.keep p_963f0 k_983
        have f_1003 := Fld.keep p_963f1 k_983 (nin0)
        have f_1004 := Fld.keep p_963f2 k_983 (nin0)
        have f_1005 := Fld.keep p_963f3 k_983 (nin0)
        have f_1006 := Fld.keep p_963f4 k_983 (nin0)
        have f_1007 := Fld.keep p_963f5 k_983 (nin0)
        have f_1008 := Fld.keep p_963f6 k_983 (nin0)
        have f_1009 := Fld.keep p_963f7 k_983 (nin0)
        have f_1010 := Fld.keep p_963f8 k_983 (nin0)
        have ne_r0_xa : r0 ≠ xa := Nat.ne_of_lt (Nat.lt_of_lt_of_le f_964.lt sz_983_x)
        have ne_r1_xa : r1 ≠ xa := Nat.ne_of_lt (Nat.lt_of_lt_of_le f_965.lt sz_983_x)
        have ne_r2_xa : r2 ≠ xa := Nat.ne_of_lt (Nat.lt_of_lt_of_le f_966.lt sz_983_x)
        have ne_r3_xa : r3 ≠ xa := Nat.ne_of_lt (Nat.lt_of_lt_of_le f_967.lt sz_983_x)
        have ne_r4_xa : r4 ≠ xa := Nat.ne_of_lt (Nat.lt_of_lt_of_le f_968.lt sz_983_x)
        have ne_ka_xa : ka ≠ xa := Nat.ne_of_lt (Nat.lt_of_lt_of_le f_969.lt sz_983_x)
        have ne_kb_xa : kb ≠ xa := Nat.ne_of_lt (Nat.lt_of_lt_of_le f_970.lt sz_983_x)
        have ne_ca_xa : ca ≠ xa := Nat.ne_of_lt (Nat.lt_of_lt_of_le f_971.lt sz_983_x)
        have ne_st_xa : st ≠ xa := Nat.ne_of_lt (Nat.lt_of_lt_of_le f_972.lt sz_983_x)
        have ne_tv_xa : tv ≠ xa := Nat.ne_of_lt (Nat.lt_of_lt_of_le f_981.lt sz_983_x)
        have ne_bu_xa : bu ≠ xa := Nat.ne_of_lt (Nat.lt_of_lt_of_le p_963f0.lt sz_983_x)
        show OGo p e below _ n0 _ (T_983.setTop (mkF m 164 #[.val (.int p0), .val (.int p1), .val (.int p2), .val (.int p3), .val (.ref ka), .val (.ref kb), .val (.int (0 : Int32)), .val (.int (1 : Int32)), .val (.int (1 : Int32)), .val (.ref ca), .val (.ref st), .val (.ref bu), .val (.int (1 : Int32)), .unset, .unset, .unset] [(.ref xa)]))
        refine o_astore X_983 KW_963 at_164 166 rfl #[.val (.int p0), .val (.int p1), .val (.int p2), .val (.int p3), .val (.ref ka), .val (.ref kb), .val (.int (0 : Int32)), .val (.int (1 : Int32)), .val (.int (1 : Int32)), .val (.ref ca), .val (.ref st), .val (.ref bu), .val (.int (1 : Int32)), .val (.ref xa), .unset, .unset] rfl rfl ?_
        refine o_iload X_983 KW_963 at_166 168 rfl rfl ?_
        refine o_if_eq_f X_983 KW_963 at_168 171 rfl (by decide) ?_
        refine o_aload X_983 KW_963 at_171 173 rfl rfl rfl ?_
        refine o_astore X_983 KW_963 at_173 175 rfl #[.val (.int p0), .val (.int p1), .val (.int p2), .val (.int p3), .val (.ref ka), .val (.ref kb), .val (.int (0 : Int32)), .val (.int (1 : Int32)), .val (.int (1 : Int32)), .val (.ref ca), .val (.ref st), .val (.ref bu), .val (.int (1 : Int32)), .val (.ref xa), .val (.ref kb), .unset] rfl rfl ?_
        refine o_goto X_983 KW_963 at_175 195 (by decide) (by decide) ?_
        refine o_iload X_983 KW_963 at_195 197 rfl rfl ?_
        refine o_if_eq_f X_983 KW_963 at_197 200 rfl (by decide) ?_
        refine o_aload X_983 KW_963 at_200 202 rfl rfl rfl ?_
        refine o_aload X_983 KW_963 at_202 204 rfl rfl rfl ?_
        refine o_invokevirtual X_983 KW_963 at_204 207 rfl (w_108 hw) (w_109 hw) (w_111 hw) (w_110 hw) (w_72 hw) (w_112 hw) (by decide) p_983f0 [] [(.ref st)] rfl  (c_atype1 l Z a0 hw n0 xa st h_983 Z_983 p_983f2) e_983 rfl (lenOf pd___Ljava_lang_String_ rfl) (by decide) 1 (Nat.le_of_eq rfl) (by decide) (by decide) (by decide) N_983 ?_
        rintro _ T_1011 h_1011 locs_1011 X_1011 q_1011 ⟨rfl, r_1011⟩ N_1011
        have e_1011 := q_1011.trans r_1011
        show OGo p e below _ n0 _ (T_1011.setTop (mkF m 207 #[.val (.int p0), .val (.int p1), .val (.int p2), .val (.int p3), .val (.ref ka), .val (.ref kb), .val (.int (0 : Int32)), .val (.int (1 : Int32)), .val (.int (1 : Int32)), .val (.ref ca), .val (.ref st), .val (.ref bu), .val (.int (1 : Int32)), .val (.ref xa), .val (.ref kb), .unset] [(.ref st), (.ref st)]))
        refine o_invokevirtual X_1011 KW_963 at_207 210 rfl (w_132 hw) (w_133 hw) (w_135 hw) (w_134 hw) (w_13 hw) (w_136 hw) (by decide) f_992 [(.ref st)] [] rfl  (c_seq l Z a0 hw n0 st h_983 Z_983 ) e_1011 rfl (lenOf pd__Ljava_lang_Object__Z rfl) (by decide) 0 (Nat.le_of_eq rfl) (by decide) (by decide) (by decide) N_1011 ?_
        rintro _ T_1012 h_1012 locs_1012 X_1012 q_1012 ⟨rfl, r_1012⟩ N_1012
        have e_1012 := q_1012.trans r_1012
        show OGo p e below _ n0 _ (T_1012.setTop (mkF m 210 #[.val (.int p0), .val (.int p1), .val (.int p2), .val (.int p3), .val (.ref ka), .val (.ref kb), .val (.int (0 : Int32)), .val (.int (1 : Int32)), .val (.int (1 : Int32)), .val (.ref ca), .val (.ref st), .val (.ref bu), .val (.int (1 : Int32)), .val (.ref xa), .val (.ref kb), .unset] [(.int (1 : Int32))]))
        refine o_istore X_1012 KW_963 at_210 212 rfl #[.val (.int p0), .val (.int p1), .val (.int p2), .val (.int p3), .val (.ref ka), .val (.ref kb), .val (.int (0 : Int32)), .val (.int (1 : Int32)), .val (.int (1 : Int32)), .val (.ref ca), .val (.ref st), .val (.ref bu), .val (.int (1 : Int32)), .val (.ref xa), .val (.ref kb), .val (.int (1 : Int32))] rfl rfl ?_
        refine o_goto X_1012 KW_963 at_212 230 (by decide) (by decide) ?_
        refine o_iload X_1012 KW_963 at_230 232 rfl rfl ?_
        refine o_if_eq_f X_1012 KW_963 at_232 235 rfl (by decide) ?_
        refine o_aload X_1012 KW_963 at_235 237 rfl rfl rfl ?_
        refine o_invokevirtual X_1012 KW_963 at_237 240 rfl (w_113 hw) (w_114 hw) (w_116 hw) (w_115 hw) (w_72 hw) (w_117 hw) (by decide) p_983f0 [] [] rfl  (c_akind l Z a0 hw n0 xa kb h_983 Z_983 p_983f1) e_1012 rfl (lenOf pd___Lcom_example_dhole_dhole_event_ActorKind_ rfl) (by decide) 0 (Nat.le_of_eq rfl) (by decide) (by decide) (by decide) N_1012 ?_
        rintro _ T_1013 h_1013 locs_1013 X_1013 q_1013 ⟨rfl, r_1013⟩ N_1013
        have e_1013 := q_1013.trans r_1013
        show OGo p e below _ n0 _ (T_1013.setTop (mkF m 240 #[.val (.int p0), .val (.int p1), .val (.int p2), .val (.int p3), .val (.ref ka), .val (.ref kb), .val (.int (0 : Int32)), .val (.int (1 : Int32)), .val (.int (1 : Int32)), .val (.ref ca), .val (.ref st), .val (.ref bu), .val (.int (1 : Int32)), .val (.ref xa), .val (.ref kb), .val (.int (1 : Int32))] [(.ref kb)]))
        refine o_aload X_1013 KW_963 at_240 242 rfl rfl rfl ?_
        refine o_acmp X_1013 KW_963 at_242 245 rfl rfl true (decide_eq_true rfl) (by decide) (by decide) ?_
        refine o_iload X_1013 KW_963 at_245 247 rfl rfl ?_
        refine o_if_eq_f X_1013 KW_963 at_247 250 rfl (by decide) ?_
        refine o_aload X_1013 KW_963 at_250 252 rfl rfl rfl ?_
        refine o_invokevirtual X_1013 KW_963 at_252 255 rfl (w_118 hw) (w_119 hw) (w_121 hw) (w_120 hw) (w_72 hw) (w_122 hw) (by decide) p_983f0 [] [] rfl  (c_amfa l Z a0 hw n0 xa h_983 Z_983 p_983f3) e_1013 rfl (lenOf pd___Ljava_lang_Boolean_ rfl) (by decide) 0 (Nat.le_of_eq rfl) (by decide) (by decide) (by decide) N_1013 ?_
        rintro _ T_1014 h_1014 locs_1014 X_1014 q_1014 ⟨rfl, r_1014⟩ N_1014
        have e_1014 := q_1014.trans r_1014
        show OGo p e below _ n0 _ (T_1014.setTop (mkF m 255 #[.val (.int p0), .val (.int p1), .val (.int p2), .val (.int p3), .val (.ref ka), .val (.ref kb), .val (.int (0 : Int32)), .val (.int (1 : Int32)), .val (.int (1 : Int32)), .val (.ref ca), .val (.ref st), .val (.ref bu), .val (.int (1 : Int32)), .val (.ref xa), .val (.ref kb), .val (.int (1 : Int32))] [.null]))
        refine o_ifnonnull_f X_1014 KW_963 at_255 258 rfl ?_
        refine o_iconst X_1014 KW_963 (1 : Int32) at_258 259 rfl rfl ?_
        refine o_goto X_1014 KW_963 at_259 263 (by decide) (by decide) ?_
        refine o_ireturnNW X_1014 hS_963 e_1014 hk_983 KW_963 (by decide) at_263 (by decide) (by decide) N_1014 ?_
        exact rfl
  · refine o_iconst X_414 K (1 : Int32) at_18 19 rfl rfl ?_
    refine o_goto X_414 K at_19 23 (by decide) (by decide) ?_
    refine o_istore X_414 K at_23 25 rfl #[.val (.int p0), .val (.int p1), .val (.int p2), .val (.int p3), .val (.ref ka), .val (.ref kb), .val (.int (1 : Int32)), .unset, .unset, .unset, .unset, .unset, .unset, .unset, .unset, .unset] rfl rfl ?_
    refine o_iloadN X_414 K at_25 26 rfl rfl ?_
    refine o_iconst X_414 K (2 : Int32) at_26 27 rfl rfl ?_
    refine o_iand X_414 K at_27 28 rfl ?_
    refine o_if_eq X_414 K at_28 35 (by decide) (by decide) 31 rfl (fun hc28 => ?_) (fun hc28 => ?_)
    · refine o_iconst X_414 K (0 : Int32) at_35 36 rfl rfl ?_
      refine o_istore X_414 K at_36 38 rfl #[.val (.int p0), .val (.int p1), .val (.int p2), .val (.int p3), .val (.ref ka), .val (.ref kb), .val (.int (1 : Int32)), .val (.int (0 : Int32)), .unset, .unset, .unset, .unset, .unset, .unset, .unset, .unset] rfl rfl ?_
      refine o_iloadN X_414 K at_38 39 rfl rfl ?_
      refine o_iconst X_414 K (4 : Int32) at_39 40 rfl rfl ?_
      refine o_iand X_414 K at_40 41 rfl ?_
      refine o_if_eq X_414 K at_41 48 (by decide) (by decide) 44 rfl (fun hc41 => ?_) (fun hc41 => ?_)
      · refine o_iconst X_414 K (0 : Int32) at_48 49 rfl rfl ?_
        refine o_istore X_414 K at_49 51 rfl #[.val (.int p0), .val (.int p1), .val (.int p2), .val (.int p3), .val (.ref ka), .val (.ref kb), .val (.int (1 : Int32)), .val (.int (0 : Int32)), .val (.int (0 : Int32)), .unset, .unset, .unset, .unset, .unset, .unset, .unset] rfl rfl ?_
        refine o_iconst X_414 K (1 : Int32) at_51 52 rfl rfl ?_
        refine o_newarray X_414 K (n := 1) at_52 54 rfl (w_10 hw) e_414 (by decide) 1 (by decide) (by decide) (by decide) (by decide) rfl ?_
        intro T_1015 h_1015 ca g_1015 X_1015 e_1015 E_1015 A_1015
        dsimp only [newarray.typeOf, defaultValue] at A_1015
        have hk_1015 : _ ≤ h_1015.size := Nat.le_trans hk0 (E_1015.1)
        have Z_1015 : n0 ≤ h_1015.size := Nat.le_trans Z0 E_1015.1
        have f_1016 := Sta.ext E_1015 S_COMPACT_STRINGS
        have f_1017 := Sta.ext E_1015 S_ROOT
        have f_1018 := Sta.ext E_1015 S_USER
        have f_1019 := Sta.ext E_1015 S_ROLE
        have f_1020 := Sta.ext E_1015 S_SERVICE
        have f_1021 := Sta.ext E_1015 S_UNKNOWN
        have f_1022 := Exa.ext E_1015 E_r0
        have f_1023 := Exa.ext E_1015 E_r1
        have f_1024 := Exa.ext E_1015 E_r2
        have f_1025 := Exa.ext E_1015 E_r3
        have f_1026 := Exa.ext E_1015 E_r4
        have f_1027 := Exa.ext E_1015 E_413
        have f_1028 := Exa.ext E_1015 E_414
        have g_ca : n0 ≤ ca := by rw [g_1015]; exact Z0
        have ne_r0_ca : r0 ≠ ca := by rw [g_1015]; exact Nat.ne_of_lt E_r0.lt
        have ne_r1_ca : r1 ≠ ca := by rw [g_1015]; exact Nat.ne_of_lt E_r1.lt
        have ne_r2_ca : r2 ≠ ca := by rw [g_1015]; exact Nat.ne_of_lt E_r2.lt
        have ne_r3_ca : r3 ≠ ca := by rw [g_1015]; exact Nat.ne_of_lt E_r3.lt
        have ne_r4_ca : r4 ≠ ca := by rw [g_1015]; exact Nat.ne_of_lt E_r4.lt
        have ne_ka_ca : ka ≠ ca := by rw [g_1015]; exact Nat.ne_of_lt E_413.lt
        have ne_kb_ca : kb ≠ ca := by rw [g_1015]; exact Nat.ne_of_lt E_414.lt
        refine o_dup X_1015 K at_54 55 rfl rfl ?_
        refine o_iconst X_1015 K (0 : Int32) at_55 56 rfl rfl ?_
        refine o_iloadN X_1015 K at_56 57 rfl rfl ?_
        refine o_sipush X_1015 K (255 : Int32) at_57 60 rfl rfl ?_
        refine o_iand X_1015 K at_60 61 rfl ?_
        refine o_i2c X_1015 K at_61 62 rfl ?_
        refine o_castore X_1015 K (i := 0) (x' := ((p2 &&& (255 : Int32)).toUInt32.toUInt16.toUInt32.toInt32)) at_62 63 rfl e_1015 A_1015 (by decide) (by decide) (o_nc _) N_414 g_ca ?_
        intro T_1029 h_1029 locs_1029 X_1029 e_1029 W_1029 A_1029 N_1029
        have hk_1029 : _ ≤ h_1029.size := Nat.le_trans hk_1015 (Nat.le_of_eq (Wr.size W_1029).symm)
        have Z_1029 : n0 ≤ h_1029.size := by rw [Wr.size W_1029]; exact Z_1015
        have f_1030 := Sta.wr W_1029 f_1016
        have f_1031 := Sta.wr W_1029 f_1017
        have f_1032 := Sta.wr W_1029 f_1018
        have f_1033 := Sta.wr W_1029 f_1019
        have f_1034 := Sta.wr W_1029 f_1020
        have f_1035 := Sta.wr W_1029 f_1021
        have f_1036 := Exa.wr W_1029 f_1022
        have f_1037 := Exa.wr W_1029 f_1023
        have f_1038 := Exa.wr W_1029 f_1024
        have f_1039 := Exa.wr W_1029 f_1025
        have f_1040 := Exa.wr W_1029 f_1026
        have f_1041 := Exa.wr W_1029 f_1027
        have f_1042 := Exa.wr W_1029 f_1028
        refine o_astore X_1029 K at_63 65 rfl #[.val (.int p0), .val (.int p1), .val (.int p2), .val (.int p3), .val (.ref ka), .val (.ref kb), .val (.int (1 : Int32)), .val (.int (0 : Int32)), .val (.int (0 : Int32)), .val (.ref ca), .unset, .unset, .unset, .unset, .unset, .unset] rfl rfl ?_
        refine o_new X_1029 K at_65 68 rfl (w_11 hw) (w_12 hw) (w_13 hw) e_1029 (by decide) (by decide) ?_
        intro T_1043 h_1043 st g_1043 X_1043 e_1043 E_1043 B_1043 D_1043
        have hk_1043 : _ ≤ h_1043.size := Nat.le_trans hk_1029 (E_1043.1)
        have Z_1043 : n0 ≤ h_1043.size := Nat.le_trans Z_1029 E_1043.1
        have f_1044 := Sta.ext E_1043 f_1030
        have f_1045 := Sta.ext E_1043 f_1031
        have f_1046 := Sta.ext E_1043 f_1032
        have f_1047 := Sta.ext E_1043 f_1033
        have f_1048 := Sta.ext E_1043 f_1034
        have f_1049 := Sta.ext E_1043 f_1035
        have f_1050 := Exa.ext E_1043 f_1036
        have f_1051 := Exa.ext E_1043 f_1037
        have f_1052 := Exa.ext E_1043 f_1038
        have f_1053 := Exa.ext E_1043 f_1039
        have f_1054 := Exa.ext E_1043 f_1040
        have f_1055 := Exa.ext E_1043 f_1041
        have f_1056 := Exa.ext E_1043 f_1042
        have f_1057 := A_1029.ext E_1043
        have g_st : n0 ≤ st := by rw [g_1043]; exact Z_1029
        have ne_r0_st : r0 ≠ st := by rw [g_1043]; exact Nat.ne_of_lt f_1036.lt
        have ne_r1_st : r1 ≠ st := by rw [g_1043]; exact Nat.ne_of_lt f_1037.lt
        have ne_r2_st : r2 ≠ st := by rw [g_1043]; exact Nat.ne_of_lt f_1038.lt
        have ne_r3_st : r3 ≠ st := by rw [g_1043]; exact Nat.ne_of_lt f_1039.lt
        have ne_r4_st : r4 ≠ st := by rw [g_1043]; exact Nat.ne_of_lt f_1040.lt
        have ne_ka_st : ka ≠ st := by rw [g_1043]; exact Nat.ne_of_lt f_1041.lt
        have ne_kb_st : kb ≠ st := by rw [g_1043]; exact Nat.ne_of_lt f_1042.lt
        have ne_ca_st : ca ≠ st := by rw [g_1043]; exact Nat.ne_of_lt A_1029.lt
        have F_coder__1043 : Fld Z h_1043 st "java/lang/String" "coder" "B" (.int (0 : Int32)) := D_1043 (Or.inr (w_37 hw)) (ty := .byte) (by decide)
        have F_value__1043 : Fld Z h_1043 st "java/lang/String" "value" "[B" .null := D_1043 (Or.inr (w_39 hw)) (ty := (.array .byte)) (by decide)
        refine o_dup X_1043 K at_68 69 rfl rfl ?_
        refine o_aload X_1043 K at_69 71 rfl rfl rfl ?_
        refine o_strinit X_1043 K (cs := [((p2 &&& (255 : Int32)).toUInt32.toUInt16.toUInt32.toInt32)]) at_71 74 rfl (w_14 hw) (w_15 hw) (w_16 hw) (hws_ hw) (w_12 hw) e_1043 Z_1043 g_st B_1043 F_value__1043 F_coder__1043 f_1057 f_1044 hcs rfl (fun j hj => by rcases (by omega : j = 0) with rfl <;> rfl) (by decide) (by decide) (o_all1 (o_and255 _)) rfl N_1029 (by decide) 1 (Nat.le_of_eq rfl) (by decide) (by decide) (by decide) ?_
        intro T_1058 h_1058 locs_1058 tv X_1058 e_1058 k_1058 E_1058 Fc_1058 g_1058 s_1058 ne_tv_st Fv_1058 A_1058 N_1058
        have hk_1058 : _ ≤ h_1058.size := Nat.le_trans hk_1043 (k_1058.1)
        have Z_1058 : n0 ≤ h_1058.size := Nat.le_trans Z_1043 k_1058.1
        have f_1059 := Exa.keep f_1050 k_1058
        have f_1060 := Exa.keep f_1051 k_1058
        have f_1061 := Exa.keep f_1052 k_1058
        have f_1062 := Exa.keep f_1053 k_1058
        have f_1063 := Exa.keep f_1054 k_1058
        have f_1064 := Exa.keep f_1055 k_1058
        have f_1065 := Exa.keep f_1056 k_1058
        have f_1066 := f_1057.keep k_1058 (ninS ne_ca_st (nin0))
        have f_1067 := Exa.keep B_1043 k_1058
        have f_1068 := o_sta_keep f_1044 k_1058 (fun y_ hy_ cl_ hc_ => by rw [List.mem_singleton] at hy_; subst hy_; obtain ⟨c1_, -, d1_, -, -, d4_, -⟩ := B_1043; cases hc_.symm.trans d1_; exact d4_)
        have f_1069 := o_sta_keep f_1045 k_1058 (fun y_ hy_ cl_ hc_ => by rw [List.mem_singleton] at hy_; subst hy_; obtain ⟨c1_, -, d1_, -, -, d4_, -⟩ := B_1043; cases hc_.symm.trans d1_; exact d4_)
        have f_1070 := o_sta_keep f_1046 k_1058 (fun y_ hy_ cl_ hc_ => by rw [List.mem_singleton] at hy_; subst hy_; obtain ⟨c1_, -, d1_, -, -, d4_, -⟩ := B_1043; cases hc_.symm.trans d1_; exact d4_)
        have f_1071 := o_sta_keep f_1047 k_1058 (fun y_ hy_ cl_ hc_ => by rw [List.mem_singleton] at hy_; subst hy_; obtain ⟨c1_, -, d1_, -, -, d4_, -⟩ := B_1043; cases hc_.symm.trans d1_; exact d4_)
        have f_1072 := o_sta_keep f_1048 k_1058 (fun y_ hy_ cl_ hc_ => by rw [List.mem_singleton] at hy_; subst hy_; obtain ⟨c1_, -, d1_, -, -, d4_, -⟩ := B_1043; cases hc_.symm.trans d1_; exact d4_)
        have f_1073 := o_sta_keep f_1049 k_1058 (fun y_ hy_ cl_ hc_ => by rw [List.mem_singleton] at hy_; subst hy_; obtain ⟨c1_, -, d1_, -, -, d4_, -⟩ := B_1043; cases hc_.symm.trans d1_; exact d4_)
        have ne_r0_tv : r0 ≠ tv := Nat.ne_of_lt (Nat.lt_of_lt_of_le f_1050.lt s_1058)
        have ne_r1_tv : r1 ≠ tv := Nat.ne_of_lt (Nat.lt_of_lt_of_le f_1051.lt s_1058)
        have ne_r2_tv : r2 ≠ tv := Nat.ne_of_lt (Nat.lt_of_lt_of_le f_1052.lt s_1058)
        have ne_r3_tv : r3 ≠ tv := Nat.ne_of_lt (Nat.lt_of_lt_of_le f_1053.lt s_1058)
        have ne_r4_tv : r4 ≠ tv := Nat.ne_of_lt (Nat.lt_of_lt_of_le f_1054.lt s_1058)
        have ne_ka_tv : ka ≠ tv := Nat.ne_of_lt (Nat.lt_of_lt_of_le f_1055.lt s_1058)
        have ne_kb_tv : kb ≠ tv := Nat.ne_of_lt (Nat.lt_of_lt_of_le f_1056.lt s_1058)
        have ne_ca_tv : ca ≠ tv := Nat.ne_of_lt (Nat.lt_of_lt_of_le f_1057.lt s_1058)
        show OGo p e below _ n0 _ (T_1058.setTop (mkF m 74 #[.val (.int p0), .val (.int p1), .val (.int p2), .val (.int p3), .val (.ref ka), .val (.ref kb), .val (.int (1 : Int32)), .val (.int (0 : Int32)), .val (.int (0 : Int32)), .val (.ref ca), .unset, .unset, .unset, .unset, .unset, .unset] [(.ref st)]))
        refine o_astore X_1058 K at_74 76 rfl #[.val (.int p0), .val (.int p1), .val (.int p2), .val (.int p3), .val (.ref ka), .val (.ref kb), .val (.int (1 : Int32)), .val (.int (0 : Int32)), .val (.int (0 : Int32)), .val (.ref ca), .val (.ref st), .unset, .unset, .unset, .unset, .unset] rfl rfl ?_
        refine o_new X_1058 K at_76 79 rfl (w_40 hw) (w_41 hw) (w_42 hw) e_1058 (by decide) (by decide) ?_
        intro T_1074 h_1074 bu g_1074 X_1074 e_1074 E_1074 B_1074 D_1074
        have hk_1074 : _ ≤ h_1074.size := Nat.le_trans hk_1058 (E_1074.1)
        have Z_1074 : n0 ≤ h_1074.size := Nat.le_trans Z_1058 E_1074.1
        have f_1075 := Exa.ext E_1074 f_1059
        have f_1076 := Exa.ext E_1074 f_1060
        have f_1077 := Exa.ext E_1074 f_1061
        have f_1078 := Exa.ext E_1074 f_1062
        have f_1079 := Exa.ext E_1074 f_1063
        have f_1080 := Exa.ext E_1074 f_1064
        have f_1081 := Exa.ext E_1074 f_1065
        have f_1082 := f_1066.ext E_1074
        have f_1083 := Exa.ext E_1074 E_1058
        have f_1084 := Sta.ext E_1074 f_1068
        have f_1085 := Sta.ext E_1074 f_1069
        have f_1086 := Sta.ext E_1074 f_1070
        have f_1087 := Sta.ext E_1074 f_1071
        have f_1088 := Sta.ext E_1074 f_1072
        have f_1089 := Sta.ext E_1074 f_1073
        have f_1090 := Fld.ext E_1074 Fc_1058
        have f_1091 := Fld.ext E_1074 Fv_1058
        have f_1092 := A_1058.ext E_1074
        have g_bu : n0 ≤ bu := by rw [g_1074]; exact Z_1058
        have ne_r0_bu : r0 ≠ bu := by rw [g_1074]; exact Nat.ne_of_lt f_1059.lt
        have ne_r1_bu : r1 ≠ bu := by rw [g_1074]; exact Nat.ne_of_lt f_1060.lt
        have ne_r2_bu : r2 ≠ bu := by rw [g_1074]; exact Nat.ne_of_lt f_1061.lt
        have ne_r3_bu : r3 ≠ bu := by rw [g_1074]; exact Nat.ne_of_lt f_1062.lt
        have ne_r4_bu : r4 ≠ bu := by rw [g_1074]; exact Nat.ne_of_lt f_1063.lt
        have ne_ka_bu : ka ≠ bu := by rw [g_1074]; exact Nat.ne_of_lt f_1064.lt
        have ne_kb_bu : kb ≠ bu := by rw [g_1074]; exact Nat.ne_of_lt f_1065.lt
        have ne_ca_bu : ca ≠ bu := by rw [g_1074]; exact Nat.ne_of_lt f_1066.lt
        have ne_st_bu : st ≠ bu := by rw [g_1074]; exact Nat.ne_of_lt E_1058.lt
        have ne_tv_bu : tv ≠ bu := by rw [g_1074]; exact Nat.ne_of_lt A_1058.lt
        have F_kind__1074 : Fld Z h_1074 bu "com/example/dhole/dhole/event/Actor$Builder" "kind" "Lcom/example/dhole/dhole/event/ActorKind;" .null := D_1074 (Or.inl (w_50 hw)) (ty := (.object "com/example/dhole/dhole/event/ActorKind")) (by decide)
        have F_type__1074 : Fld Z h_1074 bu "com/example/dhole/dhole/event/Actor$Builder" "type" "Ljava/lang/String;" .null := D_1074 (Or.inl (w_81 hw)) (ty := (.object "java/lang/String")) (by decide)
        have F_id__1074 : Fld Z h_1074 bu "com/example/dhole/dhole/event/Actor$Builder" "id" "Ljava/lang/String;" .null := D_1074 (Or.inl (w_85 hw)) (ty := (.object "java/lang/String")) (by decide)
        have F_account__1074 : Fld Z h_1074 bu "com/example/dhole/dhole/event/Actor$Builder" "account" "Ljava/lang/String;" .null := D_1074 (Or.inl (w_89 hw)) (ty := (.object "java/lang/String")) (by decide)
        have F_name__1074 : Fld Z h_1074 bu "com/example/dhole/dhole/event/Actor$Builder" "name" "Ljava/lang/String;" .null := D_1074 (Or.inl (w_93 hw)) (ty := (.object "java/lang/String")) (by decide)
        have F_accessKey__1074 : Fld Z h_1074 bu "com/example/dhole/dhole/event/Actor$Builder" "accessKey" "Ljava/lang/String;" .null := D_1074 (Or.inl (w_97 hw)) (ty := (.object "java/lang/String")) (by decide)
        have F_mfa__1074 : Fld Z h_1074 bu "com/example/dhole/dhole/event/Actor$Builder" "mfa" "Ljava/lang/Boolean;" .null := D_1074 (Or.inl (w_101 hw)) (ty := (.object "java/lang/Boolean")) (by decide)
        have F_sessionCreated__1074 : Fld Z h_1074 bu "com/example/dhole/dhole/event/Actor$Builder" "sessionCreated" "Lcom/example/dhole/dhole/event/EventTime;" .null := D_1074 (Or.inl (w_105 hw)) (ty := (.object "com/example/dhole/dhole/event/EventTime")) (by decide)
        refine o_dup X_1074 K at_79 80 rfl rfl ?_
        refine o_invokespecial X_1074 K at_80 83 rfl rfl (w_43 hw) (w_44 hw) (w_42 hw) (w_45 hw) (by decide) [] [(.ref bu)] rfl  (c_binit l Z a0 hw n0 bu r4 h_1074 Z_1074 f_1089 B_1074 F_kind__1074 F_type__1074 F_id__1074 F_account__1074 F_name__1074 F_accessKey__1074 F_mfa__1074 F_sessionCreated__1074 g_bu) e_1074 rfl (lenOf pd___V rfl) (by decide) 1 (Nat.le_of_eq rfl) (by decide) (by decide) (by decide) N_1058 ?_
        rintro _ T_1093 h_1093 locs_1093 X_1093 e_1093 ⟨rfl, k_1093, p_1093f0, p_1093f1, p_1093f2, p_1093f3, p_1093f4, p_1093f5, p_1093f6, p_1093f7, p_1093f8⟩ N_1093
        have hk_1093 : _ ≤ h_1093.size := Nat.le_trans hk_1074 (k_1093.1)
        have Z_1093 : n0 ≤ h_1093.size := Nat.le_trans Z_1074 k_1093.1
        have f_1094 := Exa.keep f_1075 k_1093
        have f_1095 := Exa.keep f_1076 k_1093
        have f_1096 := Exa.keep f_1077 k_1093
        have f_1097 := Exa.keep f_1078 k_1093
        have f_1098 := Exa.keep f_1079 k_1093
        have f_1099 := Exa.keep f_1080 k_1093
        have f_1100 := Exa.keep f_1081 k_1093
        have f_1101 := f_1082.keep k_1093 (ninS ne_ca_bu (nin0))
        have f_1102 := Exa.keep f_1083 k_1093
        have f_1103 := o_sta_keep f_1084 k_1093 (o_plainS B_1074 (o_plain0))
        have f_1104 := o_sta_keep f_1085 k_1093 (o_plainS B_1074 (o_plain0))
        have f_1105 := o_sta_keep f_1086 k_1093 (o_plainS B_1074 (o_plain0))
        have f_1106 := o_sta_keep f_1087 k_1093 (o_plainS B_1074 (o_plain0))
        have f_1107 := o_sta_keep f_1088 k_1093 (o_plainS B_1074 (o_plain0))
        have f_1108 := o_sta_keep f_1089 k_1093 (o_plainS B_1074 (o_plain0))
        have f_1109 := Fld.keep f_1090 k_1093 (ninS ne_st_bu (nin0))
        have f_1110 := Fld.keep f_1091 k_1093 (ninS ne_st_bu (nin0))
        have f_1111 := f_1092.keep k_1093 (ninS ne_tv_bu (nin0))
        have f_1112 := Exa.keep B_1074 k_1093
        show OGo p e below _ n0 _ (T_1093.setTop (mkF m 83 #[.val (.int p0), .val (.int p1), .val (.int p2), .val (.int p3), .val (.ref ka), .val (.ref kb), .val (.int (1 : Int32)), .val (.int (0 : Int32)), .val (.int (0 : Int32)), .val (.ref ca), .val (.ref st), .unset, .unset, .unset, .unset, .unset] [(.ref bu)]))
        refine o_astore X_1093 K at_83 85 rfl #[.val (.int p0), .val (.int p1), .val (.int p2), .val (.int p3), .val (.ref ka), .val (.ref kb), .val (.int (1 : Int32)), .val (.int (0 : Int32)), .val (.int (0 : Int32)), .val (.ref ca), .val (.ref st), .val (.ref bu), .unset, .unset, .unset, .unset] rfl rfl ?_
        refine o_iconst X_1093 K (1 : Int32) at_85 86 rfl rfl ?_
        refine o_istore X_1093 K at_86 88 rfl #[.val (.int p0), .val (.int p1), .val (.int p2), .val (.int p3), .val (.ref ka), .val (.ref kb), .val (.int (1 : Int32)), .val (.int (0 : Int32)), .val (.int (0 : Int32)), .val (.ref ca), .val (.ref st), .val (.ref bu), .val (.int (1 : Int32)), .unset, .unset, .unset] rfl rfl ?_
        refine o_iload X_1093 K at_88 90 rfl rfl ?_
        refine o_if_eq_f X_1093 K at_90 93 rfl (by decide) ?_
        refine o_iload X_1093 K at_93 95 rfl rfl ?_
        refine o_if_eq_f X_1093 K at_95 98 rfl (by decide) ?_
        refine o_aload X_1093 K at_98 100 rfl rfl rfl ?_
        refine o_aload X_1093 K at_100 102 rfl rfl rfl ?_
        refine o_invokevirtualW X_1093 K hS0 hk_1093 at_102 105 rfl (w_51 hw) (w_52 hw) (w_54 hw) (w_53 hw) (w_42 hw) (w_55 hw) (by decide) p_1093f0 [(.ref ka)] [] rfl  (c_kind0 l Z a0 hw n0 bu r4 ka h_1093 Z_1093 p_1093f0 p_1093f1 p_1093f2 p_1093f3 p_1093f4 p_1093f5 p_1093f6 p_1093f7 p_1093f8 g_bu f_1099) e_1093 rfl (lenOf pd__Lcom_example_dhole_dhole_event_ActorKind__Lcom_example_dhole_dhole_event_Actor_Builder_ rfl) (by decide) 0 (Nat.le_of_eq rfl) (by decide) (by decide) (by decide) N_1093 ?_
        rintro _ T_1113 h_1113 locs_1113 k1_1113 X_1113 KW_1113 e_1113 hS_1113 hq_1113 ⟨rfl, k_1113, p_1113f0, p_1113f1, p_1113f2, p_1113f3, p_1113f4, p_1113f5, p_1113f6, p_1113f7, p_1113f8⟩ N_1113
        have Z_1113 : n0 ≤ h_1113.size := Nat.le_trans Z_1093 k_1113.1
        have f_1114 := Exa.keep f_1094 k_1113
        have f_1115 := Exa.keep f_1095 k_1113
        have f_1116 := Exa.keep f_1096 k_1113
        have f_1117 := Exa.keep f_1097 k_1113
        have f_1118 := Exa.keep f_1098 k_1113
        have f_1119 := Exa.keep f_1099 k_1113
        have f_1120 := Exa.keep f_1100 k_1113
        have f_1121 := f_1101.keep k_1113 (ninS ne_ca_bu (nin0))
        have f_1122 := Exa.keep f_1102 k_1113
        have f_1123 := o_sta_keep f_1103 k_1113 (o_plainS p_1093f0 (o_plain0))
        have f_1124 := o_sta_keep f_1104 k_1113 (o_plainS p_1093f0 (o_plain0))
        have f_1125 := o_sta_keep f_1105 k_1113 (o_plainS p_1093f0 (o_plain0))
        have f_1126 := o_sta_keep f_1106 k_1113 (o_plainS p_1093f0 (o_plain0))
        have f_1127 := o_sta_keep f_1107 k_1113 (o_plainS p_1093f0 (o_plain0))
        have f_1128 := o_sta_keep f_1108 k_1113 (o_plainS p_1093f0 (o_plain0))
        have f_1129 := Fld.keep f_1109 k_1113 (ninS ne_st_bu (nin0))
        have f_1130 := Fld.keep f_1110 k_1113 (ninS ne_st_bu (nin0))
        have f_1131 := f_1111.keep k_1113 (ninS ne_tv_bu (nin0))
        have f_1132 := Exa.keep p_1093f0 k_1113
        show OGo p e below _ n0 _ (T_1113.setTop (mkF m 105 #[.val (.int p0), .val (.int p1), .val (.int p2), .val (.int p3), .val (.ref ka), .val (.ref kb), .val (.int (1 : Int32)), .val (.int (0 : Int32)), .val (.int (0 : Int32)), .val (.ref ca), .val (.ref st), .val (.ref bu), .val (.int (1 : Int32)), .unset, .unset, .unset] [(.ref bu)]))
        refine o_aload X_1113 KW_1113 at_105 107 rfl rfl rfl ?_
        refine o_acmp X_1113 KW_1113 at_107 110 rfl rfl true (decide_eq_true rfl) (by decide) (by decide) ?_
        refine o_iconst X_1113 KW_1113 (1 : Int32) at_110 111 rfl rfl ?_
        refine o_goto X_1113 KW_1113 at_111 115 (by decide) (by decide) ?_
        refine o_istore X_1113 KW_1113 at_115 117 rfl #[.val (.int p0), .val (.int p1), .val (.int p2), .val (.int p3), .val (.ref ka), .val (.ref kb), .val (.int (1 : Int32)), .val (.int (0 : Int32)), .val (.int (0 : Int32)), .val (.ref ca), .val (.ref st), .val (.ref bu), .val (.int (1 : Int32)), .unset, .unset, .unset] rfl rfl ?_
        refine o_iload X_1113 KW_1113 at_117 119 rfl rfl ?_
        refine o_if_eq_t X_1113 KW_1113 at_119 130 (by decide) (by decide) (by decide) ?_
        refine o_iload X_1113 KW_1113 at_130 132 rfl rfl ?_
        refine o_if_eq_t X_1113 KW_1113 at_132 159 (by decide) (by decide) (by decide) ?_
        refine o_aload X_1113 KW_1113 at_159 161 rfl rfl rfl ?_
        refine o_invokevirtual X_1113 KW_1113 at_161 164 rfl (w_65 hw) (w_66 hw) (w_68 hw) (w_67 hw) (w_42 hw) (w_69 hw) (by decide) p_1113f0 [] [] rfl  (c_build0 l Z a0 hw n0 bu ka h_1113 Z_1113 p_1113f0 p_1113f1 p_1113f2 p_1113f3 p_1113f4 p_1113f5 p_1113f6 p_1113f7 p_1113f8) e_1113 rfl (lenOf pd___Lcom_example_dhole_dhole_event_Actor_ rfl) (by decide) 0 (Nat.le_of_eq rfl) (by decide) (by decide) (by decide) N_1113 ?_
        rintro _ T_1133 h_1133 locs_1133 X_1133 e_1133 ⟨xa, rfl, k_1133, gg_1133_x, sz_1133_x, p_1133f0, p_1133f1, p_1133f2, p_1133f3⟩ N_1133
        have hk_1133 : _ ≤ h_1133.size := Nat.le_trans hq_1113 (k_1133.1)
        have Z_1133 : n0 ≤ h_1133.size := Nat.le_trans Z_1113 k_1133.1
        have f_1134 := Exa.keep f_1114 k_1133
        have f_1135 := Exa.keep f_1115 k_1133
        have f_1136 := Exa.keep f_1116 k_1133
        have f_1137 := Exa.keep f_1117 k_1133
        have f_1138 := Exa.keep f_1118 k_1133
        have f_1139 := Exa.keep f_1119 k_1133
        have f_1140 := Exa.keep f_1120 k_1133
        have f_1141 := f_1121.keep k_1133 (nin0)
        have f_1142 := Exa.keep f_1122 k_1133
        have f_1143 := o_sta_keep f_1123 k_1133 (o_plain0)
        have f_1144 := o_sta_keep f_1124 k_1133 (o_plain0)
        have f_1145 := o_sta_keep f_1125 k_1133 (o_plain0)
        have f_1146 := o_sta_keep f_1126 k_1133 (o_plain0)
        have f_1147 := o_sta_keep f_1127 k_1133 (o_plain0)
        have f_1148 := o_sta_keep f_1128 k_1133 (o_plain0)
        have f_1149 := Fld.keep f_1129 k_1133 (nin0)
        have f_1150 := Fld.keep f_1130 k_1133 (nin0)
        have f_1151 := f_1131.keep k_1133 (nin0)
        have f_1152 := Exa.keep p_1113f0 k_1133
        have f_1153 := Fld.keep p_1113f1 k_1133 (nin0)
        have f_1154 := Fld.keep p_1113f2 k_1133 (nin0)
        have f_1155 := Fld.keep p_1113f3 k_1133 (nin0)
        have f_1156 := Fld.keep p_1113f4 k_1133 (nin0)
        have f_1157 := Fld.keep p_1113f5 k_1133 (nin0)
        have f_1158 := Fld.keep p_1113f6 k_1133 (nin0)
        have f_1159 := Fld.keep p_1113f7 k_1133 (nin0)
        have f_1160 := Fld.keep p_1113f8 k_1133 (nin0)
        have ne_r0_xa : r0 ≠ xa := Nat.ne_of_lt (Nat.lt_of_lt_of_le f_1114.lt sz_1133_x)
        have ne_r1_xa : r1 ≠ xa := Nat.ne_of_lt (Nat.lt_of_lt_of_le f_1115.lt sz_1133_x)
        have ne_r2_xa : r2 ≠ xa := Nat.ne_of_lt (Nat.lt_of_lt_of_le f_1116.lt sz_1133_x)
        have ne_r3_xa : r3 ≠ xa := Nat.ne_of_lt (Nat.lt_of_lt_of_le f_1117.lt sz_1133_x)
        have ne_r4_xa : r4 ≠ xa := Nat.ne_of_lt (Nat.lt_of_lt_of_le f_1118.lt sz_1133_x)
        have ne_ka_xa : ka ≠ xa := Nat.ne_of_lt (Nat.lt_of_lt_of_le f_1119.lt sz_1133_x)
        have ne_kb_xa : kb ≠ xa := Nat.ne_of_lt (Nat.lt_of_lt_of_le f_1120.lt sz_1133_x)
        have ne_ca_xa : ca ≠ xa := Nat.ne_of_lt (Nat.lt_of_lt_of_le f_1121.lt sz_1133_x)
        have ne_st_xa : st ≠ xa := Nat.ne_of_lt (Nat.lt_of_lt_of_le f_1122.lt sz_1133_x)
        have ne_tv_xa : tv ≠ xa := Nat.ne_of_lt (Nat.lt_of_lt_of_le f_1131.lt sz_1133_x)
        have ne_bu_xa : bu ≠ xa := Nat.ne_of_lt (Nat.lt_of_lt_of_le p_1113f0.lt sz_1133_x)
        show OGo p e below _ n0 _ (T_1133.setTop (mkF m 164 #[.val (.int p0), .val (.int p1), .val (.int p2), .val (.int p3), .val (.ref ka), .val (.ref kb), .val (.int (1 : Int32)), .val (.int (0 : Int32)), .val (.int (0 : Int32)), .val (.ref ca), .val (.ref st), .val (.ref bu), .val (.int (1 : Int32)), .unset, .unset, .unset] [(.ref xa)]))
        refine o_astore X_1133 KW_1113 at_164 166 rfl #[.val (.int p0), .val (.int p1), .val (.int p2), .val (.int p3), .val (.ref ka), .val (.ref kb), .val (.int (1 : Int32)), .val (.int (0 : Int32)), .val (.int (0 : Int32)), .val (.ref ca), .val (.ref st), .val (.ref bu), .val (.int (1 : Int32)), .val (.ref xa), .unset, .unset] rfl rfl ?_
        refine o_iload X_1133 KW_1113 at_166 168 rfl rfl ?_
        refine o_if_eq_t X_1133 KW_1113 at_168 178 (by decide) (by decide) (by decide) ?_
        refine o_iload X_1133 KW_1113 at_178 180 rfl rfl ?_
        refine o_if_eq_f X_1133 KW_1113 at_180 183 rfl (by decide) ?_
        refine o_aload X_1133 KW_1113 at_183 185 rfl rfl rfl ?_
        refine o_astore X_1133 KW_1113 at_185 187 rfl #[.val (.int p0), .val (.int p1), .val (.int p2), .val (.int p3), .val (.ref ka), .val (.ref kb), .val (.int (1 : Int32)), .val (.int (0 : Int32)), .val (.int (0 : Int32)), .val (.ref ca), .val (.ref st), .val (.ref bu), .val (.int (1 : Int32)), .val (.ref xa), .val (.ref ka), .unset] rfl rfl ?_
        refine o_goto X_1133 KW_1113 at_187 195 (by decide) (by decide) ?_
        refine o_iload X_1133 KW_1113 at_195 197 rfl rfl ?_
        refine o_if_eq_t X_1133 KW_1113 at_197 215 (by decide) (by decide) (by decide) ?_
        refine o_aload X_1133 KW_1113 at_215 217 rfl rfl rfl ?_
        refine o_invokevirtual X_1133 KW_1113 at_217 220 rfl (w_108 hw) (w_109 hw) (w_111 hw) (w_110 hw) (w_72 hw) (w_112 hw) (by decide) p_1133f0 [] [] rfl  (c_atype0 l Z a0 hw n0 xa h_1133 Z_1133 p_1133f2) e_1133 rfl (lenOf pd___Ljava_lang_String_ rfl) (by decide) 0 (Nat.le_of_eq rfl) (by decide) (by decide) (by decide) N_1133 ?_
        rintro _ T_1161 h_1161 locs_1161 X_1161 q_1161 ⟨rfl, r_1161⟩ N_1161
        have e_1161 := q_1161.trans r_1161
        show OGo p e below _ n0 _ (T_1161.setTop (mkF m 220 #[.val (.int p0), .val (.int p1), .val (.int p2), .val (.int p3), .val (.ref ka), .val (.ref kb), .val (.int (1 : Int32)), .val (.int (0 : Int32)), .val (.int (0 : Int32)), .val (.ref ca), .val (.ref st), .val (.ref bu), .val (.int (1 : Int32)), .val (.ref xa), .val (.ref ka), .unset] [.null]))
        refine o_ifnonnull_f X_1161 KW_1113 at_220 223 rfl ?_
        refine o_iconst X_1161 KW_1113 (1 : Int32) at_223 224 rfl rfl ?_
        refine o_goto X_1161 KW_1113 at_224 228 (by decide) (by decide) ?_
        refine o_istore X_1161 KW_1113 at_228 230 rfl #[.val (.int p0), .val (.int p1), .val (.int p2), .val (.int p3), .val (.ref ka), .val (.ref kb), .val (.int (1 : Int32)), .val (.int (0 : Int32)), .val (.int (0 : Int32)), .val (.ref ca), .val (.ref st), .val (.ref bu), .val (.int (1 : Int32)), .val (.ref xa), .val (.ref ka), .val (.int (1 : Int32))] rfl rfl ?_
        refine o_iload X_1161 KW_1113 at_230 232 rfl rfl ?_
        refine o_if_eq_f X_1161 KW_1113 at_232 235 rfl (by decide) ?_
        refine o_aload X_1161 KW_1113 at_235 237 rfl rfl rfl ?_
        refine o_invokevirtual X_1161 KW_1113 at_237 240 rfl (w_113 hw) (w_114 hw) (w_116 hw) (w_115 hw) (w_72 hw) (w_117 hw) (by decide) p_1133f0 [] [] rfl  (c_akind l Z a0 hw n0 xa ka h_1133 Z_1133 p_1133f1) e_1161 rfl (lenOf pd___Lcom_example_dhole_dhole_event_ActorKind_ rfl) (by decide) 0 (Nat.le_of_eq rfl) (by decide) (by decide) (by decide) N_1161 ?_
        rintro _ T_1162 h_1162 locs_1162 X_1162 q_1162 ⟨rfl, r_1162⟩ N_1162
        have e_1162 := q_1162.trans r_1162
        show OGo p e below _ n0 _ (T_1162.setTop (mkF m 240 #[.val (.int p0), .val (.int p1), .val (.int p2), .val (.int p3), .val (.ref ka), .val (.ref kb), .val (.int (1 : Int32)), .val (.int (0 : Int32)), .val (.int (0 : Int32)), .val (.ref ca), .val (.ref st), .val (.ref bu), .val (.int (1 : Int32)), .val (.ref xa), .val (.ref ka), .val (.int (1 : Int32))] [(.ref ka)]))
        refine o_aload X_1162 KW_1113 at_240 242 rfl rfl rfl ?_
        refine o_acmp X_1162 KW_1113 at_242 245 rfl rfl true (decide_eq_true rfl) (by decide) (by decide) ?_
        refine o_iload X_1162 KW_1113 at_245 247 rfl rfl ?_
        refine o_if_eq_f X_1162 KW_1113 at_247 250 rfl (by decide) ?_
        refine o_aload X_1162 KW_1113 at_250 252 rfl rfl rfl ?_
        refine o_invokevirtual X_1162 KW_1113 at_252 255 rfl (w_118 hw) (w_119 hw) (w_121 hw) (w_120 hw) (w_72 hw) (w_122 hw) (by decide) p_1133f0 [] [] rfl  (c_amfa l Z a0 hw n0 xa h_1133 Z_1133 p_1133f3) e_1162 rfl (lenOf pd___Ljava_lang_Boolean_ rfl) (by decide) 0 (Nat.le_of_eq rfl) (by decide) (by decide) (by decide) N_1162 ?_
        rintro _ T_1163 h_1163 locs_1163 X_1163 q_1163 ⟨rfl, r_1163⟩ N_1163
        have e_1163 := q_1163.trans r_1163
        show OGo p e below _ n0 _ (T_1163.setTop (mkF m 255 #[.val (.int p0), .val (.int p1), .val (.int p2), .val (.int p3), .val (.ref ka), .val (.ref kb), .val (.int (1 : Int32)), .val (.int (0 : Int32)), .val (.int (0 : Int32)), .val (.ref ca), .val (.ref st), .val (.ref bu), .val (.int (1 : Int32)), .val (.ref xa), .val (.ref ka), .val (.int (1 : Int32))] [.null]))
        refine o_ifnonnull_f X_1163 KW_1113 at_255 258 rfl ?_
        refine o_iconst X_1163 KW_1113 (1 : Int32) at_258 259 rfl rfl ?_
        refine o_goto X_1163 KW_1113 at_259 263 (by decide) (by decide) ?_
        refine o_ireturnNW X_1163 hS_1113 e_1163 hk_1133 KW_1113 (by decide) at_263 (by decide) (by decide) N_1163 ?_
        exact rfl
      · refine o_iconst X_414 K (1 : Int32) at_44 45 rfl rfl ?_
        refine o_goto X_414 K at_45 49 (by decide) (by decide) ?_
        refine o_istore X_414 K at_49 51 rfl #[.val (.int p0), .val (.int p1), .val (.int p2), .val (.int p3), .val (.ref ka), .val (.ref kb), .val (.int (1 : Int32)), .val (.int (0 : Int32)), .val (.int (1 : Int32)), .unset, .unset, .unset, .unset, .unset, .unset, .unset] rfl rfl ?_
        refine o_iconst X_414 K (1 : Int32) at_51 52 rfl rfl ?_
        refine o_newarray X_414 K (n := 1) at_52 54 rfl (w_10 hw) e_414 (by decide) 1 (by decide) (by decide) (by decide) (by decide) rfl ?_
        intro T_1164 h_1164 ca g_1164 X_1164 e_1164 E_1164 A_1164
        dsimp only [newarray.typeOf, defaultValue] at A_1164
        have hk_1164 : _ ≤ h_1164.size := Nat.le_trans hk0 (E_1164.1)
        have Z_1164 : n0 ≤ h_1164.size := Nat.le_trans Z0 E_1164.1
        have f_1165 := Sta.ext E_1164 S_COMPACT_STRINGS
        have f_1166 := Sta.ext E_1164 S_ROOT
        have f_1167 := Sta.ext E_1164 S_USER
        have f_1168 := Sta.ext E_1164 S_ROLE
        have f_1169 := Sta.ext E_1164 S_SERVICE
        have f_1170 := Sta.ext E_1164 S_UNKNOWN
        have f_1171 := Exa.ext E_1164 E_r0
        have f_1172 := Exa.ext E_1164 E_r1
        have f_1173 := Exa.ext E_1164 E_r2
        have f_1174 := Exa.ext E_1164 E_r3
        have f_1175 := Exa.ext E_1164 E_r4
        have f_1176 := Exa.ext E_1164 E_413
        have f_1177 := Exa.ext E_1164 E_414
        have g_ca : n0 ≤ ca := by rw [g_1164]; exact Z0
        have ne_r0_ca : r0 ≠ ca := by rw [g_1164]; exact Nat.ne_of_lt E_r0.lt
        have ne_r1_ca : r1 ≠ ca := by rw [g_1164]; exact Nat.ne_of_lt E_r1.lt
        have ne_r2_ca : r2 ≠ ca := by rw [g_1164]; exact Nat.ne_of_lt E_r2.lt
        have ne_r3_ca : r3 ≠ ca := by rw [g_1164]; exact Nat.ne_of_lt E_r3.lt
        have ne_r4_ca : r4 ≠ ca := by rw [g_1164]; exact Nat.ne_of_lt E_r4.lt
        have ne_ka_ca : ka ≠ ca := by rw [g_1164]; exact Nat.ne_of_lt E_413.lt
        have ne_kb_ca : kb ≠ ca := by rw [g_1164]; exact Nat.ne_of_lt E_414.lt
        refine o_dup X_1164 K at_54 55 rfl rfl ?_
        refine o_iconst X_1164 K (0 : Int32) at_55 56 rfl rfl ?_
        refine o_iloadN X_1164 K at_56 57 rfl rfl ?_
        refine o_sipush X_1164 K (255 : Int32) at_57 60 rfl rfl ?_
        refine o_iand X_1164 K at_60 61 rfl ?_
        refine o_i2c X_1164 K at_61 62 rfl ?_
        refine o_castore X_1164 K (i := 0) (x' := ((p2 &&& (255 : Int32)).toUInt32.toUInt16.toUInt32.toInt32)) at_62 63 rfl e_1164 A_1164 (by decide) (by decide) (o_nc _) N_414 g_ca ?_
        intro T_1178 h_1178 locs_1178 X_1178 e_1178 W_1178 A_1178 N_1178
        have hk_1178 : _ ≤ h_1178.size := Nat.le_trans hk_1164 (Nat.le_of_eq (Wr.size W_1178).symm)
        have Z_1178 : n0 ≤ h_1178.size := by rw [Wr.size W_1178]; exact Z_1164
        have f_1179 := Sta.wr W_1178 f_1165
        have f_1180 := Sta.wr W_1178 f_1166
        have f_1181 := Sta.wr W_1178 f_1167
        have f_1182 := Sta.wr W_1178 f_1168
        have f_1183 := Sta.wr W_1178 f_1169
        have f_1184 := Sta.wr W_1178 f_1170
        have f_1185 := Exa.wr W_1178 f_1171
        have f_1186 := Exa.wr W_1178 f_1172
        have f_1187 := Exa.wr W_1178 f_1173
        have f_1188 := Exa.wr W_1178 f_1174
        have f_1189 := Exa.wr W_1178 f_1175
        have f_1190 := Exa.wr W_1178 f_1176
        have f_1191 := Exa.wr W_1178 f_1177
        refine o_astore X_1178 K at_63 65 rfl #[.val (.int p0), .val (.int p1), .val (.int p2), .val (.int p3), .val (.ref ka), .val (.ref kb), .val (.int (1 : Int32)), .val (.int (0 : Int32)), .val (.int (1 : Int32)), .val (.ref ca), .unset, .unset, .unset, .unset, .unset, .unset] rfl rfl ?_
        refine o_new X_1178 K at_65 68 rfl (w_11 hw) (w_12 hw) (w_13 hw) e_1178 (by decide) (by decide) ?_
        intro T_1192 h_1192 st g_1192 X_1192 e_1192 E_1192 B_1192 D_1192
        have hk_1192 : _ ≤ h_1192.size := Nat.le_trans hk_1178 (E_1192.1)
        have Z_1192 : n0 ≤ h_1192.size := Nat.le_trans Z_1178 E_1192.1
        have f_1193 := Sta.ext E_1192 f_1179
        have f_1194 := Sta.ext E_1192 f_1180
        have f_1195 := Sta.ext E_1192 f_1181
        have f_1196 := Sta.ext E_1192 f_1182
        have f_1197 := Sta.ext E_1192 f_1183
        have f_1198 := Sta.ext E_1192 f_1184
        have f_1199 := Exa.ext E_1192 f_1185
        have f_1200 := Exa.ext E_1192 f_1186
        have f_1201 := Exa.ext E_1192 f_1187
        have f_1202 := Exa.ext E_1192 f_1188
        have f_1203 := Exa.ext E_1192 f_1189
        have f_1204 := Exa.ext E_1192 f_1190
        have f_1205 := Exa.ext E_1192 f_1191
        have f_1206 := A_1178.ext E_1192
        have g_st : n0 ≤ st := by rw [g_1192]; exact Z_1178
        have ne_r0_st : r0 ≠ st := by rw [g_1192]; exact Nat.ne_of_lt f_1185.lt
        have ne_r1_st : r1 ≠ st := by rw [g_1192]; exact Nat.ne_of_lt f_1186.lt
        have ne_r2_st : r2 ≠ st := by rw [g_1192]; exact Nat.ne_of_lt f_1187.lt
        have ne_r3_st : r3 ≠ st := by rw [g_1192]; exact Nat.ne_of_lt f_1188.lt
        have ne_r4_st : r4 ≠ st := by rw [g_1192]; exact Nat.ne_of_lt f_1189.lt
        have ne_ka_st : ka ≠ st := by rw [g_1192]; exact Nat.ne_of_lt f_1190.lt
        have ne_kb_st : kb ≠ st := by rw [g_1192]; exact Nat.ne_of_lt f_1191.lt
        have ne_ca_st : ca ≠ st := by rw [g_1192]; exact Nat.ne_of_lt A_1178.lt
        have F_coder__1192 : Fld Z h_1192 st "java/lang/String" "coder" "B" (.int (0 : Int32)) := D_1192 (Or.inr (w_37 hw)) (ty := .byte) (by decide)
        have F_value__1192 : Fld Z h_1192 st "java/lang/String" "value" "[B" .null := D_1192 (Or.inr (w_39 hw)) (ty := (.array .byte)) (by decide)
        refine o_dup X_1192 K at_68 69 rfl rfl ?_
        refine o_aload X_1192 K at_69 71 rfl rfl rfl ?_
        refine o_strinit X_1192 K (cs := [((p2 &&& (255 : Int32)).toUInt32.toUInt16.toUInt32.toInt32)]) at_71 74 rfl (w_14 hw) (w_15 hw) (w_16 hw) (hws_ hw) (w_12 hw) e_1192 Z_1192 g_st B_1192 F_value__1192 F_coder__1192 f_1206 f_1193 hcs rfl (fun j hj => by rcases (by omega : j = 0) with rfl <;> rfl) (by decide) (by decide) (o_all1 (o_and255 _)) rfl N_1178 (by decide) 1 (Nat.le_of_eq rfl) (by decide) (by decide) (by decide) ?_
        intro T_1207 h_1207 locs_1207 tv X_1207 e_1207 k_1207 E_1207 Fc_1207 g_1207 s_1207 ne_tv_st Fv_1207 A_1207 N_1207
        have hk_1207 : _ ≤ h_1207.size := Nat.le_trans hk_1192 (k_1207.1)
        have Z_1207 : n0 ≤ h_1207.size := Nat.le_trans Z_1192 k_1207.1
        have f_1208 := Exa.keep f_1199 k_1207
        have f_1209 := Exa.keep f_1200 k_1207
        have f_1210 := Exa.keep f_1201 k_1207
        have f_1211 := Exa.keep f_1202 k_1207
        have f_1212 := Exa.keep f_1203 k_1207
        have f_1213 := Exa.keep f_1204 k_1207
        have f_1214 := Exa.keep f_1205 k_1207
        have f_1215 := f_1206.keep k_1207 (ninS ne_ca_st (nin0))
        have f_1216 := Exa.keep B_1192 k_1207
        have f_1217 := o_sta_keep f_1193 k_1207 (fun y_ hy_ cl_ hc_ => by rw [List.mem_singleton] at hy_; subst hy_; obtain ⟨c1_, -, d1_, -, -, d4_, -⟩ := B_1192; cases hc_.symm.trans d1_; exact d4_)
        have f_1218 := o_sta_keep f_1194 k_1207 (fun y_ hy_ cl_ hc_ => by rw [List.mem_singleton] at hy_; subst hy_; obtain ⟨c1_, -, d1_, -, -, d4_, -⟩ := B_1192; cases hc_.symm.trans d1_; exact d4_)
        have f_1219 := o_sta_keep f_1195 k_1207 (fun y_ hy_ cl_ hc_ => by rw [List.mem_singleton] at hy_; subst hy_; obtain ⟨c1_, -, d1_, -, -, d4_, -⟩ := B_1192; cases hc_.symm.trans d1_; exact d4_)
        have f_1220 := o_sta_keep f_1196 k_1207 (fun y_ hy_ cl_ hc_ => by rw [List.mem_singleton] at hy_; subst hy_; obtain ⟨c1_, -, d1_, -, -, d4_, -⟩ := B_1192; cases hc_.symm.trans d1_; exact d4_)
        have f_1221 := o_sta_keep f_1197 k_1207 (fun y_ hy_ cl_ hc_ => by rw [List.mem_singleton] at hy_; subst hy_; obtain ⟨c1_, -, d1_, -, -, d4_, -⟩ := B_1192; cases hc_.symm.trans d1_; exact d4_)
        have f_1222 := o_sta_keep f_1198 k_1207 (fun y_ hy_ cl_ hc_ => by rw [List.mem_singleton] at hy_; subst hy_; obtain ⟨c1_, -, d1_, -, -, d4_, -⟩ := B_1192; cases hc_.symm.trans d1_; exact d4_)
        have ne_r0_tv : r0 ≠ tv := Nat.ne_of_lt (Nat.lt_of_lt_of_le f_1199.lt s_1207)
        have ne_r1_tv : r1 ≠ tv := Nat.ne_of_lt (Nat.lt_of_lt_of_le f_1200.lt s_1207)
        have ne_r2_tv : r2 ≠ tv := Nat.ne_of_lt (Nat.lt_of_lt_of_le f_1201.lt s_1207)
        have ne_r3_tv : r3 ≠ tv := Nat.ne_of_lt (Nat.lt_of_lt_of_le f_1202.lt s_1207)
        have ne_r4_tv : r4 ≠ tv := Nat.ne_of_lt (Nat.lt_of_lt_of_le f_1203.lt s_1207)
        have ne_ka_tv : ka ≠ tv := Nat.ne_of_lt (Nat.lt_of_lt_of_le f_1204.lt s_1207)
        have ne_kb_tv : kb ≠ tv := Nat.ne_of_lt (Nat.lt_of_lt_of_le f_1205.lt s_1207)
        have ne_ca_tv : ca ≠ tv := Nat.ne_of_lt (Nat.lt_of_lt_of_le f_1206.lt s_1207)
        show OGo p e below _ n0 _ (T_1207.setTop (mkF m 74 #[.val (.int p0), .val (.int p1), .val (.int p2), .val (.int p3), .val (.ref ka), .val (.ref kb), .val (.int (1 : Int32)), .val (.int (0 : Int32)), .val (.int (1 : Int32)), .val (.ref ca), .unset, .unset, .unset, .unset, .unset, .unset] [(.ref st)]))
        refine o_astore X_1207 K at_74 76 rfl #[.val (.int p0), .val (.int p1), .val (.int p2), .val (.int p3), .val (.ref ka), .val (.ref kb), .val (.int (1 : Int32)), .val (.int (0 : Int32)), .val (.int (1 : Int32)), .val (.ref ca), .val (.ref st), .unset, .unset, .unset, .unset, .unset] rfl rfl ?_
        refine o_new X_1207 K at_76 79 rfl (w_40 hw) (w_41 hw) (w_42 hw) e_1207 (by decide) (by decide) ?_
        intro T_1223 h_1223 bu g_1223 X_1223 e_1223 E_1223 B_1223 D_1223
        have hk_1223 : _ ≤ h_1223.size := Nat.le_trans hk_1207 (E_1223.1)
        have Z_1223 : n0 ≤ h_1223.size := Nat.le_trans Z_1207 E_1223.1
        have f_1224 := Exa.ext E_1223 f_1208
        have f_1225 := Exa.ext E_1223 f_1209
        have f_1226 := Exa.ext E_1223 f_1210
        have f_1227 := Exa.ext E_1223 f_1211
        have f_1228 := Exa.ext E_1223 f_1212
        have f_1229 := Exa.ext E_1223 f_1213
        have f_1230 := Exa.ext E_1223 f_1214
        have f_1231 := f_1215.ext E_1223
        have f_1232 := Exa.ext E_1223 E_1207
        have f_1233 := Sta.ext E_1223 f_1217
        have f_1234 := Sta.ext E_1223 f_1218
        have f_1235 := Sta.ext E_1223 f_1219
        have f_1236 := Sta.ext E_1223 f_1220
        have f_1237 := Sta.ext E_1223 f_1221
        have f_1238 := Sta.ext E_1223 f_1222
        have f_1239 := Fld.ext E_1223 Fc_1207
        have f_1240 := Fld.ext E_1223 Fv_1207
        have f_1241 := A_1207.ext E_1223
        have g_bu : n0 ≤ bu := by rw [g_1223]; exact Z_1207
        have ne_r0_bu : r0 ≠ bu := by rw [g_1223]; exact Nat.ne_of_lt f_1208.lt
        have ne_r1_bu : r1 ≠ bu := by rw [g_1223]; exact Nat.ne_of_lt f_1209.lt
        have ne_r2_bu : r2 ≠ bu := by rw [g_1223]; exact Nat.ne_of_lt f_1210.lt
        have ne_r3_bu : r3 ≠ bu := by rw [g_1223]; exact Nat.ne_of_lt f_1211.lt
        have ne_r4_bu : r4 ≠ bu := by rw [g_1223]; exact Nat.ne_of_lt f_1212.lt
        have ne_ka_bu : ka ≠ bu := by rw [g_1223]; exact Nat.ne_of_lt f_1213.lt
        have ne_kb_bu : kb ≠ bu := by rw [g_1223]; exact Nat.ne_of_lt f_1214.lt
        have ne_ca_bu : ca ≠ bu := by rw [g_1223]; exact Nat.ne_of_lt f_1215.lt
        have ne_st_bu : st ≠ bu := by rw [g_1223]; exact Nat.ne_of_lt E_1207.lt
        have ne_tv_bu : tv ≠ bu := by rw [g_1223]; exact Nat.ne_of_lt A_1207.lt
        have F_kind__1223 : Fld Z h_1223 bu "com/example/dhole/dhole/event/Actor$Builder" "kind" "Lcom/example/dhole/dhole/event/ActorKind;" .null := D_1223 (Or.inl (w_50 hw)) (ty := (.object "com/example/dhole/dhole/event/ActorKind")) (by decide)
        have F_type__1223 : Fld Z h_1223 bu "com/example/dhole/dhole/event/Actor$Builder" "type" "Ljava/lang/String;" .null := D_1223 (Or.inl (w_81 hw)) (ty := (.object "java/lang/String")) (by decide)
        have F_id__1223 : Fld Z h_1223 bu "com/example/dhole/dhole/event/Actor$Builder" "id" "Ljava/lang/String;" .null := D_1223 (Or.inl (w_85 hw)) (ty := (.object "java/lang/String")) (by decide)
        have F_account__1223 : Fld Z h_1223 bu "com/example/dhole/dhole/event/Actor$Builder" "account" "Ljava/lang/String;" .null := D_1223 (Or.inl (w_89 hw)) (ty := (.object "java/lang/String")) (by decide)
        have F_name__1223 : Fld Z h_1223 bu "com/example/dhole/dhole/event/Actor$Builder" "name" "Ljava/lang/String;" .null := D_1223 (Or.inl (w_93 hw)) (ty := (.object "java/lang/String")) (by decide)
        have F_accessKey__1223 : Fld Z h_1223 bu "com/example/dhole/dhole/event/Actor$Builder" "accessKey" "Ljava/lang/String;" .null := D_1223 (Or.inl (w_97 hw)) (ty := (.object "java/lang/String")) (by decide)
        have F_mfa__1223 : Fld Z h_1223 bu "com/example/dhole/dhole/event/Actor$Builder" "mfa" "Ljava/lang/Boolean;" .null := D_1223 (Or.inl (w_101 hw)) (ty := (.object "java/lang/Boolean")) (by decide)
        have F_sessionCreated__1223 : Fld Z h_1223 bu "com/example/dhole/dhole/event/Actor$Builder" "sessionCreated" "Lcom/example/dhole/dhole/event/EventTime;" .null := D_1223 (Or.inl (w_105 hw)) (ty := (.object "com/example/dhole/dhole/event/EventTime")) (by decide)
        refine o_dup X_1223 K at_79 80 rfl rfl ?_
        refine o_invokespecial X_1223 K at_80 83 rfl rfl (w_43 hw) (w_44 hw) (w_42 hw) (w_45 hw) (by decide) [] [(.ref bu)] rfl  (c_binit l Z a0 hw n0 bu r4 h_1223 Z_1223 f_1238 B_1223 F_kind__1223 F_type__1223 F_id__1223 F_account__1223 F_name__1223 F_accessKey__1223 F_mfa__1223 F_sessionCreated__1223 g_bu) e_1223 rfl (lenOf pd___V rfl) (by decide) 1 (Nat.le_of_eq rfl) (by decide) (by decide) (by decide) N_1207 ?_
        rintro _ T_1242 h_1242 locs_1242 X_1242 e_1242 ⟨rfl, k_1242, p_1242f0, p_1242f1, p_1242f2, p_1242f3, p_1242f4, p_1242f5, p_1242f6, p_1242f7, p_1242f8⟩ N_1242
        have hk_1242 : _ ≤ h_1242.size := Nat.le_trans hk_1223 (k_1242.1)
        have Z_1242 : n0 ≤ h_1242.size := Nat.le_trans Z_1223 k_1242.1
        have f_1243 := Exa.keep f_1224 k_1242
        have f_1244 := Exa.keep f_1225 k_1242
        have f_1245 := Exa.keep f_1226 k_1242
        have f_1246 := Exa.keep f_1227 k_1242
        have f_1247 := Exa.keep f_1228 k_1242
        have f_1248 := Exa.keep f_1229 k_1242
        have f_1249 := Exa.keep f_1230 k_1242
        have f_1250 := f_1231.keep k_1242 (ninS ne_ca_bu (nin0))
        have f_1251 := Exa.keep f_1232 k_1242
        have f_1252 := o_sta_keep f_1233 k_1242 (o_plainS B_1223 (o_plain0))
        have f_1253 := o_sta_keep f_1234 k_1242 (o_plainS B_1223 (o_plain0))
        have f_1254 := o_sta_keep f_1235 k_1242 (o_plainS B_1223 (o_plain0))
        have f_1255 := o_sta_keep f_1236 k_1242 (o_plainS B_1223 (o_plain0))
        have f_1256 := o_sta_keep f_1237 k_1242 (o_plainS B_1223 (o_plain0))
        have f_1257 := o_sta_keep f_1238 k_1242 (o_plainS B_1223 (o_plain0))
        have f_1258 := Fld.keep f_1239 k_1242 (ninS ne_st_bu (nin0))
        have f_1259 := Fld.keep f_1240 k_1242 (ninS ne_st_bu (nin0))
        have f_1260 := f_1241.keep k_1242 (ninS ne_tv_bu (nin0))
        have f_1261 := Exa.keep B_1223 k_1242
        show OGo p e below _ n0 _ (T_1242.setTop (mkF m 83 #[.val (.int p0), .val (.int p1), .val (.int p2), .val (.int p3), .val (.ref ka), .val (.ref kb), .val (.int (1 : Int32)), .val (.int (0 : Int32)), .val (.int (1 : Int32)), .val (.ref ca), .val (.ref st), .unset, .unset, .unset, .unset, .unset] [(.ref bu)]))
        refine o_astore X_1242 K at_83 85 rfl #[.val (.int p0), .val (.int p1), .val (.int p2), .val (.int p3), .val (.ref ka), .val (.ref kb), .val (.int (1 : Int32)), .val (.int (0 : Int32)), .val (.int (1 : Int32)), .val (.ref ca), .val (.ref st), .val (.ref bu), .unset, .unset, .unset, .unset] rfl rfl ?_
        refine o_iconst X_1242 K (1 : Int32) at_85 86 rfl rfl ?_
        refine o_istore X_1242 K at_86 88 rfl #[.val (.int p0), .val (.int p1), .val (.int p2), .val (.int p3), .val (.ref ka), .val (.ref kb), .val (.int (1 : Int32)), .val (.int (0 : Int32)), .val (.int (1 : Int32)), .val (.ref ca), .val (.ref st), .val (.ref bu), .val (.int (1 : Int32)), .unset, .unset, .unset] rfl rfl ?_
        refine o_iload X_1242 K at_88 90 rfl rfl ?_
        refine o_if_eq_f X_1242 K at_90 93 rfl (by decide) ?_
        refine o_iload X_1242 K at_93 95 rfl rfl ?_
        refine o_if_eq_f X_1242 K at_95 98 rfl (by decide) ?_
        refine o_aload X_1242 K at_98 100 rfl rfl rfl ?_
        refine o_aload X_1242 K at_100 102 rfl rfl rfl ?_
        refine o_invokevirtualW X_1242 K hS0 hk_1242 at_102 105 rfl (w_51 hw) (w_52 hw) (w_54 hw) (w_53 hw) (w_42 hw) (w_55 hw) (by decide) p_1242f0 [(.ref ka)] [] rfl  (c_kind0 l Z a0 hw n0 bu r4 ka h_1242 Z_1242 p_1242f0 p_1242f1 p_1242f2 p_1242f3 p_1242f4 p_1242f5 p_1242f6 p_1242f7 p_1242f8 g_bu f_1248) e_1242 rfl (lenOf pd__Lcom_example_dhole_dhole_event_ActorKind__Lcom_example_dhole_dhole_event_Actor_Builder_ rfl) (by decide) 0 (Nat.le_of_eq rfl) (by decide) (by decide) (by decide) N_1242 ?_
        rintro _ T_1262 h_1262 locs_1262 k1_1262 X_1262 KW_1262 e_1262 hS_1262 hq_1262 ⟨rfl, k_1262, p_1262f0, p_1262f1, p_1262f2, p_1262f3, p_1262f4, p_1262f5, p_1262f6, p_1262f7, p_1262f8⟩ N_1262
        have Z_1262 : n0 ≤ h_1262.size := Nat.le_trans Z_1242 k_1262.1
        have f_1263 := Exa.keep f_1243 k_1262
        have f_1264 := Exa.keep f_1244 k_1262
        have f_1265 := Exa.keep f_1245 k_1262
        have f_1266 := Exa.keep f_1246 k_1262
        have f_1267 := Exa.keep f_1247 k_1262
        have f_1268 := Exa.keep f_1248 k_1262
        have f_1269 := Exa.keep f_1249 k_1262
        have f_1270 := f_1250.keep k_1262 (ninS ne_ca_bu (nin0))
        have f_1271 := Exa.keep f_1251 k_1262
        have f_1272 := o_sta_keep f_1252 k_1262 (o_plainS p_1242f0 (o_plain0))
        have f_1273 := o_sta_keep f_1253 k_1262 (o_plainS p_1242f0 (o_plain0))
        have f_1274 := o_sta_keep f_1254 k_1262 (o_plainS p_1242f0 (o_plain0))
        have f_1275 := o_sta_keep f_1255 k_1262 (o_plainS p_1242f0 (o_plain0))
        have f_1276 := o_sta_keep f_1256 k_1262 (o_plainS p_1242f0 (o_plain0))
        have f_1277 := o_sta_keep f_1257 k_1262 (o_plainS p_1242f0 (o_plain0))
        have f_1278 := Fld.keep f_1258 k_1262 (ninS ne_st_bu (nin0))
        have f_1279 := Fld.keep f_1259 k_1262 (ninS ne_st_bu (nin0))
        have f_1280 := f_1260.keep k_1262 (ninS ne_tv_bu (nin0))
        have f_1281 := Exa.keep p_1242f0 k_1262
        show OGo p e below _ n0 _ (T_1262.setTop (mkF m 105 #[.val (.int p0), .val (.int p1), .val (.int p2), .val (.int p3), .val (.ref ka), .val (.ref kb), .val (.int (1 : Int32)), .val (.int (0 : Int32)), .val (.int (1 : Int32)), .val (.ref ca), .val (.ref st), .val (.ref bu), .val (.int (1 : Int32)), .unset, .unset, .unset] [(.ref bu)]))
        refine o_aload X_1262 KW_1262 at_105 107 rfl rfl rfl ?_
        refine o_acmp X_1262 KW_1262 at_107 110 rfl rfl true (decide_eq_true rfl) (by decide) (by decide) ?_
        refine o_iconst X_1262 KW_1262 (1 : Int32) at_110 111 rfl rfl ?_
        refine o_goto X_1262 KW_1262 at_111 115 (by decide) (by decide) ?_
        refine o_istore X_1262 KW_1262 at_115 117 rfl #[.val (.int p0), .val (.int p1), .val (.int p2), .val (.int p3), .val (.ref ka), .val (.ref kb), .val (.int (1 : Int32)), .val (.int (0 : Int32)), .val (.int (1 : Int32)), .val (.ref ca), .val (.ref st), .val (.ref bu), .val (.int (1 : Int32)), .unset, .unset, .unset] rfl rfl ?_
        refine o_iload X_1262 KW_1262 at_117 119 rfl rfl ?_
        refine o_if_eq_t X_1262 KW_1262 at_119 130 (by decide) (by decide) (by decide) ?_
        refine o_iload X_1262 KW_1262 at_130 132 rfl rfl ?_
        refine o_if_eq_f X_1262 KW_1262 at_132 135 rfl (by decide) ?_
        refine o_iload X_1262 KW_1262 at_135 137 rfl rfl ?_
        refine o_if_eq_f X_1262 KW_1262 at_137 140 rfl (by decide) ?_
        refine o_aload X_1262 KW_1262 at_140 142 rfl rfl rfl ?_
        refine o_aload X_1262 KW_1262 at_142 144 rfl rfl rfl ?_
        refine o_invokevirtualW X_1262 KW_1262 hS_1262 hq_1262 at_144 147 rfl (w_51 hw) (w_52 hw) (w_54 hw) (w_53 hw) (w_42 hw) (w_55 hw) (by decide) p_1262f0 [(.ref kb)] [] rfl  (c_kind0 l Z a0 hw n0 bu ka kb h_1262 Z_1262 p_1262f0 p_1262f1 p_1262f2 p_1262f3 p_1262f4 p_1262f5 p_1262f6 p_1262f7 p_1262f8 g_bu f_1269) e_1262 rfl (lenOf pd__Lcom_example_dhole_dhole_event_ActorKind__Lcom_example_dhole_dhole_event_Actor_Builder_ rfl) (by decide) 0 (Nat.le_of_eq rfl) (by decide) (by decide) (by decide) N_1262 ?_
        rintro _ T_1282 h_1282 locs_1282 k1_1282 X_1282 KW_1282 e_1282 hS_1282 hq_1282 ⟨rfl, k_1282, p_1282f0, p_1282f1, p_1282f2, p_1282f3, p_1282f4, p_1282f5, p_1282f6, p_1282f7, p_1282f8⟩ N_1282
        have Z_1282 : n0 ≤ h_1282.size := Nat.le_trans Z_1262 k_1282.1
        have f_1283 := Exa.keep f_1263 k_1282
        have f_1284 := Exa.keep f_1264 k_1282
        have f_1285 := Exa.keep f_1265 k_1282
        have f_1286 := Exa.keep f_1266 k_1282
        have f_1287 := Exa.keep f_1267 k_1282
        have f_1288 := Exa.keep f_1268 k_1282
        have f_1289 := Exa.keep f_1269 k_1282
        have f_1290 := f_1270.keep k_1282 (ninS ne_ca_bu (nin0))
        have f_1291 := Exa.keep f_1271 k_1282
        have f_1292 := o_sta_keep f_1272 k_1282 (o_plainS p_1262f0 (o_plain0))
        have f_1293 := o_sta_keep f_1273 k_1282 (o_plainS p_1262f0 (o_plain0))
        have f_1294 := o_sta_keep f_1274 k_1282 (o_plainS p_1262f0 (o_plain0))
        have f_1295 := o_sta_keep f_1275 k_1282 (o_plainS p_1262f0 (o_plain0))
        have f_1296 := o_sta_keep f_1276 k_1282 (o_plainS p_1262f0 (o_plain0))
        have f_1297 := o_sta_keep f_1277 k_1282 (o_plainS p_1262f0 (o_plain0))
        have f_1298 := Fld.keep f_1278 k_1282 (ninS ne_st_bu (nin0))
        have f_1299 := Fld.keep f_1279 k_1282 (ninS ne_st_bu (nin0))
        have f_1300 := f_1280.keep k_1282 (ninS ne_tv_bu (nin0))
        have f_1301 := Exa.keep p_1262f0 k_1282
        show OGo p e below _ n0 _ (T_1282.setTop (mkF m 147 #[.val (.int p0), .val (.int p1), .val (.int p2), .val (.int p3), .val (.ref ka), .val (.ref kb), .val (.int (1 : Int32)), .val (.int (0 : Int32)), .val (.int (1 : Int32)), .val (.ref ca), .val (.ref st), .val (.ref bu), .val (.int (1 : Int32)), .unset, .unset, .unset] [(.ref bu)]))
        refine o_aload X_1282 KW_1282 at_147 149 rfl rfl rfl ?_
        refine o_acmp X_1282 KW_1282 at_149 152 rfl rfl true (decide_eq_true rfl) (by decide) (by decide) ?_
        refine o_iconst X_1282 KW_1282 (1 : Int32) at_152 153 rfl rfl ?_
        refine o_goto X_1282 KW_1282 at_153 157 (by decide) (by decide) ?_
        refine o_istore X_1282 KW_1282 at_157 159 rfl #[.val (.int p0), .val (.int p1), .val (.int p2), .val (.int p3), .val (.ref ka), .val (.ref kb), .val (.int (1 : Int32)), .val (.int (0 : Int32)), .val (.int (1 : Int32)), .val (.ref ca), .val (.ref st), .val (.ref bu), .val (.int (1 : Int32)), .unset, .unset, .unset] rfl rfl ?_
        refine o_aload X_1282 KW_1282 at_159 161 rfl rfl rfl ?_
        refine o_invokevirtual X_1282 KW_1282 at_161 164 rfl (w_65 hw) (w_66 hw) (w_68 hw) (w_67 hw) (w_42 hw) (w_69 hw) (by decide) p_1282f0 [] [] rfl  (c_build0 l Z a0 hw n0 bu kb h_1282 Z_1282 p_1282f0 p_1282f1 p_1282f2 p_1282f3 p_1282f4 p_1282f5 p_1282f6 p_1282f7 p_1282f8) e_1282 rfl (lenOf pd___Lcom_example_dhole_dhole_event_Actor_ rfl) (by decide) 0 (Nat.le_of_eq rfl) (by decide) (by decide) (by decide) N_1282 ?_
        rintro _ T_1302 h_1302 locs_1302 X_1302 e_1302 ⟨xa, rfl, k_1302, gg_1302_x, sz_1302_x, p_1302f0, p_1302f1, p_1302f2, p_1302f3⟩ N_1302
        have hk_1302 : _ ≤ h_1302.size := Nat.le_trans hq_1282 (k_1302.1)
        have Z_1302 : n0 ≤ h_1302.size := Nat.le_trans Z_1282 k_1302.1
        have f_1303 := Exa.keep f_1283 k_1302
        have f_1304 := Exa.keep f_1284 k_1302
        have f_1305 := Exa.keep f_1285 k_1302
        have f_1306 := Exa.keep f_1286 k_1302
        have f_1307 := Exa.keep f_1287 k_1302
        have f_1308 := Exa.keep f_1288 k_1302
        have f_1309 := Exa.keep f_1289 k_1302
        have f_1310 := f_1290.keep k_1302 (nin0)
        have f_1311 := Exa.keep f_1291 k_1302
        have f_1312 := o_sta_keep f_1292 k_1302 (o_plain0)
        have f_1313 := o_sta_keep f_1293 k_1302 (o_plain0)
        have f_1314 := o_sta_keep f_1294 k_1302 (o_plain0)
        have f_1315 := o_sta_keep f_1295 k_1302 (o_plain0)
        have f_1316 := o_sta_keep f_1296 k_1302 (o_plain0)
        have f_1317 := o_sta_keep f_1297 k_1302 (o_plain0)
        have f_1318 := Fld.keep f_1298 k_1302 (nin0)
        have f_1319 := Fld.keep f_1299 k_1302 (nin0)
        have f_1320 := f_1300.keep k_1302 (nin0)
        have f_1321 := Exa.keep p_1282f0 k_1302
        have f_1322 := Fld.keep p_1282f1 k_1302 (nin0)
        have f_1323 := Fld.keep p_1282f2 k_1302 (nin0)
        have f_1324 := Fld.keep p_1282f3 k_1302 (nin0)
        have f_1325 := Fld.keep p_1282f4 k_1302 (nin0)
        have f_1326 := Fld.keep p_1282f5 k_1302 (nin0)
        have f_1327 := Fld.keep p_1282f6 k_1302 (nin0)
        have f_1328 := Fld.keep p_1282f7 k_1302 (nin0)
        have f_1329 := Fld.keep p_1282f8 k_1302 (nin0)
        have ne_r0_xa : r0 ≠ xa := Nat.ne_of_lt (Nat.lt_of_lt_of_le f_1283.lt sz_1302_x)
        have ne_r1_xa : r1 ≠ xa := Nat.ne_of_lt (Nat.lt_of_lt_of_le f_1284.lt sz_1302_x)
        have ne_r2_xa : r2 ≠ xa := Nat.ne_of_lt (Nat.lt_of_lt_of_le f_1285.lt sz_1302_x)
        have ne_r3_xa : r3 ≠ xa := Nat.ne_of_lt (Nat.lt_of_lt_of_le f_1286.lt sz_1302_x)
        have ne_r4_xa : r4 ≠ xa := Nat.ne_of_lt (Nat.lt_of_lt_of_le f_1287.lt sz_1302_x)
        have ne_ka_xa : ka ≠ xa := Nat.ne_of_lt (Nat.lt_of_lt_of_le f_1288.lt sz_1302_x)
        have ne_kb_xa : kb ≠ xa := Nat.ne_of_lt (Nat.lt_of_lt_of_le f_1289.lt sz_1302_x)
        have ne_ca_xa : ca ≠ xa := Nat.ne_of_lt (Nat.lt_of_lt_of_le f_1290.lt sz_1302_x)
        have ne_st_xa : st ≠ xa := Nat.ne_of_lt (Nat.lt_of_lt_of_le f_1291.lt sz_1302_x)
        have ne_tv_xa : tv ≠ xa := Nat.ne_of_lt (Nat.lt_of_lt_of_le f_1300.lt sz_1302_x)
        have ne_bu_xa : bu ≠ xa := Nat.ne_of_lt (Nat.lt_of_lt_of_le p_1282f0.lt sz_1302_x)
        show OGo p e below _ n0 _ (T_1302.setTop (mkF m 164 #[.val (.int p0), .val (.int p1), .val (.int p2), .val (.int p3), .val (.ref ka), .val (.ref kb), .val (.int (1 : Int32)), .val (.int (0 : Int32)), .val (.int (1 : Int32)), .val (.ref ca), .val (.ref st), .val (.ref bu), .val (.int (1 : Int32)), .unset, .unset, .unset] [(.ref xa)]))
        refine o_astore X_1302 KW_1282 at_164 166 rfl #[.val (.int p0), .val (.int p1), .val (.int p2), .val (.int p3), .val (.ref ka), .val (.ref kb), .val (.int (1 : Int32)), .val (.int (0 : Int32)), .val (.int (1 : Int32)), .val (.ref ca), .val (.ref st), .val (.ref bu), .val (.int (1 : Int32)), .val (.ref xa), .unset, .unset] rfl rfl ?_
        refine o_iload X_1302 KW_1282 at_166 168 rfl rfl ?_
        refine o_if_eq_f X_1302 KW_1282 at_168 171 rfl (by decide) ?_
        refine o_aload X_1302 KW_1282 at_171 173 rfl rfl rfl ?_
        refine o_astore X_1302 KW_1282 at_173 175 rfl #[.val (.int p0), .val (.int p1), .val (.int p2), .val (.int p3), .val (.ref ka), .val (.ref kb), .val (.int (1 : Int32)), .val (.int (0 : Int32)), .val (.int (1 : Int32)), .val (.ref ca), .val (.ref st), .val (.ref bu), .val (.int (1 : Int32)), .val (.ref xa), .val (.ref kb), .unset] rfl rfl ?_
        refine o_goto X_1302 KW_1282 at_175 195 (by decide) (by decide) ?_
        refine o_iload X_1302 KW_1282 at_195 197 rfl rfl ?_
        refine o_if_eq_t X_1302 KW_1282 at_197 215 (by decide) (by decide) (by decide) ?_
        refine o_aload X_1302 KW_1282 at_215 217 rfl rfl rfl ?_
        refine o_invokevirtual X_1302 KW_1282 at_217 220 rfl (w_108 hw) (w_109 hw) (w_111 hw) (w_110 hw) (w_72 hw) (w_112 hw) (by decide) p_1302f0 [] [] rfl  (c_atype0 l Z a0 hw n0 xa h_1302 Z_1302 p_1302f2) e_1302 rfl (lenOf pd___Ljava_lang_String_ rfl) (by decide) 0 (Nat.le_of_eq rfl) (by decide) (by decide) (by decide) N_1302 ?_
        rintro _ T_1330 h_1330 locs_1330 X_1330 q_1330 ⟨rfl, r_1330⟩ N_1330
        have e_1330 := q_1330.trans r_1330
        show OGo p e below _ n0 _ (T_1330.setTop (mkF m 220 #[.val (.int p0), .val (.int p1), .val (.int p2), .val (.int p3), .val (.ref ka), .val (.ref kb), .val (.int (1 : Int32)), .val (.int (0 : Int32)), .val (.int (1 : Int32)), .val (.ref ca), .val (.ref st), .val (.ref bu), .val (.int (1 : Int32)), .val (.ref xa), .val (.ref kb), .unset] [.null]))
        refine o_ifnonnull_f X_1330 KW_1282 at_220 223 rfl ?_
        refine o_iconst X_1330 KW_1282 (1 : Int32) at_223 224 rfl rfl ?_
        refine o_goto X_1330 KW_1282 at_224 228 (by decide) (by decide) ?_
        refine o_istore X_1330 KW_1282 at_228 230 rfl #[.val (.int p0), .val (.int p1), .val (.int p2), .val (.int p3), .val (.ref ka), .val (.ref kb), .val (.int (1 : Int32)), .val (.int (0 : Int32)), .val (.int (1 : Int32)), .val (.ref ca), .val (.ref st), .val (.ref bu), .val (.int (1 : Int32)), .val (.ref xa), .val (.ref kb), .val (.int (1 : Int32))] rfl rfl ?_
        refine o_iload X_1330 KW_1282 at_230 232 rfl rfl ?_
        refine o_if_eq_f X_1330 KW_1282 at_232 235 rfl (by decide) ?_
        refine o_aload X_1330 KW_1282 at_235 237 rfl rfl rfl ?_
        refine o_invokevirtual X_1330 KW_1282 at_237 240 rfl (w_113 hw) (w_114 hw) (w_116 hw) (w_115 hw) (w_72 hw) (w_117 hw) (by decide) p_1302f0 [] [] rfl  (c_akind l Z a0 hw n0 xa kb h_1302 Z_1302 p_1302f1) e_1330 rfl (lenOf pd___Lcom_example_dhole_dhole_event_ActorKind_ rfl) (by decide) 0 (Nat.le_of_eq rfl) (by decide) (by decide) (by decide) N_1330 ?_
        rintro _ T_1331 h_1331 locs_1331 X_1331 q_1331 ⟨rfl, r_1331⟩ N_1331
        have e_1331 := q_1331.trans r_1331
        show OGo p e below _ n0 _ (T_1331.setTop (mkF m 240 #[.val (.int p0), .val (.int p1), .val (.int p2), .val (.int p3), .val (.ref ka), .val (.ref kb), .val (.int (1 : Int32)), .val (.int (0 : Int32)), .val (.int (1 : Int32)), .val (.ref ca), .val (.ref st), .val (.ref bu), .val (.int (1 : Int32)), .val (.ref xa), .val (.ref kb), .val (.int (1 : Int32))] [(.ref kb)]))
        refine o_aload X_1331 KW_1282 at_240 242 rfl rfl rfl ?_
        refine o_acmp X_1331 KW_1282 at_242 245 rfl rfl true (decide_eq_true rfl) (by decide) (by decide) ?_
        refine o_iload X_1331 KW_1282 at_245 247 rfl rfl ?_
        refine o_if_eq_f X_1331 KW_1282 at_247 250 rfl (by decide) ?_
        refine o_aload X_1331 KW_1282 at_250 252 rfl rfl rfl ?_
        refine o_invokevirtual X_1331 KW_1282 at_252 255 rfl (w_118 hw) (w_119 hw) (w_121 hw) (w_120 hw) (w_72 hw) (w_122 hw) (by decide) p_1302f0 [] [] rfl  (c_amfa l Z a0 hw n0 xa h_1302 Z_1302 p_1302f3) e_1331 rfl (lenOf pd___Ljava_lang_Boolean_ rfl) (by decide) 0 (Nat.le_of_eq rfl) (by decide) (by decide) (by decide) N_1331 ?_
        rintro _ T_1332 h_1332 locs_1332 X_1332 q_1332 ⟨rfl, r_1332⟩ N_1332
        have e_1332 := q_1332.trans r_1332
        show OGo p e below _ n0 _ (T_1332.setTop (mkF m 255 #[.val (.int p0), .val (.int p1), .val (.int p2), .val (.int p3), .val (.ref ka), .val (.ref kb), .val (.int (1 : Int32)), .val (.int (0 : Int32)), .val (.int (1 : Int32)), .val (.ref ca), .val (.ref st), .val (.ref bu), .val (.int (1 : Int32)), .val (.ref xa), .val (.ref kb), .val (.int (1 : Int32))] [.null]))
        refine o_ifnonnull_f X_1332 KW_1282 at_255 258 rfl ?_
        refine o_iconst X_1332 KW_1282 (1 : Int32) at_258 259 rfl rfl ?_
        refine o_goto X_1332 KW_1282 at_259 263 (by decide) (by decide) ?_
        refine o_ireturnNW X_1332 hS_1282 e_1332 hk_1302 KW_1282 (by decide) at_263 (by decide) (by decide) N_1332 ?_
        exact rfl
    · refine o_iconst X_414 K (1 : Int32) at_31 32 rfl rfl ?_
      refine o_goto X_414 K at_32 36 (by decide) (by decide) ?_
      refine o_istore X_414 K at_36 38 rfl #[.val (.int p0), .val (.int p1), .val (.int p2), .val (.int p3), .val (.ref ka), .val (.ref kb), .val (.int (1 : Int32)), .val (.int (1 : Int32)), .unset, .unset, .unset, .unset, .unset, .unset, .unset, .unset] rfl rfl ?_
      refine o_iloadN X_414 K at_38 39 rfl rfl ?_
      refine o_iconst X_414 K (4 : Int32) at_39 40 rfl rfl ?_
      refine o_iand X_414 K at_40 41 rfl ?_
      refine o_if_eq X_414 K at_41 48 (by decide) (by decide) 44 rfl (fun hc41 => ?_) (fun hc41 => ?_)
      · refine o_iconst X_414 K (0 : Int32) at_48 49 rfl rfl ?_
        refine o_istore X_414 K at_49 51 rfl #[.val (.int p0), .val (.int p1), .val (.int p2), .val (.int p3), .val (.ref ka), .val (.ref kb), .val (.int (1 : Int32)), .val (.int (1 : Int32)), .val (.int (0 : Int32)), .unset, .unset, .unset, .unset, .unset, .unset, .unset] rfl rfl ?_
        refine o_iconst X_414 K (1 : Int32) at_51 52 rfl rfl ?_
        refine o_newarray X_414 K (n := 1) at_52 54 rfl (w_10 hw) e_414 (by decide) 1 (by decide) (by decide) (by decide) (by decide) rfl ?_
        intro T_1333 h_1333 ca g_1333 X_1333 e_1333 E_1333 A_1333
        dsimp only [newarray.typeOf, defaultValue] at A_1333
        have hk_1333 : _ ≤ h_1333.size := Nat.le_trans hk0 (E_1333.1)
        have Z_1333 : n0 ≤ h_1333.size := Nat.le_trans Z0 E_1333.1
        have f_1334 := Sta.ext E_1333 S_COMPACT_STRINGS
        have f_1335 := Sta.ext E_1333 S_ROOT
        have f_1336 := Sta.ext E_1333 S_USER
        have f_1337 := Sta.ext E_1333 S_ROLE
        have f_1338 := Sta.ext E_1333 S_SERVICE
        have f_1339 := Sta.ext E_1333 S_UNKNOWN
        have f_1340 := Exa.ext E_1333 E_r0
        have f_1341 := Exa.ext E_1333 E_r1
        have f_1342 := Exa.ext E_1333 E_r2
        have f_1343 := Exa.ext E_1333 E_r3
        have f_1344 := Exa.ext E_1333 E_r4
        have f_1345 := Exa.ext E_1333 E_413
        have f_1346 := Exa.ext E_1333 E_414
        have g_ca : n0 ≤ ca := by rw [g_1333]; exact Z0
        have ne_r0_ca : r0 ≠ ca := by rw [g_1333]; exact Nat.ne_of_lt E_r0.lt
        have ne_r1_ca : r1 ≠ ca := by rw [g_1333]; exact Nat.ne_of_lt E_r1.lt
        have ne_r2_ca : r2 ≠ ca := by rw [g_1333]; exact Nat.ne_of_lt E_r2.lt
        have ne_r3_ca : r3 ≠ ca := by rw [g_1333]; exact Nat.ne_of_lt E_r3.lt
        have ne_r4_ca : r4 ≠ ca := by rw [g_1333]; exact Nat.ne_of_lt E_r4.lt
        have ne_ka_ca : ka ≠ ca := by rw [g_1333]; exact Nat.ne_of_lt E_413.lt
        have ne_kb_ca : kb ≠ ca := by rw [g_1333]; exact Nat.ne_of_lt E_414.lt
        refine o_dup X_1333 K at_54 55 rfl rfl ?_
        refine o_iconst X_1333 K (0 : Int32) at_55 56 rfl rfl ?_
        refine o_iloadN X_1333 K at_56 57 rfl rfl ?_
        refine o_sipush X_1333 K (255 : Int32) at_57 60 rfl rfl ?_
        refine o_iand X_1333 K at_60 61 rfl ?_
        refine o_i2c X_1333 K at_61 62 rfl ?_
        refine o_castore X_1333 K (i := 0) (x' := ((p2 &&& (255 : Int32)).toUInt32.toUInt16.toUInt32.toInt32)) at_62 63 rfl e_1333 A_1333 (by decide) (by decide) (o_nc _) N_414 g_ca ?_
        intro T_1347 h_1347 locs_1347 X_1347 e_1347 W_1347 A_1347 N_1347
        have hk_1347 : _ ≤ h_1347.size := Nat.le_trans hk_1333 (Nat.le_of_eq (Wr.size W_1347).symm)
        have Z_1347 : n0 ≤ h_1347.size := by rw [Wr.size W_1347]; exact Z_1333
        have f_1348 := Sta.wr W_1347 f_1334
        have f_1349 := Sta.wr W_1347 f_1335
        have f_1350 := Sta.wr W_1347 f_1336
        have f_1351 := Sta.wr W_1347 f_1337
        have f_1352 := Sta.wr W_1347 f_1338
        have f_1353 := Sta.wr W_1347 f_1339
        have f_1354 := Exa.wr W_1347 f_1340
        have f_1355 := Exa.wr W_1347 f_1341
        have f_1356 := Exa.wr W_1347 f_1342
        have f_1357 := Exa.wr W_1347 f_1343
        have f_1358 := Exa.wr W_1347 f_1344
        have f_1359 := Exa.wr W_1347 f_1345
        have f_1360 := Exa.wr W_1347 f_1346
        refine o_astore X_1347 K at_63 65 rfl #[.val (.int p0), .val (.int p1), .val (.int p2), .val (.int p3), .val (.ref ka), .val (.ref kb), .val (.int (1 : Int32)), .val (.int (1 : Int32)), .val (.int (0 : Int32)), .val (.ref ca), .unset, .unset, .unset, .unset, .unset, .unset] rfl rfl ?_
        refine o_new X_1347 K at_65 68 rfl (w_11 hw) (w_12 hw) (w_13 hw) e_1347 (by decide) (by decide) ?_
        intro T_1361 h_1361 st g_1361 X_1361 e_1361 E_1361 B_1361 D_1361
        have hk_1361 : _ ≤ h_1361.size := Nat.le_trans hk_1347 (E_1361.1)
        have Z_1361 : n0 ≤ h_1361.size := Nat.le_trans Z_1347 E_1361.1
        have f_1362 := Sta.ext E_1361 f_1348
        have f_1363 := Sta.ext E_1361 f_1349
        have f_1364 := Sta.ext E_1361 f_1350
        have f_1365 := Sta.ext E_1361 f_1351
        have f_1366 := Sta.ext E_1361 f_1352
        have f_1367 := Sta.ext E_1361 f_1353
        have f_1368 := Exa.ext E_1361 f_1354
        have f_1369 := Exa.ext E_1361 f_1355
        have f_1370 := Exa.ext E_1361 f_1356
        have f_1371 := Exa.ext E_1361 f_1357
        have f_1372 := Exa.ext E_1361 f_1358
        have f_1373 := Exa.ext E_1361 f_1359
        have f_1374 := Exa.ext E_1361 f_1360
        have f_1375 := A_1347.ext E_1361
        have g_st : n0 ≤ st := by rw [g_1361]; exact Z_1347
        have ne_r0_st : r0 ≠ st := by rw [g_1361]; exact Nat.ne_of_lt f_1354.lt
        have ne_r1_st : r1 ≠ st := by rw [g_1361]; exact Nat.ne_of_lt f_1355.lt
        have ne_r2_st : r2 ≠ st := by rw [g_1361]; exact Nat.ne_of_lt f_1356.lt
        have ne_r3_st : r3 ≠ st := by rw [g_1361]; exact Nat.ne_of_lt f_1357.lt
        have ne_r4_st : r4 ≠ st := by rw [g_1361]; exact Nat.ne_of_lt f_1358.lt
        have ne_ka_st : ka ≠ st := by rw [g_1361]; exact Nat.ne_of_lt f_1359.lt
        have ne_kb_st : kb ≠ st := by rw [g_1361]; exact Nat.ne_of_lt f_1360.lt
        have ne_ca_st : ca ≠ st := by rw [g_1361]; exact Nat.ne_of_lt A_1347.lt
        have F_coder__1361 : Fld Z h_1361 st "java/lang/String" "coder" "B" (.int (0 : Int32)) := D_1361 (Or.inr (w_37 hw)) (ty := .byte) (by decide)
        have F_value__1361 : Fld Z h_1361 st "java/lang/String" "value" "[B" .null := D_1361 (Or.inr (w_39 hw)) (ty := (.array .byte)) (by decide)
        refine o_dup X_1361 K at_68 69 rfl rfl ?_
        refine o_aload X_1361 K at_69 71 rfl rfl rfl ?_
        refine o_strinit X_1361 K (cs := [((p2 &&& (255 : Int32)).toUInt32.toUInt16.toUInt32.toInt32)]) at_71 74 rfl (w_14 hw) (w_15 hw) (w_16 hw) (hws_ hw) (w_12 hw) e_1361 Z_1361 g_st B_1361 F_value__1361 F_coder__1361 f_1375 f_1362 hcs rfl (fun j hj => by rcases (by omega : j = 0) with rfl <;> rfl) (by decide) (by decide) (o_all1 (o_and255 _)) rfl N_1347 (by decide) 1 (Nat.le_of_eq rfl) (by decide) (by decide) (by decide) ?_
        intro T_1376 h_1376 locs_1376 tv X_1376 e_1376 k_1376 E_1376 Fc_1376 g_1376 s_1376 ne_tv_st Fv_1376 A_1376 N_1376
        have hk_1376 : _ ≤ h_1376.size := Nat.le_trans hk_1361 (k_1376.1)
        have Z_1376 : n0 ≤ h_1376.size := Nat.le_trans Z_1361 k_1376.1
        have f_1377 := Exa.keep f_1368 k_1376
        have f_1378 := Exa.keep f_1369 k_1376
        have f_1379 := Exa.keep f_1370 k_1376
        have f_1380 := Exa.keep f_1371 k_1376
        have f_1381 := Exa.keep f_1372 k_1376
        have f_1382 := Exa.keep f_1373 k_1376
        have f_1383 := Exa.keep f_1374 k_1376
        have f_1384 := f_1375.keep k_1376 (ninS ne_ca_st (nin0))
        have f_1385 := Exa.keep B_1361 k_1376
        have f_1386 := o_sta_keep f_1362 k_1376 (fun y_ hy_ cl_ hc_ => by rw [List.mem_singleton] at hy_; subst hy_; obtain ⟨c1_, -, d1_, -, -, d4_, -⟩ := B_1361; cases hc_.symm.trans d1_; exact d4_)
        have f_1387 := o_sta_keep f_1363 k_1376 (fun y_ hy_ cl_ hc_ => by rw [List.mem_singleton] at hy_; subst hy_; obtain ⟨c1_, -, d1_, -, -, d4_, -⟩ := B_1361; cases hc_.symm.trans d1_; exact d4_)
        have f_1388 := o_sta_keep f_1364 k_1376 (fun y_ hy_ cl_ hc_ => by rw [List.mem_singleton] at hy_; subst hy_; obtain ⟨c1_, -, d1_, -, -, d4_, -⟩ := B_1361; cases hc_.symm.trans d1_; exact d4_)
        have f_1389 := o_sta_keep f_1365 k_1376 (fun y_ hy_ cl_ hc_ => by rw [List.mem_singleton] at hy_; subst hy_; obtain ⟨c1_, -, d1_, -, -, d4_, -⟩ := B_1361; cases hc_.symm.trans d1_; exact d4_)
        have f_1390 := o_sta_keep f_1366 k_1376 (fun y_ hy_ cl_ hc_ => by rw [List.mem_singleton] at hy_; subst hy_; obtain ⟨c1_, -, d1_, -, -, d4_, -⟩ := B_1361; cases hc_.symm.trans d1_; exact d4_)
        have f_1391 := o_sta_keep f_1367 k_1376 (fun y_ hy_ cl_ hc_ => by rw [List.mem_singleton] at hy_; subst hy_; obtain ⟨c1_, -, d1_, -, -, d4_, -⟩ := B_1361; cases hc_.symm.trans d1_; exact d4_)
        have ne_r0_tv : r0 ≠ tv := Nat.ne_of_lt (Nat.lt_of_lt_of_le f_1368.lt s_1376)
        have ne_r1_tv : r1 ≠ tv := Nat.ne_of_lt (Nat.lt_of_lt_of_le f_1369.lt s_1376)
        have ne_r2_tv : r2 ≠ tv := Nat.ne_of_lt (Nat.lt_of_lt_of_le f_1370.lt s_1376)
        have ne_r3_tv : r3 ≠ tv := Nat.ne_of_lt (Nat.lt_of_lt_of_le f_1371.lt s_1376)
        have ne_r4_tv : r4 ≠ tv := Nat.ne_of_lt (Nat.lt_of_lt_of_le f_1372.lt s_1376)
        have ne_ka_tv : ka ≠ tv := Nat.ne_of_lt (Nat.lt_of_lt_of_le f_1373.lt s_1376)
        have ne_kb_tv : kb ≠ tv := Nat.ne_of_lt (Nat.lt_of_lt_of_le f_1374.lt s_1376)
        have ne_ca_tv : ca ≠ tv := Nat.ne_of_lt (Nat.lt_of_lt_of_le f_1375.lt s_1376)
        show OGo p e below _ n0 _ (T_1376.setTop (mkF m 74 #[.val (.int p0), .val (.int p1), .val (.int p2), .val (.int p3), .val (.ref ka), .val (.ref kb), .val (.int (1 : Int32)), .val (.int (1 : Int32)), .val (.int (0 : Int32)), .val (.ref ca), .unset, .unset, .unset, .unset, .unset, .unset] [(.ref st)]))
        refine o_astore X_1376 K at_74 76 rfl #[.val (.int p0), .val (.int p1), .val (.int p2), .val (.int p3), .val (.ref ka), .val (.ref kb), .val (.int (1 : Int32)), .val (.int (1 : Int32)), .val (.int (0 : Int32)), .val (.ref ca), .val (.ref st), .unset, .unset, .unset, .unset, .unset] rfl rfl ?_
        refine o_new X_1376 K at_76 79 rfl (w_40 hw) (w_41 hw) (w_42 hw) e_1376 (by decide) (by decide) ?_
        intro T_1392 h_1392 bu g_1392 X_1392 e_1392 E_1392 B_1392 D_1392
        have hk_1392 : _ ≤ h_1392.size := Nat.le_trans hk_1376 (E_1392.1)
        have Z_1392 : n0 ≤ h_1392.size := Nat.le_trans Z_1376 E_1392.1
        have f_1393 := Exa.ext E_1392 f_1377
        have f_1394 := Exa.ext E_1392 f_1378
        have f_1395 := Exa.ext E_1392 f_1379
        have f_1396 := Exa.ext E_1392 f_1380
        have f_1397 := Exa.ext E_1392 f_1381
        have f_1398 := Exa.ext E_1392 f_1382
        have f_1399 := Exa.ext E_1392 f_1383
        have f_1400 := f_1384.ext E_1392
        have f_1401 := Exa.ext E_1392 E_1376
        have f_1402 := Sta.ext E_1392 f_1386
        have f_1403 := Sta.ext E_1392 f_1387
        have f_1404 := Sta.ext E_1392 f_1388
        have f_1405 := Sta.ext E_1392 f_1389
        have f_1406 := Sta.ext E_1392 f_1390
        have f_1407 := Sta.ext E_1392 f_1391
        have f_1408 := Fld.ext E_1392 Fc_1376
        have f_1409 := Fld.ext E_1392 Fv_1376
        have f_1410 := A_1376.ext E_1392
        have g_bu : n0 ≤ bu := by rw [g_1392]; exact Z_1376
        have ne_r0_bu : r0 ≠ bu := by rw [g_1392]; exact Nat.ne_of_lt f_1377.lt
        have ne_r1_bu : r1 ≠ bu := by rw [g_1392]; exact Nat.ne_of_lt f_1378.lt
        have ne_r2_bu : r2 ≠ bu := by rw [g_1392]; exact Nat.ne_of_lt f_1379.lt
        have ne_r3_bu : r3 ≠ bu := by rw [g_1392]; exact Nat.ne_of_lt f_1380.lt
        have ne_r4_bu : r4 ≠ bu := by rw [g_1392]; exact Nat.ne_of_lt f_1381.lt
        have ne_ka_bu : ka ≠ bu := by rw [g_1392]; exact Nat.ne_of_lt f_1382.lt
        have ne_kb_bu : kb ≠ bu := by rw [g_1392]; exact Nat.ne_of_lt f_1383.lt
        have ne_ca_bu : ca ≠ bu := by rw [g_1392]; exact Nat.ne_of_lt f_1384.lt
        have ne_st_bu : st ≠ bu := by rw [g_1392]; exact Nat.ne_of_lt E_1376.lt
        have ne_tv_bu : tv ≠ bu := by rw [g_1392]; exact Nat.ne_of_lt A_1376.lt
        have F_kind__1392 : Fld Z h_1392 bu "com/example/dhole/dhole/event/Actor$Builder" "kind" "Lcom/example/dhole/dhole/event/ActorKind;" .null := D_1392 (Or.inl (w_50 hw)) (ty := (.object "com/example/dhole/dhole/event/ActorKind")) (by decide)
        have F_type__1392 : Fld Z h_1392 bu "com/example/dhole/dhole/event/Actor$Builder" "type" "Ljava/lang/String;" .null := D_1392 (Or.inl (w_81 hw)) (ty := (.object "java/lang/String")) (by decide)
        have F_id__1392 : Fld Z h_1392 bu "com/example/dhole/dhole/event/Actor$Builder" "id" "Ljava/lang/String;" .null := D_1392 (Or.inl (w_85 hw)) (ty := (.object "java/lang/String")) (by decide)
        have F_account__1392 : Fld Z h_1392 bu "com/example/dhole/dhole/event/Actor$Builder" "account" "Ljava/lang/String;" .null := D_1392 (Or.inl (w_89 hw)) (ty := (.object "java/lang/String")) (by decide)
        have F_name__1392 : Fld Z h_1392 bu "com/example/dhole/dhole/event/Actor$Builder" "name" "Ljava/lang/String;" .null := D_1392 (Or.inl (w_93 hw)) (ty := (.object "java/lang/String")) (by decide)
        have F_accessKey__1392 : Fld Z h_1392 bu "com/example/dhole/dhole/event/Actor$Builder" "accessKey" "Ljava/lang/String;" .null := D_1392 (Or.inl (w_97 hw)) (ty := (.object "java/lang/String")) (by decide)
        have F_mfa__1392 : Fld Z h_1392 bu "com/example/dhole/dhole/event/Actor$Builder" "mfa" "Ljava/lang/Boolean;" .null := D_1392 (Or.inl (w_101 hw)) (ty := (.object "java/lang/Boolean")) (by decide)
        have F_sessionCreated__1392 : Fld Z h_1392 bu "com/example/dhole/dhole/event/Actor$Builder" "sessionCreated" "Lcom/example/dhole/dhole/event/EventTime;" .null := D_1392 (Or.inl (w_105 hw)) (ty := (.object "com/example/dhole/dhole/event/EventTime")) (by decide)
        refine o_dup X_1392 K at_79 80 rfl rfl ?_
        refine o_invokespecial X_1392 K at_80 83 rfl rfl (w_43 hw) (w_44 hw) (w_42 hw) (w_45 hw) (by decide) [] [(.ref bu)] rfl  (c_binit l Z a0 hw n0 bu r4 h_1392 Z_1392 f_1407 B_1392 F_kind__1392 F_type__1392 F_id__1392 F_account__1392 F_name__1392 F_accessKey__1392 F_mfa__1392 F_sessionCreated__1392 g_bu) e_1392 rfl (lenOf pd___V rfl) (by decide) 1 (Nat.le_of_eq rfl) (by decide) (by decide) (by decide) N_1376 ?_
        rintro _ T_1411 h_1411 locs_1411 X_1411 e_1411 ⟨rfl, k_1411, p_1411f0, p_1411f1, p_1411f2, p_1411f3, p_1411f4, p_1411f5, p_1411f6, p_1411f7, p_1411f8⟩ N_1411
        have hk_1411 : _ ≤ h_1411.size := Nat.le_trans hk_1392 (k_1411.1)
        have Z_1411 : n0 ≤ h_1411.size := Nat.le_trans Z_1392 k_1411.1
        have f_1412 := Exa.keep f_1393 k_1411
        have f_1413 := Exa.keep f_1394 k_1411
        have f_1414 := Exa.keep f_1395 k_1411
        have f_1415 := Exa.keep f_1396 k_1411
        have f_1416 := Exa.keep f_1397 k_1411
        have f_1417 := Exa.keep f_1398 k_1411
        have f_1418 := Exa.keep f_1399 k_1411
        have f_1419 := f_1400.keep k_1411 (ninS ne_ca_bu (nin0))
        have f_1420 := Exa.keep f_1401 k_1411
        have f_1421 := o_sta_keep f_1402 k_1411 (o_plainS B_1392 (o_plain0))
        have f_1422 := o_sta_keep f_1403 k_1411 (o_plainS B_1392 (o_plain0))
        have f_1423 := o_sta_keep f_1404 k_1411 (o_plainS B_1392 (o_plain0))
        have f_1424 := o_sta_keep f_1405 k_1411 (o_plainS B_1392 (o_plain0))
        have f_1425 := o_sta_keep f_1406 k_1411 (o_plainS B_1392 (o_plain0))
        have f_1426 := o_sta_keep f_1407 k_1411 (o_plainS B_1392 (o_plain0))
        have f_1427 := Fld.keep f_1408 k_1411 (ninS ne_st_bu (nin0))
        have f_1428 := Fld.keep f_1409 k_1411 (ninS ne_st_bu (nin0))
        have f_1429 := f_1410.keep k_1411 (ninS ne_tv_bu (nin0))
        have f_1430 := Exa.keep B_1392 k_1411
        show OGo p e below _ n0 _ (T_1411.setTop (mkF m 83 #[.val (.int p0), .val (.int p1), .val (.int p2), .val (.int p3), .val (.ref ka), .val (.ref kb), .val (.int (1 : Int32)), .val (.int (1 : Int32)), .val (.int (0 : Int32)), .val (.ref ca), .val (.ref st), .unset, .unset, .unset, .unset, .unset] [(.ref bu)]))
        refine o_astore X_1411 K at_83 85 rfl #[.val (.int p0), .val (.int p1), .val (.int p2), .val (.int p3), .val (.ref ka), .val (.ref kb), .val (.int (1 : Int32)), .val (.int (1 : Int32)), .val (.int (0 : Int32)), .val (.ref ca), .val (.ref st), .val (.ref bu), .unset, .unset, .unset, .unset] rfl rfl ?_
        refine o_iconst X_1411 K (1 : Int32) at_85 86 rfl rfl ?_
        refine o_istore X_1411 K at_86 88 rfl #[.val (.int p0), .val (.int p1), .val (.int p2), .val (.int p3), .val (.ref ka), .val (.ref kb), .val (.int (1 : Int32)), .val (.int (1 : Int32)), .val (.int (0 : Int32)), .val (.ref ca), .val (.ref st), .val (.ref bu), .val (.int (1 : Int32)), .unset, .unset, .unset] rfl rfl ?_
        refine o_iload X_1411 K at_88 90 rfl rfl ?_
        refine o_if_eq_f X_1411 K at_90 93 rfl (by decide) ?_
        refine o_iload X_1411 K at_93 95 rfl rfl ?_
        refine o_if_eq_f X_1411 K at_95 98 rfl (by decide) ?_
        refine o_aload X_1411 K at_98 100 rfl rfl rfl ?_
        refine o_aload X_1411 K at_100 102 rfl rfl rfl ?_
        refine o_invokevirtualW X_1411 K hS0 hk_1411 at_102 105 rfl (w_51 hw) (w_52 hw) (w_54 hw) (w_53 hw) (w_42 hw) (w_55 hw) (by decide) p_1411f0 [(.ref ka)] [] rfl  (c_kind0 l Z a0 hw n0 bu r4 ka h_1411 Z_1411 p_1411f0 p_1411f1 p_1411f2 p_1411f3 p_1411f4 p_1411f5 p_1411f6 p_1411f7 p_1411f8 g_bu f_1417) e_1411 rfl (lenOf pd__Lcom_example_dhole_dhole_event_ActorKind__Lcom_example_dhole_dhole_event_Actor_Builder_ rfl) (by decide) 0 (Nat.le_of_eq rfl) (by decide) (by decide) (by decide) N_1411 ?_
        rintro _ T_1431 h_1431 locs_1431 k1_1431 X_1431 KW_1431 e_1431 hS_1431 hq_1431 ⟨rfl, k_1431, p_1431f0, p_1431f1, p_1431f2, p_1431f3, p_1431f4, p_1431f5, p_1431f6, p_1431f7, p_1431f8⟩ N_1431
        have Z_1431 : n0 ≤ h_1431.size := Nat.le_trans Z_1411 k_1431.1
        have f_1432 := Exa.keep f_1412 k_1431
        have f_1433 := Exa.keep f_1413 k_1431
        have f_1434 := Exa.keep f_1414 k_1431
        have f_1435 := Exa.keep f_1415 k_1431
        have f_1436 := Exa.keep f_1416 k_1431
        have f_1437 := Exa.keep f_1417 k_1431
        have f_1438 := Exa.keep f_1418 k_1431
        have f_1439 := f_1419.keep k_1431 (ninS ne_ca_bu (nin0))
        have f_1440 := Exa.keep f_1420 k_1431
        have f_1441 := o_sta_keep f_1421 k_1431 (o_plainS p_1411f0 (o_plain0))
        have f_1442 := o_sta_keep f_1422 k_1431 (o_plainS p_1411f0 (o_plain0))
        have f_1443 := o_sta_keep f_1423 k_1431 (o_plainS p_1411f0 (o_plain0))
        have f_1444 := o_sta_keep f_1424 k_1431 (o_plainS p_1411f0 (o_plain0))
        have f_1445 := o_sta_keep f_1425 k_1431 (o_plainS p_1411f0 (o_plain0))
        have f_1446 := o_sta_keep f_1426 k_1431 (o_plainS p_1411f0 (o_plain0))
        have f_1447 := Fld.keep f_1427 k_1431 (ninS ne_st_bu (nin0))
        have f_1448 := Fld.keep f_1428 k_1431 (ninS ne_st_bu (nin0))
        have f_1449 := f_1429.keep k_1431 (ninS ne_tv_bu (nin0))
        have f_1450 := Exa.keep p_1411f0 k_1431
        show OGo p e below _ n0 _ (T_1431.setTop (mkF m 105 #[.val (.int p0), .val (.int p1), .val (.int p2), .val (.int p3), .val (.ref ka), .val (.ref kb), .val (.int (1 : Int32)), .val (.int (1 : Int32)), .val (.int (0 : Int32)), .val (.ref ca), .val (.ref st), .val (.ref bu), .val (.int (1 : Int32)), .unset, .unset, .unset] [(.ref bu)]))
        refine o_aload X_1431 KW_1431 at_105 107 rfl rfl rfl ?_
        refine o_acmp X_1431 KW_1431 at_107 110 rfl rfl true (decide_eq_true rfl) (by decide) (by decide) ?_
        refine o_iconst X_1431 KW_1431 (1 : Int32) at_110 111 rfl rfl ?_
        refine o_goto X_1431 KW_1431 at_111 115 (by decide) (by decide) ?_
        refine o_istore X_1431 KW_1431 at_115 117 rfl #[.val (.int p0), .val (.int p1), .val (.int p2), .val (.int p3), .val (.ref ka), .val (.ref kb), .val (.int (1 : Int32)), .val (.int (1 : Int32)), .val (.int (0 : Int32)), .val (.ref ca), .val (.ref st), .val (.ref bu), .val (.int (1 : Int32)), .unset, .unset, .unset] rfl rfl ?_
        refine o_iload X_1431 KW_1431 at_117 119 rfl rfl ?_
        refine o_if_eq_f X_1431 KW_1431 at_119 122 rfl (by decide) ?_
        refine o_aload X_1431 KW_1431 at_122 124 rfl rfl rfl ?_
        refine o_aload X_1431 KW_1431 at_124 126 rfl rfl rfl ?_
        refine o_invokevirtual X_1431 KW_1431 at_126 129 rfl (w_125 hw) (w_126 hw) (w_128 hw) (w_127 hw) (w_42 hw) (w_129 hw) (by decide) p_1431f0 [(.ref st)] [] rfl  (c_btype l Z a0 hw n0 bu ka st h_1431 Z_1431 p_1431f0 p_1431f1 p_1431f2 p_1431f3 p_1431f4 p_1431f5 p_1431f6 p_1431f7 p_1431f8 g_bu) e_1431 rfl (lenOf pd__Ljava_lang_String__Lcom_example_dhole_dhole_event_Actor_Builder_ rfl) (by decide) 0 (Nat.le_of_eq rfl) (by decide) (by decide) (by decide) N_1431 ?_
        rintro _ T_1451 h_1451 locs_1451 X_1451 e_1451 ⟨rfl, k_1451, p_1451f0, p_1451f1, p_1451f2, p_1451f3, p_1451f4, p_1451f5, p_1451f6, p_1451f7, p_1451f8⟩ N_1451
        have hk_1451 : _ ≤ h_1451.size := Nat.le_trans hq_1431 (k_1451.1)
        have Z_1451 : n0 ≤ h_1451.size := Nat.le_trans Z_1431 k_1451.1
        have f_1452 := Exa.keep f_1432 k_1451
        have f_1453 := Exa.keep f_1433 k_1451
        have f_1454 := Exa.keep f_1434 k_1451
        have f_1455 := Exa.keep f_1435 k_1451
        have f_1456 := Exa.keep f_1436 k_1451
        have f_1457 := Exa.keep f_1437 k_1451
        have f_1458 := Exa.keep f_1438 k_1451
        have f_1459 := f_1439.keep k_1451 (ninS ne_ca_bu (nin0))
        have f_1460 := Exa.keep f_1440 k_1451
        have f_1461 := o_sta_keep f_1441 k_1451 (o_plainS p_1431f0 (o_plain0))
        have f_1462 := o_sta_keep f_1442 k_1451 (o_plainS p_1431f0 (o_plain0))
        have f_1463 := o_sta_keep f_1443 k_1451 (o_plainS p_1431f0 (o_plain0))
        have f_1464 := o_sta_keep f_1444 k_1451 (o_plainS p_1431f0 (o_plain0))
        have f_1465 := o_sta_keep f_1445 k_1451 (o_plainS p_1431f0 (o_plain0))
        have f_1466 := o_sta_keep f_1446 k_1451 (o_plainS p_1431f0 (o_plain0))
        have f_1467 := Fld.keep f_1447 k_1451 (ninS ne_st_bu (nin0))
        have f_1468 := Fld.keep f_1448 k_1451 (ninS ne_st_bu (nin0))
        have f_1469 := f_1449.keep k_1451 (ninS ne_tv_bu (nin0))
        have f_1470 := Exa.keep p_1431f0 k_1451
        show OGo p e below _ n0 _ (T_1451.setTop (mkF m 129 #[.val (.int p0), .val (.int p1), .val (.int p2), .val (.int p3), .val (.ref ka), .val (.ref kb), .val (.int (1 : Int32)), .val (.int (1 : Int32)), .val (.int (0 : Int32)), .val (.ref ca), .val (.ref st), .val (.ref bu), .val (.int (1 : Int32)), .unset, .unset, .unset] [(.ref bu)]))
        refine o_pop X_1451 KW_1431 at_129 130 rfl rfl ?_
        refine o_iload X_1451 KW_1431 at_130 132 rfl rfl ?_
        refine o_if_eq_t X_1451 KW_1431 at_132 159 (by decide) (by decide) (by decide) ?_
        refine o_aload X_1451 KW_1431 at_159 161 rfl rfl rfl ?_
        refine o_invokevirtual X_1451 KW_1431 at_161 164 rfl (w_65 hw) (w_66 hw) (w_68 hw) (w_67 hw) (w_42 hw) (w_69 hw) (by decide) p_1451f0 [] [] rfl  (c_build1 l Z a0 hw n0 bu ka st h_1451 Z_1451 p_1451f0 p_1451f1 p_1451f2 p_1451f3 p_1451f4 p_1451f5 p_1451f6 p_1451f7 p_1451f8) e_1451 rfl (lenOf pd___Lcom_example_dhole_dhole_event_Actor_ rfl) (by decide) 0 (Nat.le_of_eq rfl) (by decide) (by decide) (by decide) N_1451 ?_
        rintro _ T_1471 h_1471 locs_1471 X_1471 e_1471 ⟨xa, rfl, k_1471, gg_1471_x, sz_1471_x, p_1471f0, p_1471f1, p_1471f2, p_1471f3⟩ N_1471
        have hk_1471 : _ ≤ h_1471.size := Nat.le_trans hk_1451 (k_1471.1)
        have Z_1471 : n0 ≤ h_1471.size := Nat.le_trans Z_1451 k_1471.1
        have f_1472 := Exa.keep f_1452 k_1471
        have f_1473 := Exa.keep f_1453 k_1471
        have f_1474 := Exa.keep f_1454 k_1471
        have f_1475 := Exa.keep f_1455 k_1471
        have f_1476 := Exa.keep f_1456 k_1471
        have f_1477 := Exa.keep f_1457 k_1471
        have f_1478 := Exa.keep f_1458 k_1471
        have f_1479 := f_1459.keep k_1471 (nin0)
        have f_1480 := Exa.keep f_1460 k_1471
        have f_1481 := o_sta_keep f_1461 k_1471 (o_plain0)
        have f_1482 := o_sta_keep f_1462 k_1471 (o_plain0)
        have f_1483 := o_sta_keep f_1463 k_1471 (o_plain0)
        have f_1484 := o_sta_keep f_1464 k_1471 (o_plain0)
        have f_1485 := o_sta_keep f_1465 k_1471 (o_plain0)
        have f_1486 := o_sta_keep f_1466 k_1471 (o_plain0)
        have f_1487 := Fld.keep f_1467 k_1471 (nin0)
        have f_1488 := Fld.keep f_1468 k_1471 (nin0)
        have f_1489 := f_1469.keep k_1471 (nin0)
        have f_1490 := Exa.keep p_1451f0 k_1471
        have f_1491 := Fld.keep p_1451f1 k_1471 (nin0)
        have f_1492 := Fld.keep p_1451f2 k_1471 (nin0)
        have f_1493 := Fld.keep p_1451f3 k_1471 (nin0)
        have f_1494 := Fld.keep p_1451f4 k_1471 (nin0)
        have f_1495 := Fld.keep p_1451f5 k_1471 (nin0)
        have f_1496 := Fld.keep p_1451f6 k_1471 (nin0)
        have f_1497 := Fld.keep p_1451f7 k_1471 (nin0)
        have f_1498 := Fld.keep p_1451f8 k_1471 (nin0)
        have ne_r0_xa : r0 ≠ xa := Nat.ne_of_lt (Nat.lt_of_lt_of_le f_1452.lt sz_1471_x)
        have ne_r1_xa : r1 ≠ xa := Nat.ne_of_lt (Nat.lt_of_lt_of_le f_1453.lt sz_1471_x)
        have ne_r2_xa : r2 ≠ xa := Nat.ne_of_lt (Nat.lt_of_lt_of_le f_1454.lt sz_1471_x)
        have ne_r3_xa : r3 ≠ xa := Nat.ne_of_lt (Nat.lt_of_lt_of_le f_1455.lt sz_1471_x)
        have ne_r4_xa : r4 ≠ xa := Nat.ne_of_lt (Nat.lt_of_lt_of_le f_1456.lt sz_1471_x)
        have ne_ka_xa : ka ≠ xa := Nat.ne_of_lt (Nat.lt_of_lt_of_le f_1457.lt sz_1471_x)
        have ne_kb_xa : kb ≠ xa := Nat.ne_of_lt (Nat.lt_of_lt_of_le f_1458.lt sz_1471_x)
        have ne_ca_xa : ca ≠ xa := Nat.ne_of_lt (Nat.lt_of_lt_of_le f_1459.lt sz_1471_x)
        have ne_st_xa : st ≠ xa := Nat.ne_of_lt (Nat.lt_of_lt_of_le f_1460.lt sz_1471_x)
        have ne_tv_xa : tv ≠ xa := Nat.ne_of_lt (Nat.lt_of_lt_of_le f_1469.lt sz_1471_x)
        have ne_bu_xa : bu ≠ xa := Nat.ne_of_lt (Nat.lt_of_lt_of_le p_1451f0.lt sz_1471_x)
        show OGo p e below _ n0 _ (T_1471.setTop (mkF m 164 #[.val (.int p0), .val (.int p1), .val (.int p2), .val (.int p3), .val (.ref ka), .val (.ref kb), .val (.int (1 : Int32)), .val (.int (1 : Int32)), .val (.int (0 : Int32)), .val (.ref ca), .val (.ref st), .val (.ref bu), .val (.int (1 : Int32)), .unset, .unset, .unset] [(.ref xa)]))
        refine o_astore X_1471 KW_1431 at_164 166 rfl #[.val (.int p0), .val (.int p1), .val (.int p2), .val (.int p3), .val (.ref ka), .val (.ref kb), .val (.int (1 : Int32)), .val (.int (1 : Int32)), .val (.int (0 : Int32)), .val (.ref ca), .val (.ref st), .val (.ref bu), .val (.int (1 : Int32)), .val (.ref xa), .unset, .unset] rfl rfl ?_
        refine o_iload X_1471 KW_1431 at_166 168 rfl rfl ?_
        refine o_if_eq_t X_1471 KW_1431 at_168 178 (by decide) (by decide) (by decide) ?_
        refine o_iload X_1471 KW_1431 at_178 180 rfl rfl ?_
        refine o_if_eq_f X_1471 KW_1431 at_180 183 rfl (by decide) ?_
        refine o_aload X_1471 KW_1431 at_183 185 rfl rfl rfl ?_
        refine o_astore X_1471 KW_1431 at_185 187 rfl #[.val (.int p0), .val (.int p1), .val (.int p2), .val (.int p3), .val (.ref ka), .val (.ref kb), .val (.int (1 : Int32)), .val (.int (1 : Int32)), .val (.int (0 : Int32)), .val (.ref ca), .val (.ref st), .val (.ref bu), .val (.int (1 : Int32)), .val (.ref xa), .val (.ref ka), .unset] rfl rfl ?_
        refine o_goto X_1471 KW_1431 at_187 195 (by decide) (by decide) ?_
        refine o_iload X_1471 KW_1431 at_195 197 rfl rfl ?_
        refine o_if_eq_f X_1471 KW_1431 at_197 200 rfl (by decide) ?_
        refine o_aload X_1471 KW_1431 at_200 202 rfl rfl rfl ?_
        refine o_aload X_1471 KW_1431 at_202 204 rfl rfl rfl ?_
        refine o_invokevirtual X_1471 KW_1431 at_204 207 rfl (w_108 hw) (w_109 hw) (w_111 hw) (w_110 hw) (w_72 hw) (w_112 hw) (by decide) p_1471f0 [] [(.ref st)] rfl  (c_atype1 l Z a0 hw n0 xa st h_1471 Z_1471 p_1471f2) e_1471 rfl (lenOf pd___Ljava_lang_String_ rfl) (by decide) 1 (Nat.le_of_eq rfl) (by decide) (by decide) (by decide) N_1471 ?_
        rintro _ T_1499 h_1499 locs_1499 X_1499 q_1499 ⟨rfl, r_1499⟩ N_1499
        have e_1499 := q_1499.trans r_1499
        show OGo p e below _ n0 _ (T_1499.setTop (mkF m 207 #[.val (.int p0), .val (.int p1), .val (.int p2), .val (.int p3), .val (.ref ka), .val (.ref kb), .val (.int (1 : Int32)), .val (.int (1 : Int32)), .val (.int (0 : Int32)), .val (.ref ca), .val (.ref st), .val (.ref bu), .val (.int (1 : Int32)), .val (.ref xa), .val (.ref ka), .unset] [(.ref st), (.ref st)]))
        refine o_invokevirtual X_1499 KW_1431 at_207 210 rfl (w_132 hw) (w_133 hw) (w_135 hw) (w_134 hw) (w_13 hw) (w_136 hw) (by decide) f_1480 [(.ref st)] [] rfl  (c_seq l Z a0 hw n0 st h_1471 Z_1471 ) e_1499 rfl (lenOf pd__Ljava_lang_Object__Z rfl) (by decide) 0 (Nat.le_of_eq rfl) (by decide) (by decide) (by decide) N_1499 ?_
        rintro _ T_1500 h_1500 locs_1500 X_1500 q_1500 ⟨rfl, r_1500⟩ N_1500
        have e_1500 := q_1500.trans r_1500
        show OGo p e below _ n0 _ (T_1500.setTop (mkF m 210 #[.val (.int p0), .val (.int p1), .val (.int p2), .val (.int p3), .val (.ref ka), .val (.ref kb), .val (.int (1 : Int32)), .val (.int (1 : Int32)), .val (.int (0 : Int32)), .val (.ref ca), .val (.ref st), .val (.ref bu), .val (.int (1 : Int32)), .val (.ref xa), .val (.ref ka), .unset] [(.int (1 : Int32))]))
        refine o_istore X_1500 KW_1431 at_210 212 rfl #[.val (.int p0), .val (.int p1), .val (.int p2), .val (.int p3), .val (.ref ka), .val (.ref kb), .val (.int (1 : Int32)), .val (.int (1 : Int32)), .val (.int (0 : Int32)), .val (.ref ca), .val (.ref st), .val (.ref bu), .val (.int (1 : Int32)), .val (.ref xa), .val (.ref ka), .val (.int (1 : Int32))] rfl rfl ?_
        refine o_goto X_1500 KW_1431 at_212 230 (by decide) (by decide) ?_
        refine o_iload X_1500 KW_1431 at_230 232 rfl rfl ?_
        refine o_if_eq_f X_1500 KW_1431 at_232 235 rfl (by decide) ?_
        refine o_aload X_1500 KW_1431 at_235 237 rfl rfl rfl ?_
        refine o_invokevirtual X_1500 KW_1431 at_237 240 rfl (w_113 hw) (w_114 hw) (w_116 hw) (w_115 hw) (w_72 hw) (w_117 hw) (by decide) p_1471f0 [] [] rfl  (c_akind l Z a0 hw n0 xa ka h_1471 Z_1471 p_1471f1) e_1500 rfl (lenOf pd___Lcom_example_dhole_dhole_event_ActorKind_ rfl) (by decide) 0 (Nat.le_of_eq rfl) (by decide) (by decide) (by decide) N_1500 ?_
        rintro _ T_1501 h_1501 locs_1501 X_1501 q_1501 ⟨rfl, r_1501⟩ N_1501
        have e_1501 := q_1501.trans r_1501
        show OGo p e below _ n0 _ (T_1501.setTop (mkF m 240 #[.val (.int p0), .val (.int p1), .val (.int p2), .val (.int p3), .val (.ref ka), .val (.ref kb), .val (.int (1 : Int32)), .val (.int (1 : Int32)), .val (.int (0 : Int32)), .val (.ref ca), .val (.ref st), .val (.ref bu), .val (.int (1 : Int32)), .val (.ref xa), .val (.ref ka), .val (.int (1 : Int32))] [(.ref ka)]))
        refine o_aload X_1501 KW_1431 at_240 242 rfl rfl rfl ?_
        refine o_acmp X_1501 KW_1431 at_242 245 rfl rfl true (decide_eq_true rfl) (by decide) (by decide) ?_
        refine o_iload X_1501 KW_1431 at_245 247 rfl rfl ?_
        refine o_if_eq_f X_1501 KW_1431 at_247 250 rfl (by decide) ?_
        refine o_aload X_1501 KW_1431 at_250 252 rfl rfl rfl ?_
        refine o_invokevirtual X_1501 KW_1431 at_252 255 rfl (w_118 hw) (w_119 hw) (w_121 hw) (w_120 hw) (w_72 hw) (w_122 hw) (by decide) p_1471f0 [] [] rfl  (c_amfa l Z a0 hw n0 xa h_1471 Z_1471 p_1471f3) e_1501 rfl (lenOf pd___Ljava_lang_Boolean_ rfl) (by decide) 0 (Nat.le_of_eq rfl) (by decide) (by decide) (by decide) N_1501 ?_
        rintro _ T_1502 h_1502 locs_1502 X_1502 q_1502 ⟨rfl, r_1502⟩ N_1502
        have e_1502 := q_1502.trans r_1502
        show OGo p e below _ n0 _ (T_1502.setTop (mkF m 255 #[.val (.int p0), .val (.int p1), .val (.int p2), .val (.int p3), .val (.ref ka), .val (.ref kb), .val (.int (1 : Int32)), .val (.int (1 : Int32)), .val (.int (0 : Int32)), .val (.ref ca), .val (.ref st), .val (.ref bu), .val (.int (1 : Int32)), .val (.ref xa), .val (.ref ka), .val (.int (1 : Int32))] [.null]))
        refine o_ifnonnull_f X_1502 KW_1431 at_255 258 rfl ?_
        refine o_iconst X_1502 KW_1431 (1 : Int32) at_258 259 rfl rfl ?_
        refine o_goto X_1502 KW_1431 at_259 263 (by decide) (by decide) ?_
        refine o_ireturnNW X_1502 hS_1431 e_1502 hk_1471 KW_1431 (by decide) at_263 (by decide) (by decide) N_1502 ?_
        exact rfl
      · refine o_iconst X_414 K (1 : Int32) at_44 45 rfl rfl ?_
        refine o_goto X_414 K at_45 49 (by decide) (by decide) ?_
        refine o_istore X_414 K at_49 51 rfl #[.val (.int p0), .val (.int p1), .val (.int p2), .val (.int p3), .val (.ref ka), .val (.ref kb), .val (.int (1 : Int32)), .val (.int (1 : Int32)), .val (.int (1 : Int32)), .unset, .unset, .unset, .unset, .unset, .unset, .unset] rfl rfl ?_
        refine o_iconst X_414 K (1 : Int32) at_51 52 rfl rfl ?_
        refine o_newarray X_414 K (n := 1) at_52 54 rfl (w_10 hw) e_414 (by decide) 1 (by decide) (by decide) (by decide) (by decide) rfl ?_
        intro T_1503 h_1503 ca g_1503 X_1503 e_1503 E_1503 A_1503
        dsimp only [newarray.typeOf, defaultValue] at A_1503
        have hk_1503 : _ ≤ h_1503.size := Nat.le_trans hk0 (E_1503.1)
        have Z_1503 : n0 ≤ h_1503.size := Nat.le_trans Z0 E_1503.1
        have f_1504 := Sta.ext E_1503 S_COMPACT_STRINGS
        have f_1505 := Sta.ext E_1503 S_ROOT
        have f_1506 := Sta.ext E_1503 S_USER
        have f_1507 := Sta.ext E_1503 S_ROLE
        have f_1508 := Sta.ext E_1503 S_SERVICE
        have f_1509 := Sta.ext E_1503 S_UNKNOWN
        have f_1510 := Exa.ext E_1503 E_r0
        have f_1511 := Exa.ext E_1503 E_r1
        have f_1512 := Exa.ext E_1503 E_r2
        have f_1513 := Exa.ext E_1503 E_r3
        have f_1514 := Exa.ext E_1503 E_r4
        have f_1515 := Exa.ext E_1503 E_413
        have f_1516 := Exa.ext E_1503 E_414
        have g_ca : n0 ≤ ca := by rw [g_1503]; exact Z0
        have ne_r0_ca : r0 ≠ ca := by rw [g_1503]; exact Nat.ne_of_lt E_r0.lt
        have ne_r1_ca : r1 ≠ ca := by rw [g_1503]; exact Nat.ne_of_lt E_r1.lt
        have ne_r2_ca : r2 ≠ ca := by rw [g_1503]; exact Nat.ne_of_lt E_r2.lt
        have ne_r3_ca : r3 ≠ ca := by rw [g_1503]; exact Nat.ne_of_lt E_r3.lt
        have ne_r4_ca : r4 ≠ ca := by rw [g_1503]; exact Nat.ne_of_lt E_r4.lt
        have ne_ka_ca : ka ≠ ca := by rw [g_1503]; exact Nat.ne_of_lt E_413.lt
        have ne_kb_ca : kb ≠ ca := by rw [g_1503]; exact Nat.ne_of_lt E_414.lt
        refine o_dup X_1503 K at_54 55 rfl rfl ?_
        refine o_iconst X_1503 K (0 : Int32) at_55 56 rfl rfl ?_
        refine o_iloadN X_1503 K at_56 57 rfl rfl ?_
        refine o_sipush X_1503 K (255 : Int32) at_57 60 rfl rfl ?_
        refine o_iand X_1503 K at_60 61 rfl ?_
        refine o_i2c X_1503 K at_61 62 rfl ?_
        refine o_castore X_1503 K (i := 0) (x' := ((p2 &&& (255 : Int32)).toUInt32.toUInt16.toUInt32.toInt32)) at_62 63 rfl e_1503 A_1503 (by decide) (by decide) (o_nc _) N_414 g_ca ?_
        intro T_1517 h_1517 locs_1517 X_1517 e_1517 W_1517 A_1517 N_1517
        have hk_1517 : _ ≤ h_1517.size := Nat.le_trans hk_1503 (Nat.le_of_eq (Wr.size W_1517).symm)
        have Z_1517 : n0 ≤ h_1517.size := by rw [Wr.size W_1517]; exact Z_1503
        have f_1518 := Sta.wr W_1517 f_1504
        have f_1519 := Sta.wr W_1517 f_1505
        have f_1520 := Sta.wr W_1517 f_1506
        have f_1521 := Sta.wr W_1517 f_1507
        have f_1522 := Sta.wr W_1517 f_1508
        have f_1523 := Sta.wr W_1517 f_1509
        have f_1524 := Exa.wr W_1517 f_1510
        have f_1525 := Exa.wr W_1517 f_1511
        have f_1526 := Exa.wr W_1517 f_1512
        have f_1527 := Exa.wr W_1517 f_1513
        have f_1528 := Exa.wr W_1517 f_1514
        have f_1529 := Exa.wr W_1517 f_1515
        have f_1530 := Exa.wr W_1517 f_1516
        refine o_astore X_1517 K at_63 65 rfl #[.val (.int p0), .val (.int p1), .val (.int p2), .val (.int p3), .val (.ref ka), .val (.ref kb), .val (.int (1 : Int32)), .val (.int (1 : Int32)), .val (.int (1 : Int32)), .val (.ref ca), .unset, .unset, .unset, .unset, .unset, .unset] rfl rfl ?_
        refine o_new X_1517 K at_65 68 rfl (w_11 hw) (w_12 hw) (w_13 hw) e_1517 (by decide) (by decide) ?_
        intro T_1531 h_1531 st g_1531 X_1531 e_1531 E_1531 B_1531 D_1531
        have hk_1531 : _ ≤ h_1531.size := Nat.le_trans hk_1517 (E_1531.1)
        have Z_1531 : n0 ≤ h_1531.size := Nat.le_trans Z_1517 E_1531.1
        have f_1532 := Sta.ext E_1531 f_1518
        have f_1533 := Sta.ext E_1531 f_1519
        have f_1534 := Sta.ext E_1531 f_1520
        have f_1535 := Sta.ext E_1531 f_1521
        have f_1536 := Sta.ext E_1531 f_1522
        have f_1537 := Sta.ext E_1531 f_1523
        have f_1538 := Exa.ext E_1531 f_1524
        have f_1539 := Exa.ext E_1531 f_1525
        have f_1540 := Exa.ext E_1531 f_1526
        have f_1541 := Exa.ext E_1531 f_1527
        have f_1542 := Exa.ext E_1531 f_1528
        have f_1543 := Exa.ext E_1531 f_1529
        have f_1544 := Exa.ext E_1531 f_1530
        have f_1545 := A_1517.ext E_1531
        have g_st : n0 ≤ st := by rw [g_1531]; exact Z_1517
        have ne_r0_st : r0 ≠ st := by rw [g_1531]; exact Nat.ne_of_lt f_1524.lt
        have ne_r1_st : r1 ≠ st := by rw [g_1531]; exact Nat.ne_of_lt f_1525.lt
        have ne_r2_st : r2 ≠ st := by rw [g_1531]; exact Nat.ne_of_lt f_1526.lt
        have ne_r3_st : r3 ≠ st := by rw [g_1531]; exact Nat.ne_of_lt f_1527.lt
        have ne_r4_st : r4 ≠ st := by rw [g_1531]; exact Nat.ne_of_lt f_1528.lt
        have ne_ka_st : ka ≠ st := by rw [g_1531]; exact Nat.ne_of_lt f_1529.lt
        have ne_kb_st : kb ≠ st := by rw [g_1531]; exact Nat.ne_of_lt f_1530.lt
        have ne_ca_st : ca ≠ st := by rw [g_1531]; exact Nat.ne_of_lt A_1517.lt
        have F_coder__1531 : Fld Z h_1531 st "java/lang/String" "coder" "B" (.int (0 : Int32)) := D_1531 (Or.inr (w_37 hw)) (ty := .byte) (by decide)
        have F_value__1531 : Fld Z h_1531 st "java/lang/String" "value" "[B" .null := D_1531 (Or.inr (w_39 hw)) (ty := (.array .byte)) (by decide)
        refine o_dup X_1531 K at_68 69 rfl rfl ?_
        refine o_aload X_1531 K at_69 71 rfl rfl rfl ?_
        refine o_strinit X_1531 K (cs := [((p2 &&& (255 : Int32)).toUInt32.toUInt16.toUInt32.toInt32)]) at_71 74 rfl (w_14 hw) (w_15 hw) (w_16 hw) (hws_ hw) (w_12 hw) e_1531 Z_1531 g_st B_1531 F_value__1531 F_coder__1531 f_1545 f_1532 hcs rfl (fun j hj => by rcases (by omega : j = 0) with rfl <;> rfl) (by decide) (by decide) (o_all1 (o_and255 _)) rfl N_1517 (by decide) 1 (Nat.le_of_eq rfl) (by decide) (by decide) (by decide) ?_
        intro T_1546 h_1546 locs_1546 tv X_1546 e_1546 k_1546 E_1546 Fc_1546 g_1546 s_1546 ne_tv_st Fv_1546 A_1546 N_1546
        have hk_1546 : _ ≤ h_1546.size := Nat.le_trans hk_1531 (k_1546.1)
        have Z_1546 : n0 ≤ h_1546.size := Nat.le_trans Z_1531 k_1546.1
        have f_1547 := Exa.keep f_1538 k_1546
        have f_1548 := Exa.keep f_1539 k_1546
        have f_1549 := Exa.keep f_1540 k_1546
        have f_1550 := Exa.keep f_1541 k_1546
        have f_1551 := Exa.keep f_1542 k_1546
        have f_1552 := Exa.keep f_1543 k_1546
        have f_1553 := Exa.keep f_1544 k_1546
        have f_1554 := f_1545.keep k_1546 (ninS ne_ca_st (nin0))
        have f_1555 := Exa.keep B_1531 k_1546
        have f_1556 := o_sta_keep f_1532 k_1546 (fun y_ hy_ cl_ hc_ => by rw [List.mem_singleton] at hy_; subst hy_; obtain ⟨c1_, -, d1_, -, -, d4_, -⟩ := B_1531; cases hc_.symm.trans d1_; exact d4_)
        have f_1557 := o_sta_keep f_1533 k_1546 (fun y_ hy_ cl_ hc_ => by rw [List.mem_singleton] at hy_; subst hy_; obtain ⟨c1_, -, d1_, -, -, d4_, -⟩ := B_1531; cases hc_.symm.trans d1_; exact d4_)
        have f_1558 := o_sta_keep f_1534 k_1546 (fun y_ hy_ cl_ hc_ => by rw [List.mem_singleton] at hy_; subst hy_; obtain ⟨c1_, -, d1_, -, -, d4_, -⟩ := B_1531; cases hc_.symm.trans d1_; exact d4_)
        have f_1559 := o_sta_keep f_1535 k_1546 (fun y_ hy_ cl_ hc_ => by rw [List.mem_singleton] at hy_; subst hy_; obtain ⟨c1_, -, d1_, -, -, d4_, -⟩ := B_1531; cases hc_.symm.trans d1_; exact d4_)
        have f_1560 := o_sta_keep f_1536 k_1546 (fun y_ hy_ cl_ hc_ => by rw [List.mem_singleton] at hy_; subst hy_; obtain ⟨c1_, -, d1_, -, -, d4_, -⟩ := B_1531; cases hc_.symm.trans d1_; exact d4_)
        have f_1561 := o_sta_keep f_1537 k_1546 (fun y_ hy_ cl_ hc_ => by rw [List.mem_singleton] at hy_; subst hy_; obtain ⟨c1_, -, d1_, -, -, d4_, -⟩ := B_1531; cases hc_.symm.trans d1_; exact d4_)
        have ne_r0_tv : r0 ≠ tv := Nat.ne_of_lt (Nat.lt_of_lt_of_le f_1538.lt s_1546)
        have ne_r1_tv : r1 ≠ tv := Nat.ne_of_lt (Nat.lt_of_lt_of_le f_1539.lt s_1546)
        have ne_r2_tv : r2 ≠ tv := Nat.ne_of_lt (Nat.lt_of_lt_of_le f_1540.lt s_1546)
        have ne_r3_tv : r3 ≠ tv := Nat.ne_of_lt (Nat.lt_of_lt_of_le f_1541.lt s_1546)
        have ne_r4_tv : r4 ≠ tv := Nat.ne_of_lt (Nat.lt_of_lt_of_le f_1542.lt s_1546)
        have ne_ka_tv : ka ≠ tv := Nat.ne_of_lt (Nat.lt_of_lt_of_le f_1543.lt s_1546)
        have ne_kb_tv : kb ≠ tv := Nat.ne_of_lt (Nat.lt_of_lt_of_le f_1544.lt s_1546)
        have ne_ca_tv : ca ≠ tv := Nat.ne_of_lt (Nat.lt_of_lt_of_le f_1545.lt s_1546)
        show OGo p e below _ n0 _ (T_1546.setTop (mkF m 74 #[.val (.int p0), .val (.int p1), .val (.int p2), .val (.int p3), .val (.ref ka), .val (.ref kb), .val (.int (1 : Int32)), .val (.int (1 : Int32)), .val (.int (1 : Int32)), .val (.ref ca), .unset, .unset, .unset, .unset, .unset, .unset] [(.ref st)]))
        refine o_astore X_1546 K at_74 76 rfl #[.val (.int p0), .val (.int p1), .val (.int p2), .val (.int p3), .val (.ref ka), .val (.ref kb), .val (.int (1 : Int32)), .val (.int (1 : Int32)), .val (.int (1 : Int32)), .val (.ref ca), .val (.ref st), .unset, .unset, .unset, .unset, .unset] rfl rfl ?_
        refine o_new X_1546 K at_76 79 rfl (w_40 hw) (w_41 hw) (w_42 hw) e_1546 (by decide) (by decide) ?_
        intro T_1562 h_1562 bu g_1562 X_1562 e_1562 E_1562 B_1562 D_1562
        have hk_1562 : _ ≤ h_1562.size := Nat.le_trans hk_1546 (E_1562.1)
        have Z_1562 : n0 ≤ h_1562.size := Nat.le_trans Z_1546 E_1562.1
        have f_1563 := Exa.ext E_1562 f_1547
        have f_1564 := Exa.ext E_1562 f_1548
        have f_1565 := Exa.ext E_1562 f_1549
        have f_1566 := Exa.ext E_1562 f_1550
        have f_1567 := Exa.ext E_1562 f_1551
        have f_1568 := Exa.ext E_1562 f_1552
        have f_1569 := Exa.ext E_1562 f_1553
        have f_1570 := f_1554.ext E_1562
        have f_1571 := Exa.ext E_1562 E_1546
        have f_1572 := Sta.ext E_1562 f_1556
        have f_1573 := Sta.ext E_1562 f_1557
        have f_1574 := Sta.ext E_1562 f_1558
        have f_1575 := Sta.ext E_1562 f_1559
        have f_1576 := Sta.ext E_1562 f_1560
        have f_1577 := Sta.ext E_1562 f_1561
        have f_1578 := Fld.ext E_1562 Fc_1546
        have f_1579 := Fld.ext E_1562 Fv_1546
        have f_1580 := A_1546.ext E_1562
        have g_bu : n0 ≤ bu := by rw [g_1562]; exact Z_1546
        have ne_r0_bu : r0 ≠ bu := by rw [g_1562]; exact Nat.ne_of_lt f_1547.lt
        have ne_r1_bu : r1 ≠ bu := by rw [g_1562]; exact Nat.ne_of_lt f_1548.lt
        have ne_r2_bu : r2 ≠ bu := by rw [g_1562]; exact Nat.ne_of_lt f_1549.lt
        have ne_r3_bu : r3 ≠ bu := by rw [g_1562]; exact Nat.ne_of_lt f_1550.lt
        have ne_r4_bu : r4 ≠ bu := by rw [g_1562]; exact Nat.ne_of_lt f_1551.lt
        have ne_ka_bu : ka ≠ bu := by rw [g_1562]; exact Nat.ne_of_lt f_1552.lt
        have ne_kb_bu : kb ≠ bu := by rw [g_1562]; exact Nat.ne_of_lt f_1553.lt
        have ne_ca_bu : ca ≠ bu := by rw [g_1562]; exact Nat.ne_of_lt f_1554.lt
        have ne_st_bu : st ≠ bu := by rw [g_1562]; exact Nat.ne_of_lt E_1546.lt
        have ne_tv_bu : tv ≠ bu := by rw [g_1562]; exact Nat.ne_of_lt A_1546.lt
        have F_kind__1562 : Fld Z h_1562 bu "com/example/dhole/dhole/event/Actor$Builder" "kind" "Lcom/example/dhole/dhole/event/ActorKind;" .null := D_1562 (Or.inl (w_50 hw)) (ty := (.object "com/example/dhole/dhole/event/ActorKind")) (by decide)
        have F_type__1562 : Fld Z h_1562 bu "com/example/dhole/dhole/event/Actor$Builder" "type" "Ljava/lang/String;" .null := D_1562 (Or.inl (w_81 hw)) (ty := (.object "java/lang/String")) (by decide)
        have F_id__1562 : Fld Z h_1562 bu "com/example/dhole/dhole/event/Actor$Builder" "id" "Ljava/lang/String;" .null := D_1562 (Or.inl (w_85 hw)) (ty := (.object "java/lang/String")) (by decide)
        have F_account__1562 : Fld Z h_1562 bu "com/example/dhole/dhole/event/Actor$Builder" "account" "Ljava/lang/String;" .null := D_1562 (Or.inl (w_89 hw)) (ty := (.object "java/lang/String")) (by decide)
        have F_name__1562 : Fld Z h_1562 bu "com/example/dhole/dhole/event/Actor$Builder" "name" "Ljava/lang/String;" .null := D_1562 (Or.inl (w_93 hw)) (ty := (.object "java/lang/String")) (by decide)
        have F_accessKey__1562 : Fld Z h_1562 bu "com/example/dhole/dhole/event/Actor$Builder" "accessKey" "Ljava/lang/String;" .null := D_1562 (Or.inl (w_97 hw)) (ty := (.object "java/lang/String")) (by decide)
        have F_mfa__1562 : Fld Z h_1562 bu "com/example/dhole/dhole/event/Actor$Builder" "mfa" "Ljava/lang/Boolean;" .null := D_1562 (Or.inl (w_101 hw)) (ty := (.object "java/lang/Boolean")) (by decide)
        have F_sessionCreated__1562 : Fld Z h_1562 bu "com/example/dhole/dhole/event/Actor$Builder" "sessionCreated" "Lcom/example/dhole/dhole/event/EventTime;" .null := D_1562 (Or.inl (w_105 hw)) (ty := (.object "com/example/dhole/dhole/event/EventTime")) (by decide)
        refine o_dup X_1562 K at_79 80 rfl rfl ?_
        refine o_invokespecial X_1562 K at_80 83 rfl rfl (w_43 hw) (w_44 hw) (w_42 hw) (w_45 hw) (by decide) [] [(.ref bu)] rfl  (c_binit l Z a0 hw n0 bu r4 h_1562 Z_1562 f_1577 B_1562 F_kind__1562 F_type__1562 F_id__1562 F_account__1562 F_name__1562 F_accessKey__1562 F_mfa__1562 F_sessionCreated__1562 g_bu) e_1562 rfl (lenOf pd___V rfl) (by decide) 1 (Nat.le_of_eq rfl) (by decide) (by decide) (by decide) N_1546 ?_
        rintro _ T_1581 h_1581 locs_1581 X_1581 e_1581 ⟨rfl, k_1581, p_1581f0, p_1581f1, p_1581f2, p_1581f3, p_1581f4, p_1581f5, p_1581f6, p_1581f7, p_1581f8⟩ N_1581
        have hk_1581 : _ ≤ h_1581.size := Nat.le_trans hk_1562 (k_1581.1)
        have Z_1581 : n0 ≤ h_1581.size := Nat.le_trans Z_1562 k_1581.1
        have f_1582 := Exa.keep f_1563 k_1581
        have f_1583 := Exa.keep f_1564 k_1581
        have f_1584 := Exa.keep f_1565 k_1581
        have f_1585 := Exa.keep f_1566 k_1581
        have f_1586 := Exa.keep f_1567 k_1581
        have f_1587 := Exa.keep f_1568 k_1581
        have f_1588 := Exa.keep f_1569 k_1581
        have f_1589 := f_1570.keep k_1581 (ninS ne_ca_bu (nin0))
        have f_1590 := Exa.keep f_1571 k_1581
        have f_1591 := o_sta_keep f_1572 k_1581 (o_plainS B_1562 (o_plain0))
        have f_1592 := o_sta_keep f_1573 k_1581 (o_plainS B_1562 (o_plain0))
        have f_1593 := o_sta_keep f_1574 k_1581 (o_plainS B_1562 (o_plain0))
        have f_1594 := o_sta_keep f_1575 k_1581 (o_plainS B_1562 (o_plain0))
        have f_1595 := o_sta_keep f_1576 k_1581 (o_plainS B_1562 (o_plain0))
        have f_1596 := o_sta_keep f_1577 k_1581 (o_plainS B_1562 (o_plain0))
        have f_1597 := Fld.keep f_1578 k_1581 (ninS ne_st_bu (nin0))
        have f_1598 := Fld.keep f_1579 k_1581 (ninS ne_st_bu (nin0))
        have f_1599 := f_1580.keep k_1581 (ninS ne_tv_bu (nin0))
        have f_1600 := Exa.keep B_1562 k_1581
        show OGo p e below _ n0 _ (T_1581.setTop (mkF m 83 #[.val (.int p0), .val (.int p1), .val (.int p2), .val (.int p3), .val (.ref ka), .val (.ref kb), .val (.int (1 : Int32)), .val (.int (1 : Int32)), .val (.int (1 : Int32)), .val (.ref ca), .val (.ref st), .unset, .unset, .unset, .unset, .unset] [(.ref bu)]))
        refine o_astore X_1581 K at_83 85 rfl #[.val (.int p0), .val (.int p1), .val (.int p2), .val (.int p3), .val (.ref ka), .val (.ref kb), .val (.int (1 : Int32)), .val (.int (1 : Int32)), .val (.int (1 : Int32)), .val (.ref ca), .val (.ref st), .val (.ref bu), .unset, .unset, .unset, .unset] rfl rfl ?_
        refine o_iconst X_1581 K (1 : Int32) at_85 86 rfl rfl ?_
        refine o_istore X_1581 K at_86 88 rfl #[.val (.int p0), .val (.int p1), .val (.int p2), .val (.int p3), .val (.ref ka), .val (.ref kb), .val (.int (1 : Int32)), .val (.int (1 : Int32)), .val (.int (1 : Int32)), .val (.ref ca), .val (.ref st), .val (.ref bu), .val (.int (1 : Int32)), .unset, .unset, .unset] rfl rfl ?_
        refine o_iload X_1581 K at_88 90 rfl rfl ?_
        refine o_if_eq_f X_1581 K at_90 93 rfl (by decide) ?_
        refine o_iload X_1581 K at_93 95 rfl rfl ?_
        refine o_if_eq_f X_1581 K at_95 98 rfl (by decide) ?_
        refine o_aload X_1581 K at_98 100 rfl rfl rfl ?_
        refine o_aload X_1581 K at_100 102 rfl rfl rfl ?_
        refine o_invokevirtualW X_1581 K hS0 hk_1581 at_102 105 rfl (w_51 hw) (w_52 hw) (w_54 hw) (w_53 hw) (w_42 hw) (w_55 hw) (by decide) p_1581f0 [(.ref ka)] [] rfl  (c_kind0 l Z a0 hw n0 bu r4 ka h_1581 Z_1581 p_1581f0 p_1581f1 p_1581f2 p_1581f3 p_1581f4 p_1581f5 p_1581f6 p_1581f7 p_1581f8 g_bu f_1587) e_1581 rfl (lenOf pd__Lcom_example_dhole_dhole_event_ActorKind__Lcom_example_dhole_dhole_event_Actor_Builder_ rfl) (by decide) 0 (Nat.le_of_eq rfl) (by decide) (by decide) (by decide) N_1581 ?_
        rintro _ T_1601 h_1601 locs_1601 k1_1601 X_1601 KW_1601 e_1601 hS_1601 hq_1601 ⟨rfl, k_1601, p_1601f0, p_1601f1, p_1601f2, p_1601f3, p_1601f4, p_1601f5, p_1601f6, p_1601f7, p_1601f8⟩ N_1601
        have Z_1601 : n0 ≤ h_1601.size := Nat.le_trans Z_1581 k_1601.1
        have f_1602 := Exa.keep f_1582 k_1601
        have f_1603 := Exa.keep f_1583 k_1601
        have f_1604 := Exa.keep f_1584 k_1601
        have f_1605 := Exa.keep f_1585 k_1601
        have f_1606 := Exa.keep f_1586 k_1601
        have f_1607 := Exa.keep f_1587 k_1601
        have f_1608 := Exa.keep f_1588 k_1601
        have f_1609 := f_1589.keep k_1601 (ninS ne_ca_bu (nin0))
        have f_1610 := Exa.keep f_1590 k_1601
        have f_1611 := o_sta_keep f_1591 k_1601 (o_plainS p_1581f0 (o_plain0))
        have f_1612 := o_sta_keep f_1592 k_1601 (o_plainS p_1581f0 (o_plain0))
        have f_1613 := o_sta_keep f_1593 k_1601 (o_plainS p_1581f0 (o_plain0))
        have f_1614 := o_sta_keep f_1594 k_1601 (o_plainS p_1581f0 (o_plain0))
        have f_1615 := o_sta_keep f_1595 k_1601 (o_plainS p_1581f0 (o_plain0))
        have f_1616 := o_sta_keep f_1596 k_1601 (o_plainS p_1581f0 (o_plain0))
        have f_1617 := Fld.keep f_1597 k_1601 (ninS ne_st_bu (nin0))
        have f_1618 := Fld.keep f_1598 k_1601 (ninS ne_st_bu (nin0))
        have f_1619 := f_1599.keep k_1601 (ninS ne_tv_bu (nin0))
        have f_1620 := Exa.keep p_1581f0 k_1601
        show OGo p e below _ n0 _ (T_1601.setTop (mkF m 105 #[.val (.int p0), .val (.int p1), .val (.int p2), .val (.int p3), .val (.ref ka), .val (.ref kb), .val (.int (1 : Int32)), .val (.int (1 : Int32)), .val (.int (1 : Int32)), .val (.ref ca), .val (.ref st), .val (.ref bu), .val (.int (1 : Int32)), .unset, .unset, .unset] [(.ref bu)]))
        refine o_aload X_1601 KW_1601 at_105 107 rfl rfl rfl ?_
        refine o_acmp X_1601 KW_1601 at_107 110 rfl rfl true (decide_eq_true rfl) (by decide) (by decide) ?_
        refine o_iconst X_1601 KW_1601 (1 : Int32) at_110 111 rfl rfl ?_
        refine o_goto X_1601 KW_1601 at_111 115 (by decide) (by decide) ?_
        refine o_istore X_1601 KW_1601 at_115 117 rfl #[.val (.int p0), .val (.int p1), .val (.int p2), .val (.int p3), .val (.ref ka), .val (.ref kb), .val (.int (1 : Int32)), .val (.int (1 : Int32)), .val (.int (1 : Int32)), .val (.ref ca), .val (.ref st), .val (.ref bu), .val (.int (1 : Int32)), .unset, .unset, .unset] rfl rfl ?_
        refine o_iload X_1601 KW_1601 at_117 119 rfl rfl ?_
        refine o_if_eq_f X_1601 KW_1601 at_119 122 rfl (by decide) ?_
        refine o_aload X_1601 KW_1601 at_122 124 rfl rfl rfl ?_
        refine o_aload X_1601 KW_1601 at_124 126 rfl rfl rfl ?_
        refine o_invokevirtual X_1601 KW_1601 at_126 129 rfl (w_125 hw) (w_126 hw) (w_128 hw) (w_127 hw) (w_42 hw) (w_129 hw) (by decide) p_1601f0 [(.ref st)] [] rfl  (c_btype l Z a0 hw n0 bu ka st h_1601 Z_1601 p_1601f0 p_1601f1 p_1601f2 p_1601f3 p_1601f4 p_1601f5 p_1601f6 p_1601f7 p_1601f8 g_bu) e_1601 rfl (lenOf pd__Ljava_lang_String__Lcom_example_dhole_dhole_event_Actor_Builder_ rfl) (by decide) 0 (Nat.le_of_eq rfl) (by decide) (by decide) (by decide) N_1601 ?_
        rintro _ T_1621 h_1621 locs_1621 X_1621 e_1621 ⟨rfl, k_1621, p_1621f0, p_1621f1, p_1621f2, p_1621f3, p_1621f4, p_1621f5, p_1621f6, p_1621f7, p_1621f8⟩ N_1621
        have hk_1621 : _ ≤ h_1621.size := Nat.le_trans hq_1601 (k_1621.1)
        have Z_1621 : n0 ≤ h_1621.size := Nat.le_trans Z_1601 k_1621.1
        have f_1622 := Exa.keep f_1602 k_1621
        have f_1623 := Exa.keep f_1603 k_1621
        have f_1624 := Exa.keep f_1604 k_1621
        have f_1625 := Exa.keep f_1605 k_1621
        have f_1626 := Exa.keep f_1606 k_1621
        have f_1627 := Exa.keep f_1607 k_1621
        have f_1628 := Exa.keep f_1608 k_1621
        have f_1629 := f_1609.keep k_1621 (ninS ne_ca_bu (nin0))
        have f_1630 := Exa.keep f_1610 k_1621
        have f_1631 := o_sta_keep f_1611 k_1621 (o_plainS p_1601f0 (o_plain0))
        have f_1632 := o_sta_keep f_1612 k_1621 (o_plainS p_1601f0 (o_plain0))
        have f_1633 := o_sta_keep f_1613 k_1621 (o_plainS p_1601f0 (o_plain0))
        have f_1634 := o_sta_keep f_1614 k_1621 (o_plainS p_1601f0 (o_plain0))
        have f_1635 := o_sta_keep f_1615 k_1621 (o_plainS p_1601f0 (o_plain0))
        have f_1636 := o_sta_keep f_1616 k_1621 (o_plainS p_1601f0 (o_plain0))
        have f_1637 := Fld.keep f_1617 k_1621 (ninS ne_st_bu (nin0))
        have f_1638 := Fld.keep f_1618 k_1621 (ninS ne_st_bu (nin0))
        have f_1639 := f_1619.keep k_1621 (ninS ne_tv_bu (nin0))
        have f_1640 := Exa.keep p_1601f0 k_1621
        show OGo p e below _ n0 _ (T_1621.setTop (mkF m 129 #[.val (.int p0), .val (.int p1), .val (.int p2), .val (.int p3), .val (.ref ka), .val (.ref kb), .val (.int (1 : Int32)), .val (.int (1 : Int32)), .val (.int (1 : Int32)), .val (.ref ca), .val (.ref st), .val (.ref bu), .val (.int (1 : Int32)), .unset, .unset, .unset] [(.ref bu)]))
        refine o_pop X_1621 KW_1601 at_129 130 rfl rfl ?_
        refine o_iload X_1621 KW_1601 at_130 132 rfl rfl ?_
        refine o_if_eq_f X_1621 KW_1601 at_132 135 rfl (by decide) ?_
        refine o_iload X_1621 KW_1601 at_135 137 rfl rfl ?_
        refine o_if_eq_f X_1621 KW_1601 at_137 140 rfl (by decide) ?_
        refine o_aload X_1621 KW_1601 at_140 142 rfl rfl rfl ?_
        refine o_aload X_1621 KW_1601 at_142 144 rfl rfl rfl ?_
        refine o_invokevirtualW X_1621 KW_1601 hS_1601 hk_1621 at_144 147 rfl (w_51 hw) (w_52 hw) (w_54 hw) (w_53 hw) (w_42 hw) (w_55 hw) (by decide) p_1621f0 [(.ref kb)] [] rfl  (c_kind1 l Z a0 hw n0 bu ka kb st h_1621 Z_1621 p_1621f0 p_1621f1 p_1621f2 p_1621f3 p_1621f4 p_1621f5 p_1621f6 p_1621f7 p_1621f8 g_bu f_1628) e_1621 rfl (lenOf pd__Lcom_example_dhole_dhole_event_ActorKind__Lcom_example_dhole_dhole_event_Actor_Builder_ rfl) (by decide) 0 (Nat.le_of_eq rfl) (by decide) (by decide) (by decide) N_1621 ?_
        rintro _ T_1641 h_1641 locs_1641 k1_1641 X_1641 KW_1641 e_1641 hS_1641 hq_1641 ⟨rfl, k_1641, p_1641f0, p_1641f1, p_1641f2, p_1641f3, p_1641f4, p_1641f5, p_1641f6, p_1641f7, p_1641f8⟩ N_1641
        have Z_1641 : n0 ≤ h_1641.size := Nat.le_trans Z_1621 k_1641.1
        have f_1642 := Exa.keep f_1622 k_1641
        have f_1643 := Exa.keep f_1623 k_1641
        have f_1644 := Exa.keep f_1624 k_1641
        have f_1645 := Exa.keep f_1625 k_1641
        have f_1646 := Exa.keep f_1626 k_1641
        have f_1647 := Exa.keep f_1627 k_1641
        have f_1648 := Exa.keep f_1628 k_1641
        have f_1649 := f_1629.keep k_1641 (ninS ne_ca_bu (nin0))
        have f_1650 := Exa.keep f_1630 k_1641
        have f_1651 := o_sta_keep f_1631 k_1641 (o_plainS p_1621f0 (o_plain0))
        have f_1652 := o_sta_keep f_1632 k_1641 (o_plainS p_1621f0 (o_plain0))
        have f_1653 := o_sta_keep f_1633 k_1641 (o_plainS p_1621f0 (o_plain0))
        have f_1654 := o_sta_keep f_1634 k_1641 (o_plainS p_1621f0 (o_plain0))
        have f_1655 := o_sta_keep f_1635 k_1641 (o_plainS p_1621f0 (o_plain0))
        have f_1656 := o_sta_keep f_1636 k_1641 (o_plainS p_1621f0 (o_plain0))
        have f_1657 := Fld.keep f_1637 k_1641 (ninS ne_st_bu (nin0))
        have f_1658 := Fld.keep f_1638 k_1641 (ninS ne_st_bu (nin0))
        have f_1659 := f_1639.keep k_1641 (ninS ne_tv_bu (nin0))
        have f_1660 := Exa.keep p_1621f0 k_1641
        show OGo p e below _ n0 _ (T_1641.setTop (mkF m 147 #[.val (.int p0), .val (.int p1), .val (.int p2), .val (.int p3), .val (.ref ka), .val (.ref kb), .val (.int (1 : Int32)), .val (.int (1 : Int32)), .val (.int (1 : Int32)), .val (.ref ca), .val (.ref st), .val (.ref bu), .val (.int (1 : Int32)), .unset, .unset, .unset] [(.ref bu)]))
        refine o_aload X_1641 KW_1641 at_147 149 rfl rfl rfl ?_
        refine o_acmp X_1641 KW_1641 at_149 152 rfl rfl true (decide_eq_true rfl) (by decide) (by decide) ?_
        refine o_iconst X_1641 KW_1641 (1 : Int32) at_152 153 rfl rfl ?_
        refine o_goto X_1641 KW_1641 at_153 157 (by decide) (by decide) ?_
        refine o_istore X_1641 KW_1641 at_157 159 rfl #[.val (.int p0), .val (.int p1), .val (.int p2), .val (.int p3), .val (.ref ka), .val (.ref kb), .val (.int (1 : Int32)), .val (.int (1 : Int32)), .val (.int (1 : Int32)), .val (.ref ca), .val (.ref st), .val (.ref bu), .val (.int (1 : Int32)), .unset, .unset, .unset] rfl rfl ?_
        refine o_aload X_1641 KW_1641 at_159 161 rfl rfl rfl ?_
        refine o_invokevirtual X_1641 KW_1641 at_161 164 rfl (w_65 hw) (w_66 hw) (w_68 hw) (w_67 hw) (w_42 hw) (w_69 hw) (by decide) p_1641f0 [] [] rfl  (c_build1 l Z a0 hw n0 bu kb st h_1641 Z_1641 p_1641f0 p_1641f1 p_1641f2 p_1641f3 p_1641f4 p_1641f5 p_1641f6 p_1641f7 p_1641f8) e_1641 rfl (lenOf pd___Lcom_example_dhole_dhole_event_Actor_ rfl) (by decide) 0 (Nat.le_of_eq rfl) (by decide) (by decide) (by decide) N_1641 ?_
        rintro _ T_1661 h_1661 locs_1661 X_1661 e_1661 ⟨xa, rfl, k_1661, gg_1661_x, sz_1661_x, p_1661f0, p_1661f1, p_1661f2, p_1661f3⟩ N_1661
        have hk_1661 : _ ≤ h_1661.size := Nat.le_trans hq_1641 (k_1661.1)
        have Z_1661 : n0 ≤ h_1661.size := Nat.le_trans Z_1641 k_1661.1
        have f_1662 := Exa.keep f_1642 k_1661
        have f_1663 := Exa.keep f_1643 k_1661
        have f_1664 := Exa.keep f_1644 k_1661
        have f_1665 := Exa.keep f_1645 k_1661
        have f_1666 := Exa.keep f_1646 k_1661
        have f_1667 := Exa.keep f_1647 k_1661
        have f_1668 := Exa.keep f_1648 k_1661
        have f_1669 := f_1649.keep k_1661 (nin0)
        have f_1670 := Exa.keep f_1650 k_1661
        have f_1671 := o_sta_keep f_1651 k_1661 (o_plain0)
        have f_1672 := o_sta_keep f_1652 k_1661 (o_plain0)
        have f_1673 := o_sta_keep f_1653 k_1661 (o_plain0)
        have f_1674 := o_sta_keep f_1654 k_1661 (o_plain0)
        have f_1675 := o_sta_keep f_1655 k_1661 (o_plain0)
        have f_1676 := o_sta_keep f_1656 k_1661 (o_plain0)
        have f_1677 := Fld.keep f_1657 k_1661 (nin0)
        have f_1678 := Fld.keep f_1658 k_1661 (nin0)
        have f_1679 := f_1659.keep k_1661 (nin0)
        have f_1680 := Exa.keep p_1641f0 k_1661
        have f_1681 := Fld.keep p_1641f1 k_1661 (nin0)
        have f_1682 := Fld.keep p_1641f2 k_1661 (nin0)
        have f_1683 := Fld.keep p_1641f3 k_1661 (nin0)
        have f_1684 := Fld.keep p_1641f4 k_1661 (nin0)
        have f_1685 := Fld.keep p_1641f5 k_1661 (nin0)
        have f_1686 := Fld.keep p_1641f6 k_1661 (nin0)
        have f_1687 := Fld.keep p_1641f7 k_1661 (nin0)
        have f_1688 := Fld.keep p_1641f8 k_1661 (nin0)
        have ne_r0_xa : r0 ≠ xa := Nat.ne_of_lt (Nat.lt_of_lt_of_le f_1642.lt sz_1661_x)
        have ne_r1_xa : r1 ≠ xa := Nat.ne_of_lt (Nat.lt_of_lt_of_le f_1643.lt sz_1661_x)
        have ne_r2_xa : r2 ≠ xa := Nat.ne_of_lt (Nat.lt_of_lt_of_le f_1644.lt sz_1661_x)
        have ne_r3_xa : r3 ≠ xa := Nat.ne_of_lt (Nat.lt_of_lt_of_le f_1645.lt sz_1661_x)
        have ne_r4_xa : r4 ≠ xa := Nat.ne_of_lt (Nat.lt_of_lt_of_le f_1646.lt sz_1661_x)
        have ne_ka_xa : ka ≠ xa := Nat.ne_of_lt (Nat.lt_of_lt_of_le f_1647.lt sz_1661_x)
        have ne_kb_xa : kb ≠ xa := Nat.ne_of_lt (Nat.lt_of_lt_of_le f_1648.lt sz_1661_x)
        have ne_ca_xa : ca ≠ xa := Nat.ne_of_lt (Nat.lt_of_lt_of_le f_1649.lt sz_1661_x)
        have ne_st_xa : st ≠ xa := Nat.ne_of_lt (Nat.lt_of_lt_of_le f_1650.lt sz_1661_x)
        have ne_tv_xa : tv ≠ xa := Nat.ne_of_lt (Nat.lt_of_lt_of_le f_1659.lt sz_1661_x)
        have ne_bu_xa : bu ≠ xa := Nat.ne_of_lt (Nat.lt_of_lt_of_le p_1641f0.lt sz_1661_x)
        show OGo p e below _ n0 _ (T_1661.setTop (mkF m 164 #[.val (.int p0), .val (.int p1), .val (.int p2), .val (.int p3), .val (.ref ka), .val (.ref kb), .val (.int (1 : Int32)), .val (.int (1 : Int32)), .val (.int (1 : Int32)), .val (.ref ca), .val (.ref st), .val (.ref bu), .val (.int (1 : Int32)), .unset, .unset, .unset] [(.ref xa)]))
        refine o_astore X_1661 KW_1641 at_164 166 rfl #[.val (.int p0), .val (.int p1), .val (.int p2), .val (.int p3), .val (.ref ka), .val (.ref kb), .val (.int (1 : Int32)), .val (.int (1 : Int32)), .val (.int (1 : Int32)), .val (.ref ca), .val (.ref st), .val (.ref bu), .val (.int (1 : Int32)), .val (.ref xa), .unset, .unset] rfl rfl ?_
        refine o_iload X_1661 KW_1641 at_166 168 rfl rfl ?_
        refine o_if_eq_f X_1661 KW_1641 at_168 171 rfl (by decide) ?_
        refine o_aload X_1661 KW_1641 at_171 173 rfl rfl rfl ?_
        refine o_astore X_1661 KW_1641 at_173 175 rfl #[.val (.int p0), .val (.int p1), .val (.int p2), .val (.int p3), .val (.ref ka), .val (.ref kb), .val (.int (1 : Int32)), .val (.int (1 : Int32)), .val (.int (1 : Int32)), .val (.ref ca), .val (.ref st), .val (.ref bu), .val (.int (1 : Int32)), .val (.ref xa), .val (.ref kb), .unset] rfl rfl ?_
        refine o_goto X_1661 KW_1641 at_175 195 (by decide) (by decide) ?_
        refine o_iload X_1661 KW_1641 at_195 197 rfl rfl ?_
        refine o_if_eq_f X_1661 KW_1641 at_197 200 rfl (by decide) ?_
        refine o_aload X_1661 KW_1641 at_200 202 rfl rfl rfl ?_
        refine o_aload X_1661 KW_1641 at_202 204 rfl rfl rfl ?_
        refine o_invokevirtual X_1661 KW_1641 at_204 207 rfl (w_108 hw) (w_109 hw) (w_111 hw) (w_110 hw) (w_72 hw) (w_112 hw) (by decide) p_1661f0 [] [(.ref st)] rfl  (c_atype1 l Z a0 hw n0 xa st h_1661 Z_1661 p_1661f2) e_1661 rfl (lenOf pd___Ljava_lang_String_ rfl) (by decide) 1 (Nat.le_of_eq rfl) (by decide) (by decide) (by decide) N_1661 ?_
        rintro _ T_1689 h_1689 locs_1689 X_1689 q_1689 ⟨rfl, r_1689⟩ N_1689
        have e_1689 := q_1689.trans r_1689
        show OGo p e below _ n0 _ (T_1689.setTop (mkF m 207 #[.val (.int p0), .val (.int p1), .val (.int p2), .val (.int p3), .val (.ref ka), .val (.ref kb), .val (.int (1 : Int32)), .val (.int (1 : Int32)), .val (.int (1 : Int32)), .val (.ref ca), .val (.ref st), .val (.ref bu), .val (.int (1 : Int32)), .val (.ref xa), .val (.ref kb), .unset] [(.ref st), (.ref st)]))
        refine o_invokevirtual X_1689 KW_1641 at_207 210 rfl (w_132 hw) (w_133 hw) (w_135 hw) (w_134 hw) (w_13 hw) (w_136 hw) (by decide) f_1670 [(.ref st)] [] rfl  (c_seq l Z a0 hw n0 st h_1661 Z_1661 ) e_1689 rfl (lenOf pd__Ljava_lang_Object__Z rfl) (by decide) 0 (Nat.le_of_eq rfl) (by decide) (by decide) (by decide) N_1689 ?_
        rintro _ T_1690 h_1690 locs_1690 X_1690 q_1690 ⟨rfl, r_1690⟩ N_1690
        have e_1690 := q_1690.trans r_1690
        show OGo p e below _ n0 _ (T_1690.setTop (mkF m 210 #[.val (.int p0), .val (.int p1), .val (.int p2), .val (.int p3), .val (.ref ka), .val (.ref kb), .val (.int (1 : Int32)), .val (.int (1 : Int32)), .val (.int (1 : Int32)), .val (.ref ca), .val (.ref st), .val (.ref bu), .val (.int (1 : Int32)), .val (.ref xa), .val (.ref kb), .unset] [(.int (1 : Int32))]))
        refine o_istore X_1690 KW_1641 at_210 212 rfl #[.val (.int p0), .val (.int p1), .val (.int p2), .val (.int p3), .val (.ref ka), .val (.ref kb), .val (.int (1 : Int32)), .val (.int (1 : Int32)), .val (.int (1 : Int32)), .val (.ref ca), .val (.ref st), .val (.ref bu), .val (.int (1 : Int32)), .val (.ref xa), .val (.ref kb), .val (.int (1 : Int32))] rfl rfl ?_
        refine o_goto X_1690 KW_1641 at_212 230 (by decide) (by decide) ?_
        refine o_iload X_1690 KW_1641 at_230 232 rfl rfl ?_
        refine o_if_eq_f X_1690 KW_1641 at_232 235 rfl (by decide) ?_
        refine o_aload X_1690 KW_1641 at_235 237 rfl rfl rfl ?_
        refine o_invokevirtual X_1690 KW_1641 at_237 240 rfl (w_113 hw) (w_114 hw) (w_116 hw) (w_115 hw) (w_72 hw) (w_117 hw) (by decide) p_1661f0 [] [] rfl  (c_akind l Z a0 hw n0 xa kb h_1661 Z_1661 p_1661f1) e_1690 rfl (lenOf pd___Lcom_example_dhole_dhole_event_ActorKind_ rfl) (by decide) 0 (Nat.le_of_eq rfl) (by decide) (by decide) (by decide) N_1690 ?_
        rintro _ T_1691 h_1691 locs_1691 X_1691 q_1691 ⟨rfl, r_1691⟩ N_1691
        have e_1691 := q_1691.trans r_1691
        show OGo p e below _ n0 _ (T_1691.setTop (mkF m 240 #[.val (.int p0), .val (.int p1), .val (.int p2), .val (.int p3), .val (.ref ka), .val (.ref kb), .val (.int (1 : Int32)), .val (.int (1 : Int32)), .val (.int (1 : Int32)), .val (.ref ca), .val (.ref st), .val (.ref bu), .val (.int (1 : Int32)), .val (.ref xa), .val (.ref kb), .val (.int (1 : Int32))] [(.ref kb)]))
        refine o_aload X_1691 KW_1641 at_240 242 rfl rfl rfl ?_
        refine o_acmp X_1691 KW_1641 at_242 245 rfl rfl true (decide_eq_true rfl) (by decide) (by decide) ?_
        refine o_iload X_1691 KW_1641 at_245 247 rfl rfl ?_
        refine o_if_eq_f X_1691 KW_1641 at_247 250 rfl (by decide) ?_
        refine o_aload X_1691 KW_1641 at_250 252 rfl rfl rfl ?_
        refine o_invokevirtual X_1691 KW_1641 at_252 255 rfl (w_118 hw) (w_119 hw) (w_121 hw) (w_120 hw) (w_72 hw) (w_122 hw) (by decide) p_1661f0 [] [] rfl  (c_amfa l Z a0 hw n0 xa h_1661 Z_1661 p_1661f3) e_1691 rfl (lenOf pd___Ljava_lang_Boolean_ rfl) (by decide) 0 (Nat.le_of_eq rfl) (by decide) (by decide) (by decide) N_1691 ?_
        rintro _ T_1692 h_1692 locs_1692 X_1692 q_1692 ⟨rfl, r_1692⟩ N_1692
        have e_1692 := q_1692.trans r_1692
        show OGo p e below _ n0 _ (T_1692.setTop (mkF m 255 #[.val (.int p0), .val (.int p1), .val (.int p2), .val (.int p3), .val (.ref ka), .val (.ref kb), .val (.int (1 : Int32)), .val (.int (1 : Int32)), .val (.int (1 : Int32)), .val (.ref ca), .val (.ref st), .val (.ref bu), .val (.int (1 : Int32)), .val (.ref xa), .val (.ref kb), .val (.int (1 : Int32))] [.null]))
        refine o_ifnonnull_f X_1692 KW_1641 at_255 258 rfl ?_
        refine o_iconst X_1692 KW_1641 (1 : Int32) at_258 259 rfl rfl ?_
        refine o_goto X_1692 KW_1641 at_259 263 (by decide) (by decide) ?_
        refine o_ireturnNW X_1692 hS_1641 e_1692 hk_1661 KW_1641 (by decide) at_263 (by decide) (by decide) N_1692 ?_
        exact rfl
set_option maxHeartbeats 4000000 in
theorem comes_1 {Post : Tables → Env → Array Value → State → Outcome → State → Prop} (hpost : ∀ tb e args s v u, (limb_1_1.after args s (.returned v) u = true ∧ limb_1_2.after args s (.returned v) u = true ∧ True) → Jvm.D.FramedW s (.returned v) u (Jvm.fieldLocs frame_1_writes args s ++ Jvm.arrayLocs frame_1_arrays args s ++ Jvm.staticLocs frame_1_statics s) 24 1152 → Post tb e args s (.returned v) u) :
    ArmFor flags0 classFile x code maxLocals ret World_1 tables_1 room_1 Calls_1 rest_1 Pre_1 Post := by
  intro l hfl _ _ p e ha hc hk s m args below hf hA hF happ hP
  obtain ⟨hcalls, hrest, hpre⟩ := hP
  obtain ⟨-, -, -, hnamed, -, -, -, hat⟩ := (Spec.applies_iff hf).mp happ
  obtain ⟨hg, hn⟩ := and_e (Cond.before_iff.mp (show (Jvm.Cond.and given_1 narrow_1).before args s = true from hpre))
  obtain ⟨g1, g2⟩ := and_e hg
  obtain ⟨g3, g4⟩ := and_e g2
  obtain ⟨g5, g6⟩ := and_e g4
  obtain ⟨g7, g8⟩ := and_e g6
  obtain ⟨w0, w1, w2, w3, rfl⟩ : ∃ w0 w1 w2 w3 : Value, args = #[w0, w1, w2, w3] := by
    have hs : args.size = 4 := by simpa [Cond.value, given_1] using g1
    obtain ⟨L⟩ := args
    match L, hs with
    | [w0, w1, w2, w3], _ => exact ⟨w0, w1, w2, w3, rfl⟩
  have hw := fun d (hd : d ∈ tables_1) => atoms_spec (ws := Jvm.Cond.code x code maxLocals ret :: tables_1) hat d (List.mem_cons_of_mem _ hd)
  have hfit : Fit s := fun {y c} hc i hi => by
    obtain ⟨ha, rfl⟩ := Array.getElem?_eq_some_iff.mp hc
    have q := List.all_eq_true.mp ((Array.all_eq_true_iff_forall_mem.mp hF) _ (Array.getElem_mem ha)) i (List.mem_range.mpr hi)
    simpa [Array.getElem?_eq_getElem hi] using q
  obtain ⟨hsets, hown0⟩ := atoms_of _ (rest_1_c_eq ▸ (show rest_1_c.before _ s = true from hrest))
  have hr0 := Cond.before_iff.mp hown0
  have ncs := not_v (Cond.before_iff.mp (hsets _ (List.mem_of_getElem? (i := 2) rfl)))
  obtain ⟨zcs, ecs⟩ := is_v (Cond.before_iff.mp (hsets _ (List.mem_of_getElem? (i := 1) rfl)))
  have Scs : Sta s s.heap "java/lang/String" "COMPACT_STRINGS" "Z" (.int zcs) := Sta.start ecs (Or.inl (hsets _ (List.mem_of_getElem? (i := 0) rfl)))
  have hcs : ¬ (zcs = (0 : Int32)) := gotF (Cond.eq_ints ecs (Term.int_eval (0))) ncs
  obtain ⟨i0, ei0⟩ := is_v g3
  obtain rfl : w0 = (.int i0) := Option.some.inj ei0
  obtain ⟨i1, ei1⟩ := is_v g5
  obtain rfl : w1 = (.int i1) := Option.some.inj ei1
  obtain ⟨i2, ei2⟩ := is_v g7
  obtain rfl : w2 = (.int i2) := Option.some.inj ei2
  obtain ⟨i3, ei3⟩ := is_v g8
  obtain rfl : w3 = (.int i3) := Option.some.inj ei3
  obtain ⟨x0, hn⟩ := and_e hn
  obtain ⟨x3, hn⟩ := and_e hn
  obtain ⟨x4, hn⟩ := and_e hn
  obtain ⟨x2, x1⟩ := and_e hn
  obtain ⟨r0, v0⟩ := exa_v x0
  have E0 := Exa.start v0 x0
  have S0 := Sta.start v0 (Or.inr ⟨(w_6 hw), (w_7 hw)⟩)
  obtain ⟨r1, v1⟩ := exa_v x1
  have E1 := Exa.start v1 x1
  have S1 := Sta.start v1 (Or.inr ⟨(w_6 hw), (w_138 hw)⟩)
  obtain ⟨r2, v2⟩ := exa_v x2
  have E2 := Exa.start v2 x2
  have S2 := Sta.start v2 (Or.inr ⟨(w_6 hw), (w_124 hw)⟩)
  obtain ⟨r3, v3⟩ := exa_v x3
  have E3 := Exa.start v3 x3
  have S3 := Sta.start v3 (Or.inr ⟨(w_6 hw), (w_9 hw)⟩)
  obtain ⟨r4, v4⟩ := exa_v x4
  have E4 := Exa.start v4 x4
  have S4 := Sta.start v4 (Or.inr ⟨(w_6 hw), (w_48 hw)⟩)
  obtain ⟨n, o, h1, h2, h3, _, L, rfl, ⟨rfl, N⟩, hq⟩ := rm0 l s _ hw s.heap.size i0 i1 i2 i3 zcs r0 r1 r2 r3 r4 s.heap (Nat.le_refl _) Scs hcs S0 S1 S2 S3 S4 E0 E1 E2 E3 E4 tables_1 p e ha hc hk s m _ below hf ((Spec.applies_iff_loose hf).mp happ).1 ⟨rfl, State.Warmed39.refl s, rfl⟩ trivial
  refine ⟨n, _, h1, h2, h3, hpost _ _ _ _ _ _ ⟨Cond.after_iff.mpr rfl, Cond.after_iff.mpr (eq_i res_at (Term.int_eval (1)) rfl), trivial⟩ ⟨hq.1, hq.2.1, hq.2.2.1, (hq.2.2.2.sift fun y hy => Or.inr (N y hy)).mono (by decide) (by decide)⟩⟩
theorem main_1_1 : Claimed_1_1 := comes_1 fun _ _ _ _ _ _ h hF => ⟨h.1, hF⟩
theorem main_1_2 : Claimed_1_2 := comes_1 fun _ _ _ _ _ _ h hF => ⟨h.2.1, hF⟩
end Jvm.Pilot.@@N@@
namespace Jvm.Pilot.@@N@@
open Jvm Jvm.ClassFile Sem Op Lib Jvm.Free Jvm.Stand Jvm.Pilot.@@N@@.Jvm.D
/-! MADE BY PROGRAM (witnessworld.py) out of the Statement's table words and the real class files: 24 classes; the members and pool entries that the words name. The judged class is class 1, her method 2. -/
namespace start1
open Jvm.ClassFile
def u (s : String) : CpInfo := .utf8 (stringToUtf16 s)
/-- a pool by its gaps: so many unusable entries, then the entry; so many at the end -/
def gap : Nat → List CpInfo → List CpInfo
  | 0, r => r
  | n + 1, r => .unusable :: gap n r
def poolList (es : List (Nat × CpInfo)) (last : Nat) : List CpInfo := es.foldr (fun e r => gap e.1 (e.2 :: r)) (gap last [])
def pool (es : List (Nat × CpInfo)) (last : Nat) : Array CpInfo := ⟨poolList es last⟩
def fileOf (pool : Array CpInfo) (this : Nat) (attrs : Array Attribute := #[]) (ms : Array MethodInfo := #[]) (fl : Nat := 33) (sup : Nat := 0) (ifs : Array Nat := #[]) (fds : Array FieldInfo := #[]) : ClassFile where
  minorVersion := 0
  majorVersion := 65
  constantPool := pool
  accessFlags := fl
  thisClass := this
  superClass := sup
  interfaces := ifs
  fields := fds
  methods := ms
  attributes := attrs
def plain (name : String) (sup : Option ClassId) : Class where
  name := name
  kind := .ordinary
  loader := none
  accessFlags := 33
  super := sup
  interfaces := #[]
  cf := none
  fields := #[]
  methods := #[]
  instanceTypes := #[]
  staticTypes := #[]
  resolved := #[]
  callSites := []
  init := .initialized
  statics := none
  mirror := none

def pool0 : Array CpInfo := pool [(5, u "<init>"), (0, u "()V"), (1, .class_ 10), (1, u "java/lang/Object")] 113

def k0c0 : Code := { maxStack := 0, maxLocals := 1, code := object_method_1_code, exceptionTable := #[], attributes := #[] }
def k0m0 : Method := { name := "<init>", desc := "()V", sig := { parameters := [], returnType := none }, accessFlags := 1, code := some k0c0 }
/-- java/lang/Object -/
def k0 : Class := { plain "java/lang/Object" none with
  accessFlags := 33
  interfaces := #[]
  cf := some (fileOf pool0 8 #[] #[{ accessFlags := 1, nameIndex := 5, descriptorIndex := 6, attributes := #[] }] 33 0 #[] #[])
  fields := #[]
  methods := #[k0m0]
  instanceTypes := #[]
  staticTypes := #[]
  resolved := Array.replicate 124 none
  statics := none }

def pool1 : Array CpInfo := pool [(2, .class_ 4), (0, .nameAndType 5 6), (0, u "java/lang/Object"), (0, u "<init>"), (0, u "()V"), (0, .integer 2147483647), (0, .fieldref 9 10), (0, .class_ 11), (0, .nameAndType 12 13), (0, u "com/example/dhole/dhole/event/ActorKind"), (0, u "ROOT"), (0, u "Lcom/example/dhole/dhole/event/ActorKind;"), (0, .fieldref 9 15), (0, .nameAndType 16 13), (0, u "USER"), (0, .fieldref 9 18), (0, .nameAndType 19 13), (0, u "ROLE"), (0, .fieldref 9 21), (0, .nameAndType 22 13), (0, u "SERVICE"), (0, .fieldref 9 24), (0, .nameAndType 25 13), (0, u "UNKNOWN"), (0, .methodref 27 28), (0, .class_ 29), (0, .nameAndType 30 31), (0, u "com/example/dhole/dhole/event/ActorKindPinLaw"), (0, u "pick"), (0, u "(I)Lcom/example/dhole/dhole/event/ActorKind;"), (0, .class_ 33), (0, u "java/lang/String"), (0, .methodref 32 35), (0, .nameAndType 5 36), (0, u "([C)V"), (0, .class_ 38), (0, u "com/example/dhole/dhole/event/Actor$Builder"), (0, .methodref 37 3), (0, .methodref 37 41), (0, .nameAndType 42 43), (0, u "kind"), (0, u "(Lcom/example/dhole/dhole/event/ActorKind;)Lcom/example/dhole/dhole/event/Actor$Builder;"), (0, .methodref 37 45), (0, .nameAndType 46 47), (0, u "type"), (0, u "(Ljava/lang/String;)Lcom/example/dhole/dhole/event/Actor$Builder;"), (0, .methodref 37 49), (0, .nameAndType 50 51), (0, u "build"), (0, u "()Lcom/example/dhole/dhole/event/Actor;"), (0, .methodref 53 54), (0, .class_ 55), (0, .nameAndType 46 56), (0, u "com/example/dhole/dhole/event/Actor"), (0, u "()Ljava/lang/String;"), (0, .methodref 32 58), (0, .nameAndType 59 60), (0, u "equals"), (0, u "(Ljava/lang/Object;)Z"), (0, .methodref 53 62), (0, .nameAndType 42 63), (0, u "()Lcom/example/dhole/dhole/event/ActorKind;"), (0, .methodref 53 65), (0, .nameAndType 66 67), (0, u "mfa"), (0, u "()Ljava/lang/Boolean;"), (3, u "law"), (0, u "(IIII)Z")] 6

def k1m0 : Method := { name := "<init>", desc := "()V", sig := { parameters := [], returnType := none }, accessFlags := 1, code := none }
def k1c1 : Code := { maxStack := 2, maxLocals := 2, code := method_2_code, exceptionTable := #[], attributes := #[] }
def k1m1 : Method := { name := "pick", desc := "(I)Lcom/example/dhole/dhole/event/ActorKind;", sig := { parameters := [.int], returnType := some (.object "com/example/dhole/dhole/event/ActorKind") }, accessFlags := 10, code := some k1c1 }
def k1c2 : Code := { maxStack := 5, maxLocals := 16, code := code, exceptionTable := #[], attributes := #[] }
def k1m2 : Method := { name := "law", desc := "(IIII)Z", sig := { parameters := [.int, .int, .int, .int], returnType := some .boolean }, accessFlags := 9, code := some k1c2 }
/-- com/example/dhole/dhole/event/ActorKindPinLaw -/
def k1 : Class := { plain "com/example/dhole/dhole/event/ActorKindPinLaw" (some 0) with
  accessFlags := 49
  interfaces := #[]
  cf := some (fileOf pool1 27 #[] #[{ accessFlags := 1, nameIndex := 5, descriptorIndex := 6, attributes := #[] }, { accessFlags := 10, nameIndex := 30, descriptorIndex := 31, attributes := #[] }, { accessFlags := 9, nameIndex := 71, descriptorIndex := 72, attributes := #[] }] 49 2 #[] #[])
  fields := #[]
  methods := #[k1m0, k1m1, k1m2]
  instanceTypes := #[]
  staticTypes := #[]
  resolved := Array.replicate 79 none
  statics := none }

def pool2 : Array CpInfo := pool [(1, .class_ 2), (0, u "java/lang/constant/Constable"), (0, .class_ 4), (0, u "java/lang/Object")] 6

/-- java/lang/constant/Constable -/
def k2 : Class := { plain "java/lang/constant/Constable" (some 0) with
  accessFlags := 1537
  interfaces := #[]
  cf := some (fileOf pool2 1 #[] #[] 1537 3 #[] #[])
  fields := #[]
  methods := #[]
  instanceTypes := #[]
  staticTypes := #[]
  resolved := Array.replicate 11 none
  statics := none }

def pool3 : Array CpInfo := pool [(1, .class_ 2), (0, u "java/lang/Comparable"), (0, .class_ 4), (0, u "java/lang/Object")] 7

/-- java/lang/Comparable -/
def k3 : Class := { plain "java/lang/Comparable" (some 0) with
  accessFlags := 1537
  interfaces := #[]
  cf := some (fileOf pool3 1 #[] #[] 1537 3 #[] #[])
  fields := #[]
  methods := #[]
  instanceTypes := #[]
  staticTypes := #[]
  resolved := Array.replicate 12 none
  statics := none }

def pool4 : Array CpInfo := pool [(1, .class_ 2), (0, u "java/io/Serializable"), (0, .class_ 4), (0, u "java/lang/Object")] 2

/-- java/io/Serializable -/
def k4 : Class := { plain "java/io/Serializable" (some 0) with
  accessFlags := 1537
  interfaces := #[]
  cf := some (fileOf pool4 1 #[] #[] 1537 3 #[] #[])
  fields := #[]
  methods := #[]
  instanceTypes := #[]
  staticTypes := #[]
  resolved := Array.replicate 7 none
  statics := none }

def pool5 : Array CpInfo := pool [(2, .class_ 4), (1, u "java/lang/Enum"), (0, u "name"), (0, u "Ljava/lang/String;"), (2, u "ordinal"), (0, u "I"), (1, .class_ 14), (1, u "java/lang/Object"), (4, u "hash"), (86, .class_ 108), (1, u "java/lang/Enum$EnumDesc"), (2, .class_ 112), (0, u "java/lang/constant/Constable"), (0, .class_ 114), (0, u "java/lang/Comparable"), (0, .class_ 116), (0, u "java/io/Serializable")] 87

/-- java/lang/Enum -/
def k5 : Class := { plain "java/lang/Enum" (some 0) with
  accessFlags := 1057
  interfaces := #[2, 3, 4]
  cf := some (fileOf pool5 2 #[.nestMembers #[106]] #[] 1057 12 #[111, 113, 115] #[{ accessFlags := 18, nameIndex := 5, descriptorIndex := 6, attributes := #[] }, { accessFlags := 18, nameIndex := 9, descriptorIndex := 10, attributes := #[] }, { accessFlags := 2, nameIndex := 19, descriptorIndex := 10, attributes := #[] }])
  fields := #[{ name := "name", type := (.object "java/lang/String"), accessFlags := 18, slot := 0, constantValue := 0 }, { name := "ordinal", type := .int, accessFlags := 18, slot := 1, constantValue := 0 }, { name := "hash", type := .int, accessFlags := 2, slot := 2, constantValue := 0 }]
  methods := #[]
  instanceTypes := #[(.object "java/lang/String"), .int, .int]
  staticTypes := #[]
  resolved := Array.replicate 204 none
  statics := none }

def pool6 : Array CpInfo := pool [(1, .class_ 2), (0, u "com/example/dhole/dhole/event/ActorKind"), (2, u "ROOT"), (0, u "Lcom/example/dhole/dhole/event/ActorKind;"), (2, u "USER"), (2, u "ROLE"), (2, u "SERVICE"), (2, u "UNKNOWN"), (2, u "$VALUES"), (0, u "[Lcom/example/dhole/dhole/event/ActorKind;"), (6, .class_ 31), (1, u "java/lang/Enum"), (8, u "text"), (0, u "Ljava/lang/String;")] 35

/-- com/example/dhole/dhole/event/ActorKind -/
def k6 : Class := { plain "com/example/dhole/dhole/event/ActorKind" (some 5) with
  accessFlags := 16433
  interfaces := #[]
  cf := some (fileOf pool6 1 #[] #[] 16433 29 #[] #[{ accessFlags := 16409, nameIndex := 5, descriptorIndex := 6, attributes := #[] }, { accessFlags := 16409, nameIndex := 9, descriptorIndex := 6, attributes := #[] }, { accessFlags := 16409, nameIndex := 12, descriptorIndex := 6, attributes := #[] }, { accessFlags := 16409, nameIndex := 15, descriptorIndex := 6, attributes := #[] }, { accessFlags := 16409, nameIndex := 18, descriptorIndex := 6, attributes := #[] }, { accessFlags := 18, nameIndex := 40, descriptorIndex := 41, attributes := #[] }, { accessFlags := 4122, nameIndex := 21, descriptorIndex := 22, attributes := #[] }])
  fields := #[{ name := "ROOT", type := (.object "com/example/dhole/dhole/event/ActorKind"), accessFlags := 16409, slot := 0, constantValue := 0 }, { name := "USER", type := (.object "com/example/dhole/dhole/event/ActorKind"), accessFlags := 16409, slot := 1, constantValue := 0 }, { name := "ROLE", type := (.object "com/example/dhole/dhole/event/ActorKind"), accessFlags := 16409, slot := 2, constantValue := 0 }, { name := "SERVICE", type := (.object "com/example/dhole/dhole/event/ActorKind"), accessFlags := 16409, slot := 3, constantValue := 0 }, { name := "UNKNOWN", type := (.object "com/example/dhole/dhole/event/ActorKind"), accessFlags := 16409, slot := 4, constantValue := 0 }, { name := "text", type := (.object "java/lang/String"), accessFlags := 18, slot := 3, constantValue := 0 }, { name := "$VALUES", type := (.array (.object "com/example/dhole/dhole/event/ActorKind")), accessFlags := 4122, slot := 5, constantValue := 0 }]
  methods := #[]
  instanceTypes := #[(.object "java/lang/String"), .int, .int, (.object "java/lang/String")]
  staticTypes := #[(.object "com/example/dhole/dhole/event/ActorKind"), (.object "com/example/dhole/dhole/event/ActorKind"), (.object "com/example/dhole/dhole/event/ActorKind"), (.object "com/example/dhole/dhole/event/ActorKind"), (.object "com/example/dhole/dhole/event/ActorKind"), (.array (.object "com/example/dhole/dhole/event/ActorKind"))]
  resolved := Array.replicate 77 none
  statics := some 0 }

def pool7 : Array CpInfo := pool [(2, .class_ 4), (1, u "java/lang/CharSequence"), (42, .class_ 48), (0, u "java/lang/CharSequence$1CodePointIterator"), (10, .class_ 60), (0, u "java/lang/CharSequence$1CharIterator"), (5, .class_ 67), (0, u "java/lang/Object")] 63

/-- java/lang/CharSequence -/
def k7 : Class := { plain "java/lang/CharSequence" (some 0) with
  accessFlags := 1537
  interfaces := #[]
  cf := some (fileOf pool7 2 #[.nestMembers #[47, 59]] #[] 1537 66 #[] #[])
  fields := #[]
  methods := #[]
  instanceTypes := #[]
  staticTypes := #[]
  resolved := Array.replicate 131 none
  statics := none }

def pool8 : Array CpInfo := pool [(1, .class_ 2), (0, u "java/lang/constant/ConstantDesc"), (0, .class_ 4), (0, u "java/lang/Object")] 32

/-- java/lang/constant/ConstantDesc -/
def k8 : Class := { plain "java/lang/constant/ConstantDesc" (some 0) with
  accessFlags := 1537
  interfaces := #[]
  cf := some (fileOf pool8 1 #[] #[] 1537 3 #[] #[])
  fields := #[]
  methods := #[]
  instanceTypes := #[]
  staticTypes := #[]
  resolved := Array.replicate 37 none
  statics := none }

def pool9 : Array CpInfo := pool [(1, .methodref 2 3), (0, .class_ 4), (0, .nameAndType 5 6), (0, u "java/lang/Object"), (0, u "<init>"), (0, u "()V"), (2, .fieldref 10 11), (0, .class_ 12), (0, .nameAndType 13 14), (0, u "java/lang/String"), (0, u "value"), (0, u "[B"), (0, .fieldref 10 16), (0, .nameAndType 17 18), (0, u "coder"), (0, u "B"), (2, u "hash"), (0, u "I"), (2, u "hashIsZero"), (0, u "Z"), (0, .methodref 10 28), (0, .nameAndType 5 29), (0, u "([CIILjava/lang/Void;)V"), (8, .fieldref 10 39), (0, .nameAndType 40 26), (0, u "COMPACT_STRINGS"), (1, .class_ 44), (1, u "java/lang/StringUTF16"), (0, u "compress"), (1, .methodref 42 48), (0, .nameAndType 49 50), (0, u "coderFromArrayLen"), (0, u "([BI)B"), (126, .methodref 42 178), (0, .nameAndType 45 179), (0, u "([CII)[B"), (363, u "equals"), (29, u "(Ljava/lang/Object;)Z"), (1, .class_ 576), (0, u "java/lang/CharSequence"), (22, u "CASE_INSENSITIVE_ORDER"), (0, u "Ljava/util/Comparator;"), (409, u "([C)V"), (90, u "serialPersistentFields"), (0, u "[Ljava/io/ObjectStreamField;"), (0, .class_ 1104), (0, u "java/lang/String$CaseInsensitiveComparator"), (1, .class_ 1107), (0, u "java/io/Serializable"), (0, .class_ 1109), (0, u "java/lang/Comparable"), (0, .class_ 1111), (0, u "java/lang/constant/Constable"), (0, .class_ 1113), (0, u "java/lang/constant/ConstantDesc"), (2, u "serialVersionUID"), (0, u "J"), (3, u "REPL"), (0, u "C"), (2, u "LATIN1"), (1, u "UTF16")] 323

def k9m0 : Method := { name := "<init>", desc := "()V", sig := { parameters := [], returnType := none }, accessFlags := 1, code := none }
def k9c1 : Code := { maxStack := 5, maxLocals := 2, code := jdk_42_method_3_code, exceptionTable := #[], attributes := #[] }
def k9m1 : Method := { name := "<init>", desc := "([C)V", sig := { parameters := [(.array .char)], returnType := none }, accessFlags := 1, code := some k9c1 }
def k9c2 : Code := { maxStack := 2, maxLocals := 3, code := jdk_42_method_66_code, exceptionTable := #[], attributes := #[] }
def k9m2 : Method := { name := "equals", desc := "(Ljava/lang/Object;)Z", sig := { parameters := [(.object "java/lang/Object")], returnType := some .boolean }, accessFlags := 1, code := some k9c2 }
def k9c3 : Code := { maxStack := 4, maxLocals := 6, code := jdk_42_method_149_code, exceptionTable := #[], attributes := #[] }
def k9m3 : Method := { name := "<init>", desc := "([CIILjava/lang/Void;)V", sig := { parameters := [(.array .char), .int, .int, (.object "java/lang/Void")], returnType := none }, accessFlags := 2, code := some k9c3 }
/-- java/lang/String -/
def k9 : Class := { plain "java/lang/String" (some 0) with
  accessFlags := 49
  interfaces := #[4, 3, 7, 2, 8]
  cf := some (fileOf pool9 10 #[.nestMembers #[1103]] #[{ accessFlags := 1, nameIndex := 5, descriptorIndex := 6, attributes := #[] }, { accessFlags := 1, nameIndex := 5, descriptorIndex := 1010, attributes := #[] }, { accessFlags := 1, nameIndex := 543, descriptorIndex := 573, attributes := #[] }, { accessFlags := 2, nameIndex := 5, descriptorIndex := 29, attributes := #[] }] 49 2 #[1106, 1108, 575, 1110, 1112] #[{ accessFlags := 18, nameIndex := 13, descriptorIndex := 14, attributes := #[] }, { accessFlags := 18, nameIndex := 17, descriptorIndex := 18, attributes := #[] }, { accessFlags := 2, nameIndex := 21, descriptorIndex := 22, attributes := #[] }, { accessFlags := 2, nameIndex := 25, descriptorIndex := 26, attributes := #[] }, { accessFlags := 26, nameIndex := 1116, descriptorIndex := 1117, attributes := #[] }, { accessFlags := 24, nameIndex := 40, descriptorIndex := 26, attributes := #[] }, { accessFlags := 26, nameIndex := 1101, descriptorIndex := 1102, attributes := #[] }, { accessFlags := 26, nameIndex := 1121, descriptorIndex := 1122, attributes := #[] }, { accessFlags := 25, nameIndex := 599, descriptorIndex := 600, attributes := #[] }, { accessFlags := 24, nameIndex := 1125, descriptorIndex := 18, attributes := #[] }, { accessFlags := 24, nameIndex := 1127, descriptorIndex := 18, attributes := #[] }])
  fields := #[{ name := "value", type := (.array .byte), accessFlags := 18, slot := 0, constantValue := 0 }, { name := "coder", type := .byte, accessFlags := 18, slot := 1, constantValue := 0 }, { name := "hash", type := .int, accessFlags := 2, slot := 2, constantValue := 0 }, { name := "hashIsZero", type := .boolean, accessFlags := 2, slot := 3, constantValue := 0 }, { name := "serialVersionUID", type := .long, accessFlags := 26, slot := 0, constantValue := 0 }, { name := "COMPACT_STRINGS", type := .boolean, accessFlags := 24, slot := 1, constantValue := 0 }, { name := "serialPersistentFields", type := (.array (.object "java/io/ObjectStreamField")), accessFlags := 26, slot := 2, constantValue := 0 }, { name := "REPL", type := .char, accessFlags := 26, slot := 3, constantValue := 0 }, { name := "CASE_INSENSITIVE_ORDER", type := (.object "java/util/Comparator"), accessFlags := 25, slot := 4, constantValue := 0 }, { name := "LATIN1", type := .byte, accessFlags := 24, slot := 5, constantValue := 0 }, { name := "UTF16", type := .byte, accessFlags := 24, slot := 6, constantValue := 0 }]
  methods := #[k9m0, k9m1, k9m2, k9m3]
  instanceTypes := #[(.array .byte), .byte, .int, .boolean]
  staticTypes := #[.long, .boolean, (.array (.object "java/io/ObjectStreamField")), .char, (.object "java/util/Comparator"), .byte, .byte]
  resolved := Array.replicate 1451 none
  statics := some 1 }

def pool10 : Array CpInfo := pool [(6, .class_ 8), (1, u "java/lang/Object"), (0, u "<init>"), (0, u "()V"), (1, .class_ 14), (1, u "java/lang/StringUTF16"), (31, u "$assertionsDisabled"), (0, u "Z"), (13, u "HI_BYTE_SHIFT"), (0, u "I"), (2, u "LO_BYTE_SHIFT"), (49, .methodref 12 116), (0, .nameAndType 117 118), (0, u "compress"), (0, u "([CI[BII)I"), (3, u "([CII)[B"), (138, u "coderFromArrayLen"), (0, u "([BI)B"), (106, .class_ 371), (1, u "java/lang/StringUTF16$LinesSpliterator"), (58, u "MAX_LENGTH"), (196, .class_ 628), (0, u "java/lang/StringUTF16$CodePointsSpliterator"), (0, .class_ 630), (0, u "java/lang/StringUTF16$CharsSpliterator")] 4

def k10m0 : Method := { name := "<init>", desc := "()V", sig := { parameters := [], returnType := none }, accessFlags := 0, code := none }
def k10c1 : Code := { maxStack := 2, maxLocals := 2, code := jdk_52_method_15_code, exceptionTable := #[], attributes := #[] }
def k10m1 : Method := { name := "coderFromArrayLen", desc := "([BI)B", sig := { parameters := [(.array .byte), .int], returnType := some .byte }, accessFlags := 8, code := some k10c1 }
def k10c2 : Code := { maxStack := 5, maxLocals := 6, code := jdk_52_method_16_code, exceptionTable := #[], attributes := #[] }
def k10m2 : Method := { name := "compress", desc := "([CII)[B", sig := { parameters := [(.array .char), .int, .int], returnType := some (.array .byte) }, accessFlags := 9, code := some k10c2 }
def k10c3 : Code := { maxStack := 3, maxLocals := 7, code := jdk_52_method_21_code, exceptionTable := #[], attributes := #[] }
def k10m3 : Method := { name := "compress", desc := "([CI[BII)I", sig := { parameters := [(.array .char), .int, (.array .byte), .int, .int], returnType := some .int }, accessFlags := 9, code := some k10c3 }
/-- java/lang/StringUTF16 -/
def k10 : Class := { plain "java/lang/StringUTF16" (some 0) with
  accessFlags := 48
  interfaces := #[]
  cf := some (fileOf pool10 12 #[.nestMembers #[627, 629, 369]] #[{ accessFlags := 0, nameIndex := 9, descriptorIndex := 10, attributes := #[] }, { accessFlags := 8, nameIndex := 261, descriptorIndex := 262, attributes := #[] }, { accessFlags := 9, nameIndex := 117, descriptorIndex := 122, attributes := #[] }, { accessFlags := 9, nameIndex := 117, descriptorIndex := 118, attributes := #[] }] 48 6 #[] #[{ accessFlags := 26, nameIndex := 61, descriptorIndex := 62, attributes := #[] }, { accessFlags := 26, nameIndex := 65, descriptorIndex := 62, attributes := #[] }, { accessFlags := 24, nameIndex := 430, descriptorIndex := 62, attributes := #[] }, { accessFlags := 4120, nameIndex := 46, descriptorIndex := 47, attributes := #[] }])
  fields := #[{ name := "HI_BYTE_SHIFT", type := .int, accessFlags := 26, slot := 0, constantValue := 0 }, { name := "LO_BYTE_SHIFT", type := .int, accessFlags := 26, slot := 1, constantValue := 0 }, { name := "MAX_LENGTH", type := .int, accessFlags := 24, slot := 2, constantValue := 0 }, { name := "$assertionsDisabled", type := .boolean, accessFlags := 4120, slot := 3, constantValue := 0 }]
  methods := #[k10m0, k10m1, k10m2, k10m3]
  instanceTypes := #[]
  staticTypes := #[.int, .int, .int, .boolean]
  resolved := Array.replicate 635 none
  statics := none }

def pool11 : Array CpInfo := pool [(1, .methodref 2 3), (0, .class_ 4), (0, .nameAndType 5 6), (0, u "java/lang/Object"), (0, u "<init>"), (0, u "()V"), (0, .fieldref 8 9), (0, .class_ 10), (0, .nameAndType 11 12), (0, u "com/example/dhole/dhole/event/ActorKind"), (0, u "UNKNOWN"), (0, u "Lcom/example/dhole/dhole/event/ActorKind;"), (0, .fieldref 14 15), (0, .class_ 16), (0, .nameAndType 17 12), (0, u "com/example/dhole/dhole/event/Actor$Builder"), (0, u "kind"), (0, .string 17), (0, .methodref 20 21), (0, .class_ 22), (0, .nameAndType 23 24), (0, u "java/util/Objects"), (0, u "requireNonNull"), (0, u "(Ljava/lang/Object;Ljava/lang/String;)Ljava/lang/Object;"), (0, .fieldref 14 26), (0, .nameAndType 27 28), (0, u "type"), (0, u "Ljava/lang/String;"), (2, u "id"), (2, u "account"), (2, u "name"), (2, u "accessKey"), (2, u "mfa"), (0, u "Ljava/lang/Boolean;"), (2, u "sessionCreated"), (0, u "Lcom/example/dhole/dhole/event/EventTime;"), (0, .class_ 50), (0, u "com/example/dhole/dhole/event/Actor"), (0, .methodref 49 52), (0, .nameAndType 5 53), (0, u "(Lcom/example/dhole/dhole/event/Actor$Builder;)V"), (2, u "(Lcom/example/dhole/dhole/event/ActorKind;)Lcom/example/dhole/dhole/event/Actor$Builder;"), (0, u "(Ljava/lang/String;)Lcom/example/dhole/dhole/event/Actor$Builder;"), (2, u "build"), (0, u "()Lcom/example/dhole/dhole/event/Actor;")] 5

def k11c0 : Code := { maxStack := 2, maxLocals := 1, code := prog_5_method_1_code, exceptionTable := #[], attributes := #[] }
def k11m0 : Method := { name := "<init>", desc := "()V", sig := { parameters := [], returnType := none }, accessFlags := 1, code := some k11c0 }
def k11c1 : Code := { maxStack := 3, maxLocals := 2, code := prog_5_method_2_code, exceptionTable := #[], attributes := #[] }
def k11m1 : Method := { name := "kind", desc := "(Lcom/example/dhole/dhole/event/ActorKind;)Lcom/example/dhole/dhole/event/Actor$Builder;", sig := { parameters := [(.object "com/example/dhole/dhole/event/ActorKind")], returnType := some (.object "com/example/dhole/dhole/event/Actor$Builder") }, accessFlags := 1, code := some k11c1 }
def k11c2 : Code := { maxStack := 2, maxLocals := 2, code := prog_5_method_3_code, exceptionTable := #[], attributes := #[] }
def k11m2 : Method := { name := "type", desc := "(Ljava/lang/String;)Lcom/example/dhole/dhole/event/Actor$Builder;", sig := { parameters := [(.object "java/lang/String")], returnType := some (.object "com/example/dhole/dhole/event/Actor$Builder") }, accessFlags := 1, code := some k11c2 }
def k11c3 : Code := { maxStack := 3, maxLocals := 1, code := prog_5_method_10_code, exceptionTable := #[], attributes := #[] }
def k11m3 : Method := { name := "build", desc := "()Lcom/example/dhole/dhole/event/Actor;", sig := { parameters := [], returnType := some (.object "com/example/dhole/dhole/event/Actor") }, accessFlags := 1, code := some k11c3 }
/-- com/example/dhole/dhole/event/Actor$Builder -/
def k11 : Class := { plain "com/example/dhole/dhole/event/Actor$Builder" (some 0) with
  accessFlags := 49
  interfaces := #[]
  cf := some (fileOf pool11 14 #[.nestHost 49] #[{ accessFlags := 1, nameIndex := 5, descriptorIndex := 6, attributes := #[] }, { accessFlags := 1, nameIndex := 17, descriptorIndex := 56, attributes := #[] }, { accessFlags := 1, nameIndex := 27, descriptorIndex := 57, attributes := #[] }, { accessFlags := 1, nameIndex := 60, descriptorIndex := 61, attributes := #[] }] 49 2 #[] #[{ accessFlags := 2, nameIndex := 17, descriptorIndex := 12, attributes := #[] }, { accessFlags := 2, nameIndex := 27, descriptorIndex := 28, attributes := #[] }, { accessFlags := 2, nameIndex := 31, descriptorIndex := 28, attributes := #[] }, { accessFlags := 2, nameIndex := 34, descriptorIndex := 28, attributes := #[] }, { accessFlags := 2, nameIndex := 37, descriptorIndex := 28, attributes := #[] }, { accessFlags := 2, nameIndex := 40, descriptorIndex := 28, attributes := #[] }, { accessFlags := 2, nameIndex := 43, descriptorIndex := 44, attributes := #[] }, { accessFlags := 2, nameIndex := 47, descriptorIndex := 48, attributes := #[] }])
  fields := #[{ name := "kind", type := (.object "com/example/dhole/dhole/event/ActorKind"), accessFlags := 2, slot := 0, constantValue := 0 }, { name := "type", type := (.object "java/lang/String"), accessFlags := 2, slot := 1, constantValue := 0 }, { name := "id", type := (.object "java/lang/String"), accessFlags := 2, slot := 2, constantValue := 0 }, { name := "account", type := (.object "java/lang/String"), accessFlags := 2, slot := 3, constantValue := 0 }, { name := "name", type := (.object "java/lang/String"), accessFlags := 2, slot := 4, constantValue := 0 }, { name := "accessKey", type := (.object "java/lang/String"), accessFlags := 2, slot := 5, constantValue := 0 }, { name := "mfa", type := (.object "java/lang/Boolean"), accessFlags := 2, slot := 6, constantValue := 0 }, { name := "sessionCreated", type := (.object "com/example/dhole/dhole/event/EventTime"), accessFlags := 2, slot := 7, constantValue := 0 }]
  methods := #[k11m0, k11m1, k11m2, k11m3]
  instanceTypes := #[(.object "com/example/dhole/dhole/event/ActorKind"), (.object "java/lang/String"), (.object "java/lang/String"), (.object "java/lang/String"), (.object "java/lang/String"), (.object "java/lang/String"), (.object "java/lang/Boolean"), (.object "com/example/dhole/dhole/event/EventTime")]
  staticTypes := #[]
  resolved := Array.replicate 67 none
  statics := none }

def pool12 : Array CpInfo := pool [(2, .class_ 4), (1, u "java/lang/Object"), (0, u "<init>"), (0, u "()V"), (35, .class_ 44), (1, u "java/util/Objects"), (0, u "requireNonNull"), (48, u "(Ljava/lang/Object;Ljava/lang/String;)Ljava/lang/Object;")] 89

def k12m0 : Method := { name := "<init>", desc := "()V", sig := { parameters := [], returnType := none }, accessFlags := 2, code := none }
def k12c1 : Code := { maxStack := 3, maxLocals := 2, code := jdk_31_method_11_code, exceptionTable := #[], attributes := #[] }
def k12m1 : Method := { name := "requireNonNull", desc := "(Ljava/lang/Object;Ljava/lang/String;)Ljava/lang/Object;", sig := { parameters := [(.object "java/lang/Object"), (.object "java/lang/String")], returnType := some (.object "java/lang/Object") }, accessFlags := 9, code := some k12c1 }
/-- java/util/Objects -/
def k12 : Class := { plain "java/util/Objects" (some 0) with
  accessFlags := 49
  interfaces := #[]
  cf := some (fileOf pool12 42 #[] #[{ accessFlags := 2, nameIndex := 5, descriptorIndex := 6, attributes := #[] }, { accessFlags := 9, nameIndex := 45, descriptorIndex := 94, attributes := #[] }] 49 2 #[] #[])
  fields := #[]
  methods := #[k12m0, k12m1]
  instanceTypes := #[]
  staticTypes := #[]
  resolved := Array.replicate 184 none
  statics := none }

def pool13 : Array CpInfo := pool [(1, .methodref 2 3), (0, .class_ 4), (0, .nameAndType 5 6), (0, u "java/lang/Object"), (0, u "<init>"), (0, u "()V"), (0, .fieldref 8 9), (0, .class_ 10), (0, .nameAndType 11 12), (0, u "com/example/dhole/dhole/event/Actor$Builder"), (0, u "kind"), (0, u "Lcom/example/dhole/dhole/event/ActorKind;"), (0, .fieldref 14 9), (0, .class_ 15), (0, u "com/example/dhole/dhole/event/Actor"), (0, .fieldref 8 17), (0, .nameAndType 18 19), (0, u "type"), (0, u "Ljava/lang/String;"), (0, .fieldref 14 17), (0, .fieldref 8 22), (0, .nameAndType 23 19), (0, u "id"), (0, .fieldref 14 22), (0, .fieldref 8 26), (0, .nameAndType 27 19), (0, u "account"), (0, .fieldref 14 26), (0, .fieldref 8 30), (0, .nameAndType 31 19), (0, u "name"), (0, .fieldref 14 30), (0, .fieldref 8 34), (0, .nameAndType 35 19), (0, u "accessKey"), (0, .fieldref 14 34), (0, .fieldref 8 38), (0, .nameAndType 39 40), (0, u "mfa"), (0, u "Ljava/lang/Boolean;"), (0, .fieldref 14 38), (0, .fieldref 8 43), (0, .nameAndType 44 45), (0, u "sessionCreated"), (0, u "Lcom/example/dhole/dhole/event/EventTime;"), (0, .fieldref 14 43), (0, u "(Lcom/example/dhole/dhole/event/Actor$Builder;)V"), (2, u "()Lcom/example/dhole/dhole/event/ActorKind;"), (0, u "()Ljava/lang/String;"), (0, u "()Ljava/lang/Boolean;")] 6

def k13c0 : Code := { maxStack := 2, maxLocals := 2, code := prog_4_method_1_code, exceptionTable := #[], attributes := #[] }
def k13m0 : Method := { name := "<init>", desc := "(Lcom/example/dhole/dhole/event/Actor$Builder;)V", sig := { parameters := [(.object "com/example/dhole/dhole/event/Actor$Builder")], returnType := none }, accessFlags := 2, code := some k13c0 }
def k13c1 : Code := { maxStack := 1, maxLocals := 1, code := prog_4_method_2_code, exceptionTable := #[], attributes := #[] }
def k13m1 : Method := { name := "kind", desc := "()Lcom/example/dhole/dhole/event/ActorKind;", sig := { parameters := [], returnType := some (.object "com/example/dhole/dhole/event/ActorKind") }, accessFlags := 1, code := some k13c1 }
def k13c2 : Code := { maxStack := 1, maxLocals := 1, code := prog_4_method_3_code, exceptionTable := #[], attributes := #[] }
def k13m2 : Method := { name := "type", desc := "()Ljava/lang/String;", sig := { parameters := [], returnType := some (.object "java/lang/String") }, accessFlags := 1, code := some k13c2 }
def k13c3 : Code := { maxStack := 1, maxLocals := 1, code := prog_4_method_8_code, exceptionTable := #[], attributes := #[] }
def k13m3 : Method := { name := "mfa", desc := "()Ljava/lang/Boolean;", sig := { parameters := [], returnType := some (.object "java/lang/Boolean") }, accessFlags := 1, code := some k13c3 }
/-- com/example/dhole/dhole/event/Actor -/
def k13 : Class := { plain "com/example/dhole/dhole/event/Actor" (some 0) with
  accessFlags := 49
  interfaces := #[]
  cf := some (fileOf pool13 14 #[.nestMembers #[8]] #[{ accessFlags := 2, nameIndex := 5, descriptorIndex := 47, attributes := #[] }, { accessFlags := 1, nameIndex := 11, descriptorIndex := 50, attributes := #[] }, { accessFlags := 1, nameIndex := 18, descriptorIndex := 51, attributes := #[] }, { accessFlags := 1, nameIndex := 39, descriptorIndex := 52, attributes := #[] }] 49 2 #[] #[{ accessFlags := 18, nameIndex := 11, descriptorIndex := 12, attributes := #[] }, { accessFlags := 18, nameIndex := 18, descriptorIndex := 19, attributes := #[] }, { accessFlags := 18, nameIndex := 23, descriptorIndex := 19, attributes := #[] }, { accessFlags := 18, nameIndex := 27, descriptorIndex := 19, attributes := #[] }, { accessFlags := 18, nameIndex := 31, descriptorIndex := 19, attributes := #[] }, { accessFlags := 18, nameIndex := 35, descriptorIndex := 19, attributes := #[] }, { accessFlags := 18, nameIndex := 39, descriptorIndex := 40, attributes := #[] }, { accessFlags := 18, nameIndex := 44, descriptorIndex := 45, attributes := #[] }])
  fields := #[{ name := "kind", type := (.object "com/example/dhole/dhole/event/ActorKind"), accessFlags := 18, slot := 0, constantValue := 0 }, { name := "type", type := (.object "java/lang/String"), accessFlags := 18, slot := 1, constantValue := 0 }, { name := "id", type := (.object "java/lang/String"), accessFlags := 18, slot := 2, constantValue := 0 }, { name := "account", type := (.object "java/lang/String"), accessFlags := 18, slot := 3, constantValue := 0 }, { name := "name", type := (.object "java/lang/String"), accessFlags := 18, slot := 4, constantValue := 0 }, { name := "accessKey", type := (.object "java/lang/String"), accessFlags := 18, slot := 5, constantValue := 0 }, { name := "mfa", type := (.object "java/lang/Boolean"), accessFlags := 18, slot := 6, constantValue := 0 }, { name := "sessionCreated", type := (.object "com/example/dhole/dhole/event/EventTime"), accessFlags := 18, slot := 7, constantValue := 0 }]
  methods := #[k13m0, k13m1, k13m2, k13m3]
  instanceTypes := #[(.object "com/example/dhole/dhole/event/ActorKind"), (.object "java/lang/String"), (.object "java/lang/String"), (.object "java/lang/String"), (.object "java/lang/String"), (.object "java/lang/String"), (.object "java/lang/Boolean"), (.object "com/example/dhole/dhole/event/EventTime")]
  staticTypes := #[]
  resolved := (((((((((Array.replicate 59 none).set! 7 (some (.field 11 0))).set! 16 (some (.field 11 1))).set! 21 (some (.field 11 2))).set! 25 (some (.field 11 3))).set! 29 (some (.field 11 4))).set! 33 (some (.field 11 5))).set! 37 (some (.field 11 6))).set! 42 (some (.field 11 7)))
  statics := none }

def pool14 : Array CpInfo := pool [(4, .class_ 6), (1, u "java/lang/Object"), (0, u "<init>"), (0, u "()V"), (5, .class_ 16), (1, u "java/lang/StringLatin1"), (104, u "$assertionsDisabled"), (0, u "Z"), (98, .class_ 223), (1, u "java/lang/StringLatin1$LinesSpliterator"), (166, .class_ 391), (0, u "java/lang/StringLatin1$CharsSpliterator")] 3

def k14m0 : Method := { name := "<init>", desc := "()V", sig := { parameters := [], returnType := none }, accessFlags := 0, code := none }
/-- java/lang/StringLatin1 -/
def k14 : Class := { plain "java/lang/StringLatin1" (some 0) with
  accessFlags := 48
  interfaces := #[]
  cf := some (fileOf pool14 14 #[.nestMembers #[390, 221]] #[{ accessFlags := 0, nameIndex := 7, descriptorIndex := 8, attributes := #[] }] 48 4 #[] #[{ accessFlags := 4120, nameIndex := 121, descriptorIndex := 122, attributes := #[] }])
  fields := #[{ name := "$assertionsDisabled", type := .boolean, accessFlags := 4120, slot := 0, constantValue := 0 }]
  methods := #[k14m0]
  instanceTypes := #[]
  staticTypes := #[.boolean]
  resolved := Array.replicate 395 none
  statics := none }

def pool15 : Array CpInfo := pool [(2, .class_ 4), (1, u "java/lang/Object"), (0, u "<init>"), (0, u "()V"), (17, .class_ 26), (1, u "jdk/internal/util/Preconditions"), (28, .class_ 56), (0, u "jdk/internal/util/Preconditions$4"), (57, .class_ 115), (0, u "jdk/internal/util/Preconditions$1"), (7, u "SIOOBE_FORMATTER"), (0, u "Ljava/util/function/BiFunction;"), (0, .class_ 126), (0, u "jdk/internal/util/Preconditions$2"), (3, u "AIOOBE_FORMATTER"), (0, .class_ 132), (0, u "jdk/internal/util/Preconditions$3"), (3, u "IOOBE_FORMATTER")] 57

def k15m0 : Method := { name := "<init>", desc := "()V", sig := { parameters := [], returnType := none }, accessFlags := 1, code := none }
/-- jdk/internal/util/Preconditions -/
def k15 : Class := { plain "jdk/internal/util/Preconditions" (some 0) with
  accessFlags := 33
  interfaces := #[]
  cf := some (fileOf pool15 24 #[.nestMembers #[55, 131, 125, 114]] #[{ accessFlags := 1, nameIndex := 5, descriptorIndex := 6, attributes := #[] }] 33 2 #[] #[{ accessFlags := 25, nameIndex := 123, descriptorIndex := 124, attributes := #[] }, { accessFlags := 25, nameIndex := 130, descriptorIndex := 124, attributes := #[] }, { accessFlags := 25, nameIndex := 136, descriptorIndex := 124, attributes := #[] }])
  fields := #[{ name := "SIOOBE_FORMATTER", type := (.object "java/util/function/BiFunction"), accessFlags := 25, slot := 0, constantValue := 0 }, { name := "AIOOBE_FORMATTER", type := (.object "java/util/function/BiFunction"), accessFlags := 25, slot := 1, constantValue := 0 }, { name := "IOOBE_FORMATTER", type := (.object "java/util/function/BiFunction"), accessFlags := 25, slot := 2, constantValue := 0 }]
  methods := #[k15m0]
  instanceTypes := #[]
  staticTypes := #[(.object "java/util/function/BiFunction"), (.object "java/util/function/BiFunction"), (.object "java/util/function/BiFunction")]
  resolved := Array.replicate 194 none
  statics := some 2 }

def pool16 : Array CpInfo := pool [(9, u "<init>"), (6, .class_ 18), (1, u "java/lang/Object"), (0, u "()V"), (1, .class_ 23), (1, u "jdk/internal/util/ArraysSupport"), (0, u "LOG2_ARRAY_LONG_INDEX_SCALE"), (0, u "I"), (2, u "U"), (0, u "Ljdk/internal/misc/Unsafe;"), (8, u "BIG_ENDIAN"), (0, u "Z"), (8, u "LOG2_BYTE_BIT_SIZE"), (4, u "LOG2_ARRAY_INT_INDEX_SCALE"), (54, u "JLA"), (0, u "Ljdk/internal/access/JavaLangAccess;"), (11, u "LOG2_ARRAY_BOOLEAN_INDEX_SCALE"), (9, u "LOG2_ARRAY_BYTE_INDEX_SCALE"), (5, u "LOG2_ARRAY_CHAR_INDEX_SCALE"), (5, u "LOG2_ARRAY_SHORT_INDEX_SCALE"), (18, u "LOG2_ARRAY_FLOAT_INDEX_SCALE"), (24, u "LOG2_ARRAY_DOUBLE_INDEX_SCALE"), (89, u "T_BOOLEAN"), (2, u "T_CHAR"), (1, u "T_FLOAT"), (1, u "T_DOUBLE"), (1, u "T_BYTE"), (1, u "T_SHORT"), (1, u "T_INT"), (1, u "T_LONG"), (1, u "SOFT_MAX_ARRAY_LENGTH")] 83

def k16m0 : Method := { name := "<init>", desc := "()V", sig := { parameters := [], returnType := none }, accessFlags := 2, code := none }
/-- jdk/internal/util/ArraysSupport -/
def k16 : Class := { plain "jdk/internal/util/ArraysSupport" (some 0) with
  accessFlags := 33
  interfaces := #[]
  cf := some (fileOf pool16 21 #[] #[{ accessFlags := 2, nameIndex := 9, descriptorIndex := 19, attributes := #[] }] 33 16 #[] #[{ accessFlags := 24, nameIndex := 28, descriptorIndex := 29, attributes := #[] }, { accessFlags := 26, nameIndex := 38, descriptorIndex := 39, attributes := #[] }, { accessFlags := 25, nameIndex := 121, descriptorIndex := 25, attributes := #[] }, { accessFlags := 25, nameIndex := 131, descriptorIndex := 25, attributes := #[] }, { accessFlags := 25, nameIndex := 137, descriptorIndex := 25, attributes := #[] }, { accessFlags := 25, nameIndex := 143, descriptorIndex := 25, attributes := #[] }, { accessFlags := 25, nameIndex := 53, descriptorIndex := 25, attributes := #[] }, { accessFlags := 25, nameIndex := 24, descriptorIndex := 25, attributes := #[] }, { accessFlags := 25, nameIndex := 162, descriptorIndex := 25, attributes := #[] }, { accessFlags := 25, nameIndex := 187, descriptorIndex := 25, attributes := #[] }, { accessFlags := 26, nameIndex := 48, descriptorIndex := 25, attributes := #[] }, { accessFlags := 25, nameIndex := 277, descriptorIndex := 25, attributes := #[] }, { accessFlags := 25, nameIndex := 280, descriptorIndex := 25, attributes := #[] }, { accessFlags := 25, nameIndex := 282, descriptorIndex := 25, attributes := #[] }, { accessFlags := 25, nameIndex := 284, descriptorIndex := 25, attributes := #[] }, { accessFlags := 25, nameIndex := 286, descriptorIndex := 25, attributes := #[] }, { accessFlags := 25, nameIndex := 288, descriptorIndex := 25, attributes := #[] }, { accessFlags := 25, nameIndex := 290, descriptorIndex := 25, attributes := #[] }, { accessFlags := 25, nameIndex := 292, descriptorIndex := 25, attributes := #[] }, { accessFlags := 26, nameIndex := 108, descriptorIndex := 109, attributes := #[] }, { accessFlags := 25, nameIndex := 294, descriptorIndex := 25, attributes := #[] }])
  fields := #[{ name := "U", type := (.object "jdk/internal/misc/Unsafe"), accessFlags := 24, slot := 0, constantValue := 0 }, { name := "BIG_ENDIAN", type := .boolean, accessFlags := 26, slot := 1, constantValue := 0 }, { name := "LOG2_ARRAY_BOOLEAN_INDEX_SCALE", type := .int, accessFlags := 25, slot := 2, constantValue := 0 }, { name := "LOG2_ARRAY_BYTE_INDEX_SCALE", type := .int, accessFlags := 25, slot := 3, constantValue := 0 }, { name := "LOG2_ARRAY_CHAR_INDEX_SCALE", type := .int, accessFlags := 25, slot := 4, constantValue := 0 }, { name := "LOG2_ARRAY_SHORT_INDEX_SCALE", type := .int, accessFlags := 25, slot := 5, constantValue := 0 }, { name := "LOG2_ARRAY_INT_INDEX_SCALE", type := .int, accessFlags := 25, slot := 6, constantValue := 0 }, { name := "LOG2_ARRAY_LONG_INDEX_SCALE", type := .int, accessFlags := 25, slot := 7, constantValue := 0 }, { name := "LOG2_ARRAY_FLOAT_INDEX_SCALE", type := .int, accessFlags := 25, slot := 8, constantValue := 0 }, { name := "LOG2_ARRAY_DOUBLE_INDEX_SCALE", type := .int, accessFlags := 25, slot := 9, constantValue := 0 }, { name := "LOG2_BYTE_BIT_SIZE", type := .int, accessFlags := 26, slot := 10, constantValue := 0 }, { name := "T_BOOLEAN", type := .int, accessFlags := 25, slot := 11, constantValue := 0 }, { name := "T_CHAR", type := .int, accessFlags := 25, slot := 12, constantValue := 0 }, { name := "T_FLOAT", type := .int, accessFlags := 25, slot := 13, constantValue := 0 }, { name := "T_DOUBLE", type := .int, accessFlags := 25, slot := 14, constantValue := 0 }, { name := "T_BYTE", type := .int, accessFlags := 25, slot := 15, constantValue := 0 }, { name := "T_SHORT", type := .int, accessFlags := 25, slot := 16, constantValue := 0 }, { name := "T_INT", type := .int, accessFlags := 25, slot := 17, constantValue := 0 }, { name := "T_LONG", type := .int, accessFlags := 25, slot := 18, constantValue := 0 }, { name := "JLA", type := (.object "jdk/internal/access/JavaLangAccess"), accessFlags := 26, slot := 19, constantValue := 0 }, { name := "SOFT_MAX_ARRAY_LENGTH", type := .int, accessFlags := 25, slot := 20, constantValue := 0 }]
  methods := #[k16m0]
  instanceTypes := #[]
  staticTypes := #[(.object "jdk/internal/misc/Unsafe"), .boolean, .int, .int, .int, .int, .int, .int, .int, .int, .int, .int, .int, .int, .int, .int, .int, .int, .int, (.object "jdk/internal/access/JavaLangAccess"), .int]
  resolved := Array.replicate 378 none
  statics := none }

def pool17 : Array CpInfo := pool [(1, u "java/lang/Cloneable"), (0, .class_ 1), (0, u "java/lang/Object"), (0, .class_ 3)] 3

/-- java/lang/Cloneable -/
def k17 : Class := { plain "java/lang/Cloneable" (some 0) with
  accessFlags := 1537
  interfaces := #[]
  cf := some (fileOf pool17 2 #[] #[] 1537 4 #[] #[])
  fields := #[]
  methods := #[]
  instanceTypes := #[]
  staticTypes := #[]
  resolved := Array.replicate 8 none
  statics := none }

/-- the primitive byte -/
def k18 : Class := { plain "byte" none with kind := .primitive 'B', accessFlags := 0x411 }
/-- [B -/
def k19 : Class := { plain "[B" (some 0) with kind := .array 18 .byte, interfaces := #[17, 4], accessFlags := 1041 }

/-- the primitive char -/
def k20 : Class := { plain "char" none with kind := .primitive 'C', accessFlags := 0x411 }
/-- [C -/
def k21 : Class := { plain "[C" (some 0) with kind := .array 20 .char, interfaces := #[17, 4], accessFlags := 1041 }

/-- the primitive int -/
def k22 : Class := { plain "int" none with kind := .primitive 'I', accessFlags := 0x411 }
/-- [I -/
def k23 : Class := { plain "[I" (some 0) with kind := .array 22 .int, interfaces := #[17, 4], accessFlags := 1041 }

def heap : Heap := #[{ cls := 6, slots := #[.ref 3, .ref 3, .ref 3, .ref 3, .ref 3, .null], vm := .statics 6 },
  { cls := 9, slots := #[.long 0, .int 1, .null, .int 0, .null, .int 0, .int 0], vm := .statics 9 },
  { cls := 15, slots := #[.null, .null, .null], vm := .statics 15 },
  { cls := 6, slots := #[.null, .int 0, .int 0, .null], vm := .none }]
def classes : Array Class := #[k0, k1, k2, k3, k4, k5, k6, k7, k8, k9, k10, k11, k12, k13, k14, k15, k16, k17, k18, k19, k20, k21, k22, k23]
def interned : List (Array UInt16 × Addr) := []
def slotsUsed : Nat := 20
def theMethod : MethodId := ⟨1, 2⟩
def args0 : Array Value := #[.int 5, .int 7, .int 65, .int 3]
def aboutOver (below : List Frame) : State where
  vm := { classes := classes, interned := interned.toArray }
  heap := heap
  slotsUsed := slotsUsed
  threads := #[{ frames := .invoking theMethod args0 :: below }]
def below0 : List Frame := [.native { method := ⟨0, 0⟩, args := #[] }]
def about1 : State := aboutOver below0
def p0 : Program := .bare "" "" ""
def e0 : Env := launch0.env 0 0 0
theorem w_frames : about1.frames = Frame.invoking theMethod args0 :: below0 := rfl
set_option maxRecDepth 65536 in
theorem w_args : argsFit about1.vm theMethod args0 = true := by decide +kernel
set_option maxRecDepth 65536 in
theorem w_heap : heapFits about1 = true := by decide +kernel
set_option maxRecDepth 65536 in
theorem w_runnable : about1.curStatus? = some .runnable := by decide +kernel
set_option maxRecDepth 65536 in
theorem w_alone : about1.alone = true := by decide +kernel
set_option maxRecDepth 65536 in
theorem w_named : about1.methodNamed? x = some theMethod := by decide +kernel
set_option maxRecDepth 65536 in
theorem w_hears : about1.hears theMethod below0 = true := by decide +kernel
set_option maxRecDepth 65536 in
theorem w_ripe : about1.ripe theMethod args0 below0 = true := by decide +kernel
theorem w_running : about1.status = .running := rfl
set_option maxRecDepth 65536 in
theorem w_room : about1.hasRoom e0.platform room_1 = true :=
  launch0.hasRoom_least _ room_1 (by decide +kernel) (by decide +kernel) (by decide +kernel) (by decide +kernel) (by decide +kernel) (by decide +kernel)
theorem allAtoms_all (ts : List Jvm.Cond) (a : Array Jvm.Value) (st : Jvm.State) : (allAtoms ts).before a st = ts.all (fun c => c.before a st) := by
  induction ts with
  | nil => rfl
  | cons c t ih =>
    show (Jvm.Cond.and c (allAtoms t)).before a st = _
    rw [Jvm.Cond.before_and, ih, List.all_cons]
def words1 : List Jvm.Cond := Jvm.Cond.code x code maxLocals ret :: tables_1
/-- a 'code' word, met by the world's own term for the bytes: nothing is compared byte by byte -/
theorem code_word {y : MethodName} {bytes : ByteArray} {mx : Nat} {rt : Option FieldType} {a : Array Value} {s : State} {m : MethodId} {meth : Method} {c : Code} (h1 : s.methodNamed? y = some m) (h2 : s.vm.method? m = some meth) (h3 : meth.code = some c) (h4 : c.code = bytes)
    (h5 : (c.maxLocals == mx && c.exceptionTable.isEmpty && decide (c.maxStack ≤ mostOperands) && decide (meth.sig.returnType = rt) && !meth.locks && decide (parseMethodDescriptor y.desc = some meth.sig)) = true) : (Jvm.Cond.code y bytes mx rt).before a s = true := by
  simp only [Bool.and_eq_true, beq_iff_eq, Bool.not_eq_true', decide_eq_true_eq] at h5
  obtain ⟨⟨⟨⟨⟨g1, g2⟩, g3⟩, g4⟩, g5⟩, g6⟩ := h5
  simp [Cond.before, Cond.holds, Cond.value, h1, h2, h3, h4, g1, g2, g3, g4, g5, g6]
def isCode : Jvm.Cond → Bool
  | .code _ _ _ _ => true
  | _ => false
theorem all_split {L : List Jvm.Cond} {P : Jvm.Cond → Bool} (h1 : L.all (fun c => isCode c || P c) = true) (h2 : ∀ c ∈ L.filter isCode, P c = true) : L.all P = true := by
  refine List.all_eq_true.mpr fun c hc => ?_
  have h := List.all_eq_true.mp h1 c hc
  rcases Bool.eq_false_or_eq_true (isCode c) with hi | hi
  · exact h2 c (List.mem_filter.mpr ⟨hc, hi⟩)
  · simpa [hi] using h
set_option maxRecDepth 65536 in
theorem w_c0 : (Jvm.Cond.code x code maxLocals ret).before args0 about1 = true := code_word (m := ⟨1, 2⟩) (meth := k1m2) (c := k1c2) (by decide +kernel) rfl rfl rfl (by decide +kernel)
set_option maxRecDepth 65536 in
theorem w_c1 : (Jvm.Cond.code ({ cls := "com/example/dhole/dhole/event/ActorKindPinLaw", name := "pick", desc := "(I)Lcom/example/dhole/dhole/event/ActorKind;" } : Jvm.MethodName) method_2_code (2 : Nat) (Option.some (Jvm.ClassFile.FieldType.object "com/example/dhole/dhole/event/ActorKind"))).before args0 about1 = true := code_word (m := ⟨1, 1⟩) (meth := k1m1) (c := k1c1) (by decide +kernel) rfl rfl rfl (by decide +kernel)
set_option maxRecDepth 65536 in
theorem w_c2 : (Jvm.Cond.code ({ cls := "java/lang/String", name := "<init>", desc := "([C)V" } : Jvm.MethodName) jdk_42_method_3_code (2 : Nat) (Option.none : Option Jvm.ClassFile.FieldType)).before args0 about1 = true := code_word (m := ⟨9, 1⟩) (meth := k9m1) (c := k9c1) (by decide +kernel) rfl rfl rfl (by decide +kernel)
set_option maxRecDepth 65536 in
theorem w_c3 : (Jvm.Cond.code ({ cls := "java/lang/String", name := "<init>", desc := "([CIILjava/lang/Void;)V" } : Jvm.MethodName) jdk_42_method_149_code (6 : Nat) (Option.none : Option Jvm.ClassFile.FieldType)).before args0 about1 = true := code_word (m := ⟨9, 3⟩) (meth := k9m3) (c := k9c3) (by decide +kernel) rfl rfl rfl (by decide +kernel)
set_option maxRecDepth 65536 in
theorem w_c4 : (Jvm.Cond.code ({ cls := "java/lang/Object", name := "<init>", desc := "()V" } : Jvm.MethodName) object_method_1_code (1 : Nat) (Option.none : Option Jvm.ClassFile.FieldType)).before args0 about1 = true := code_word (m := ⟨0, 0⟩) (meth := k0m0) (c := k0c0) (by decide +kernel) rfl rfl rfl (by decide +kernel)
set_option maxRecDepth 65536 in
theorem w_c5 : (Jvm.Cond.code ({ cls := "java/lang/StringUTF16", name := "compress", desc := "([CII)[B" } : Jvm.MethodName) jdk_52_method_16_code (6 : Nat) (Option.some (Jvm.ClassFile.FieldType.array Jvm.ClassFile.FieldType.byte))).before args0 about1 = true := code_word (m := ⟨10, 2⟩) (meth := k10m2) (c := k10c2) (by decide +kernel) rfl rfl rfl (by decide +kernel)
set_option maxRecDepth 65536 in
theorem w_c6 : (Jvm.Cond.code ({ cls := "java/lang/StringUTF16", name := "compress", desc := "([CI[BII)I" } : Jvm.MethodName) jdk_52_method_21_code (7 : Nat) (Option.some Jvm.ClassFile.FieldType.int)).before args0 about1 = true := code_word (m := ⟨10, 3⟩) (meth := k10m3) (c := k10c3) (by decide +kernel) rfl rfl rfl (by decide +kernel)
set_option maxRecDepth 65536 in
theorem w_c7 : (Jvm.Cond.code ({ cls := "java/lang/StringUTF16", name := "coderFromArrayLen", desc := "([BI)B" } : Jvm.MethodName) jdk_52_method_15_code (2 : Nat) (Option.some Jvm.ClassFile.FieldType.byte)).before args0 about1 = true := code_word (m := ⟨10, 1⟩) (meth := k10m1) (c := k10c1) (by decide +kernel) rfl rfl rfl (by decide +kernel)
set_option maxRecDepth 65536 in
theorem w_c8 : (Jvm.Cond.code ({ cls := "com/example/dhole/dhole/event/Actor$Builder", name := "<init>", desc := "()V" } : Jvm.MethodName) prog_5_method_1_code (1 : Nat) (Option.none : Option Jvm.ClassFile.FieldType)).before args0 about1 = true := code_word (m := ⟨11, 0⟩) (meth := k11m0) (c := k11c0) (by decide +kernel) rfl rfl rfl (by decide +kernel)
set_option maxRecDepth 65536 in
theorem w_c9 : (Jvm.Cond.code ({ cls := "com/example/dhole/dhole/event/Actor$Builder", name := "kind", desc := "(Lcom/example/dhole/dhole/event/ActorKind;)Lcom/example/dhole/dhole/event/Actor$Builder;" } : Jvm.MethodName) prog_5_method_2_code (2 : Nat) (Option.some (Jvm.ClassFile.FieldType.object "com/example/dhole/dhole/event/Actor$Builder"))).before args0 about1 = true := code_word (m := ⟨11, 1⟩) (meth := k11m1) (c := k11c1) (by decide +kernel) rfl rfl rfl (by decide +kernel)
set_option maxRecDepth 65536 in
theorem w_c10 : (Jvm.Cond.code ({ cls := "java/util/Objects", name := "requireNonNull", desc := "(Ljava/lang/Object;Ljava/lang/String;)Ljava/lang/Object;" } : Jvm.MethodName) jdk_31_method_11_code (2 : Nat) (Option.some (Jvm.ClassFile.FieldType.object "java/lang/Object"))).before args0 about1 = true := code_word (m := ⟨12, 1⟩) (meth := k12m1) (c := k12c1) (by decide +kernel) rfl rfl rfl (by decide +kernel)
set_option maxRecDepth 65536 in
theorem w_c11 : (Jvm.Cond.code ({ cls := "com/example/dhole/dhole/event/Actor$Builder", name := "build", desc := "()Lcom/example/dhole/dhole/event/Actor;" } : Jvm.MethodName) prog_5_method_10_code (1 : Nat) (Option.some (Jvm.ClassFile.FieldType.object "com/example/dhole/dhole/event/Actor"))).before args0 about1 = true := code_word (m := ⟨11, 3⟩) (meth := k11m3) (c := k11c3) (by decide +kernel) rfl rfl rfl (by decide +kernel)
set_option maxRecDepth 65536 in
theorem w_c12 : (Jvm.Cond.code ({ cls := "com/example/dhole/dhole/event/Actor", name := "<init>", desc := "(Lcom/example/dhole/dhole/event/Actor$Builder;)V" } : Jvm.MethodName) prog_4_method_1_code (2 : Nat) (Option.none : Option Jvm.ClassFile.FieldType)).before args0 about1 = true := code_word (m := ⟨13, 0⟩) (meth := k13m0) (c := k13c0) (by decide +kernel) rfl rfl rfl (by decide +kernel)
set_option maxRecDepth 65536 in
theorem w_c13 : (Jvm.Cond.code ({ cls := "com/example/dhole/dhole/event/Actor", name := "type", desc := "()Ljava/lang/String;" } : Jvm.MethodName) prog_4_method_3_code (1 : Nat) (Option.some (Jvm.ClassFile.FieldType.object "java/lang/String"))).before args0 about1 = true := code_word (m := ⟨13, 2⟩) (meth := k13m2) (c := k13c2) (by decide +kernel) rfl rfl rfl (by decide +kernel)
set_option maxRecDepth 65536 in
theorem w_c14 : (Jvm.Cond.code ({ cls := "com/example/dhole/dhole/event/Actor", name := "kind", desc := "()Lcom/example/dhole/dhole/event/ActorKind;" } : Jvm.MethodName) prog_4_method_2_code (1 : Nat) (Option.some (Jvm.ClassFile.FieldType.object "com/example/dhole/dhole/event/ActorKind"))).before args0 about1 = true := code_word (m := ⟨13, 1⟩) (meth := k13m1) (c := k13c1) (by decide +kernel) rfl rfl rfl (by decide +kernel)
set_option maxRecDepth 65536 in
theorem w_c15 : (Jvm.Cond.code ({ cls := "com/example/dhole/dhole/event/Actor", name := "mfa", desc := "()Ljava/lang/Boolean;" } : Jvm.MethodName) prog_4_method_8_code (1 : Nat) (Option.some (Jvm.ClassFile.FieldType.object "java/lang/Boolean"))).before args0 about1 = true := code_word (m := ⟨13, 3⟩) (meth := k13m3) (c := k13c3) (by decide +kernel) rfl rfl rfl (by decide +kernel)
set_option maxRecDepth 65536 in
theorem w_c16 : (Jvm.Cond.code ({ cls := "com/example/dhole/dhole/event/Actor$Builder", name := "type", desc := "(Ljava/lang/String;)Lcom/example/dhole/dhole/event/Actor$Builder;" } : Jvm.MethodName) prog_5_method_3_code (2 : Nat) (Option.some (Jvm.ClassFile.FieldType.object "com/example/dhole/dhole/event/Actor$Builder"))).before args0 about1 = true := code_word (m := ⟨11, 2⟩) (meth := k11m2) (c := k11c2) (by decide +kernel) rfl rfl rfl (by decide +kernel)
set_option maxRecDepth 65536 in
theorem w_c17 : (Jvm.Cond.code ({ cls := "java/lang/String", name := "equals", desc := "(Ljava/lang/Object;)Z" } : Jvm.MethodName) jdk_42_method_66_code (3 : Nat) (Option.some Jvm.ClassFile.FieldType.boolean)).before args0 about1 = true := code_word (m := ⟨9, 2⟩) (meth := k9m2) (c := k9c2) (by decide +kernel) rfl rfl rfl (by decide +kernel)
def codes1 : List Jvm.Cond := [Jvm.Cond.code x code maxLocals ret, Jvm.Cond.code ({ cls := "com/example/dhole/dhole/event/ActorKindPinLaw", name := "pick", desc := "(I)Lcom/example/dhole/dhole/event/ActorKind;" } : Jvm.MethodName) method_2_code (2 : Nat) (Option.some (Jvm.ClassFile.FieldType.object "com/example/dhole/dhole/event/ActorKind")), Jvm.Cond.code ({ cls := "java/lang/String", name := "<init>", desc := "([C)V" } : Jvm.MethodName) jdk_42_method_3_code (2 : Nat) (Option.none : Option Jvm.ClassFile.FieldType), Jvm.Cond.code ({ cls := "java/lang/String", name := "<init>", desc := "([CIILjava/lang/Void;)V" } : Jvm.MethodName) jdk_42_method_149_code (6 : Nat) (Option.none : Option Jvm.ClassFile.FieldType), Jvm.Cond.code ({ cls := "java/lang/Object", name := "<init>", desc := "()V" } : Jvm.MethodName) object_method_1_code (1 : Nat) (Option.none : Option Jvm.ClassFile.FieldType), Jvm.Cond.code ({ cls := "java/lang/StringUTF16", name := "compress", desc := "([CII)[B" } : Jvm.MethodName) jdk_52_method_16_code (6 : Nat) (Option.some (Jvm.ClassFile.FieldType.array Jvm.ClassFile.FieldType.byte)), Jvm.Cond.code ({ cls := "java/lang/StringUTF16", name := "compress", desc := "([CI[BII)I" } : Jvm.MethodName) jdk_52_method_21_code (7 : Nat) (Option.some Jvm.ClassFile.FieldType.int), Jvm.Cond.code ({ cls := "java/lang/StringUTF16", name := "coderFromArrayLen", desc := "([BI)B" } : Jvm.MethodName) jdk_52_method_15_code (2 : Nat) (Option.some Jvm.ClassFile.FieldType.byte), Jvm.Cond.code ({ cls := "com/example/dhole/dhole/event/Actor$Builder", name := "<init>", desc := "()V" } : Jvm.MethodName) prog_5_method_1_code (1 : Nat) (Option.none : Option Jvm.ClassFile.FieldType), Jvm.Cond.code ({ cls := "com/example/dhole/dhole/event/Actor$Builder", name := "kind", desc := "(Lcom/example/dhole/dhole/event/ActorKind;)Lcom/example/dhole/dhole/event/Actor$Builder;" } : Jvm.MethodName) prog_5_method_2_code (2 : Nat) (Option.some (Jvm.ClassFile.FieldType.object "com/example/dhole/dhole/event/Actor$Builder")), Jvm.Cond.code ({ cls := "java/util/Objects", name := "requireNonNull", desc := "(Ljava/lang/Object;Ljava/lang/String;)Ljava/lang/Object;" } : Jvm.MethodName) jdk_31_method_11_code (2 : Nat) (Option.some (Jvm.ClassFile.FieldType.object "java/lang/Object")), Jvm.Cond.code ({ cls := "com/example/dhole/dhole/event/Actor$Builder", name := "build", desc := "()Lcom/example/dhole/dhole/event/Actor;" } : Jvm.MethodName) prog_5_method_10_code (1 : Nat) (Option.some (Jvm.ClassFile.FieldType.object "com/example/dhole/dhole/event/Actor")), Jvm.Cond.code ({ cls := "com/example/dhole/dhole/event/Actor", name := "<init>", desc := "(Lcom/example/dhole/dhole/event/Actor$Builder;)V" } : Jvm.MethodName) prog_4_method_1_code (2 : Nat) (Option.none : Option Jvm.ClassFile.FieldType), Jvm.Cond.code ({ cls := "com/example/dhole/dhole/event/Actor", name := "type", desc := "()Ljava/lang/String;" } : Jvm.MethodName) prog_4_method_3_code (1 : Nat) (Option.some (Jvm.ClassFile.FieldType.object "java/lang/String")), Jvm.Cond.code ({ cls := "com/example/dhole/dhole/event/Actor", name := "kind", desc := "()Lcom/example/dhole/dhole/event/ActorKind;" } : Jvm.MethodName) prog_4_method_2_code (1 : Nat) (Option.some (Jvm.ClassFile.FieldType.object "com/example/dhole/dhole/event/ActorKind")), Jvm.Cond.code ({ cls := "com/example/dhole/dhole/event/Actor", name := "mfa", desc := "()Ljava/lang/Boolean;" } : Jvm.MethodName) prog_4_method_8_code (1 : Nat) (Option.some (Jvm.ClassFile.FieldType.object "java/lang/Boolean")), Jvm.Cond.code ({ cls := "com/example/dhole/dhole/event/Actor$Builder", name := "type", desc := "(Ljava/lang/String;)Lcom/example/dhole/dhole/event/Actor$Builder;" } : Jvm.MethodName) prog_5_method_3_code (2 : Nat) (Option.some (Jvm.ClassFile.FieldType.object "com/example/dhole/dhole/event/Actor$Builder")), Jvm.Cond.code ({ cls := "java/lang/String", name := "equals", desc := "(Ljava/lang/Object;)Z" } : Jvm.MethodName) jdk_42_method_66_code (3 : Nat) (Option.some Jvm.ClassFile.FieldType.boolean)]
set_option maxRecDepth 65536 in
theorem codes_eq : words1.filter isCode = codes1 := rfl
theorem w_codes : ∀ c ∈ words1.filter isCode, c.before args0 about1 = true := by
  rw [codes_eq]
  intro c hc
  simp only [codes1, List.mem_cons, List.not_mem_nil, or_false] at hc
  rcases hc with rfl | rfl | rfl | rfl | rfl | rfl | rfl | rfl | rfl | rfl | rfl | rfl | rfl | rfl | rfl | rfl | rfl | rfl
  · exact w_c0
  · exact w_c1
  · exact w_c2
  · exact w_c3
  · exact w_c4
  · exact w_c5
  · exact w_c6
  · exact w_c7
  · exact w_c8
  · exact w_c9
  · exact w_c10
  · exact w_c11
  · exact w_c12
  · exact w_c13
  · exact w_c14
  · exact w_c15
  · exact w_c16
  · exact w_c17
set_option maxRecDepth 65536 in
theorem w_t1 : (words1.take 24).all (fun c => isCode c || c.before args0 about1) = true := by decide +kernel
set_option maxRecDepth 65536 in
theorem w_t2 : ((words1.drop 24).take 24).all (fun c => isCode c || c.before args0 about1) = true := by decide +kernel
set_option maxRecDepth 65536 in
theorem w_t3 : (((words1.drop 24).drop 24).take 24).all (fun c => isCode c || c.before args0 about1) = true := by decide +kernel
set_option maxRecDepth 65536 in
theorem w_t4 : ((((words1.drop 24).drop 24).drop 24).take 24).all (fun c => isCode c || c.before args0 about1) = true := by decide +kernel
set_option maxRecDepth 65536 in
theorem w_t5 : (((((words1.drop 24).drop 24).drop 24).drop 24).take 24).all (fun c => isCode c || c.before args0 about1) = true := by decide +kernel
set_option maxRecDepth 65536 in
theorem w_t6 : (((((words1.drop 24).drop 24).drop 24).drop 24).drop 24).all (fun c => isCode c || c.before args0 about1) = true := by decide +kernel
theorem w_tables : (allAtoms (Jvm.Cond.code x code maxLocals ret :: tables_1)).before args0 about1 = true := by
  rw [allAtoms_all]
  show words1.all (fun c => c.before args0 about1) = true
  refine all_split ?_ w_codes
  rw [← List.take_append_drop 24 words1, List.all_append, w_t1, ← List.take_append_drop 24 (words1.drop 24), List.all_append, w_t2, ← List.take_append_drop 24 ((words1.drop 24).drop 24), List.all_append, w_t3, ← List.take_append_drop 24 (((words1.drop 24).drop 24).drop 24), List.all_append, w_t4, ← List.take_append_drop 24 ((((words1.drop 24).drop 24).drop 24).drop 24), List.all_append, w_t5, w_t6]
  rfl
set_option maxRecDepth 65536 in
theorem w_rest : rest_1_c.before args0 about1 = true := by decide +kernel
set_option maxRecDepth 65536 in
theorem w_case : (Jvm.Cond.and given_1 narrow_1).before args0 about1 = true := by decide +kernel
theorem w_applies : (headSpec (Jvm.Cond.code x code maxLocals ret :: tables_1) room_1).applies x e0.platform about1 = true :=
  (Spec.applies_iff w_frames).mpr ⟨w_running, w_runnable, w_alone, w_named, w_hears, w_ripe, w_room, w_tables⟩
theorem atStart : AtStart classFile x code maxLocals ret World_1 tables_1 room_1 Calls_1 rest_1 Pre_1 launch0 p0 e0 about1 theMethod args0 below0 :=
  ⟨lists_1, trivial, launch0.admits_env _ _ _, launch0.least_env, fairChoices_fair.cas, fairChoices_fair.clock, w_frames, w_args, w_heap, w_applies, trivial, w_rest, w_case⟩
end start1
theorem witness_1 : WitnessClaimed_1 := ⟨start1.p0, start1.e0, start1.about1, start1.theMethod, start1.args0, start1.below0, start1.atStart⟩
end Jvm.Pilot.@@N@@
