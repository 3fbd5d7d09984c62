import JvmDerived
import JvmDerived.Pilot.@@N@@Statement
import JvmDerived.Pilot.@@N@@Code
set_option linter.unusedVariables false
set_option linter.unusedSimpArgs false
namespace Jvm.RoadKit
open Sem ClassFile Op Lib Jvm.Stand Jvm.Free Jvm.LawKit
section New
variable {p : Program} {l : Launch} {e : Env} {R : Room} {s : State} {m : MethodId} {args : Array Value} {below : List Frame} {meth : Method} {c : Code} {T : State} {locs : List Loc} {cells slots : Nat}
theorem retI (X : Stand p l e R s m args below meth c T locs cells slots) (hx : p.tables.exec = Jvm.exec) {pc : Nat} {Ls : Array Slot} {z : Int32} {rest : List Value} (hret : meth.sig.returnType = some .int) (hd : decode c.code pc = .ok (.ireturn, 1)) {fs : List Frame}
    (hl : ∀ (f : JFrame) (acts : List Action), f.method = m → f.locked = none → f.entered = [] → (doReturn e (T.setTop f) acts (some (.int z))).1 = T.setFrames fs) : Steps p.tables e below (T.setTop (mkF m pc Ls (.int z :: rest))) (T.setFrames fs) := by
  have hm' : T.vm.method? m = some meth := X.method'
  have hn : narrow .int (.int z) = .int z := rfl
  show Steps p.tables e below (T.setTop { method := m, pc := pc, locals := Ls, stack := _ :: rest, locked := none }) _
  jvm_step X.here [X.here.top, hx, hd, hm', hret, hn]
  first | (intro acts; rw [hl _ acts rfl rfl rfl]) | rw [hl _ _ rfl rfl rfl]
  exact Steps.refl _
end New
end Jvm.RoadKit
/- laws to paste: Road.backV (cut by pick.py; bodies as the Statement names them) -/
namespace Jvm.Pilot.@@N@@
namespace StrChars
open Jvm Sem ClassFile Op Lib Jvm.Stand Jvm.Free.XT Jvm.Free.ALB Jvm.Free.JM Jvm.Free
open Jvm.Lib.Cold (StaticIs)
/-- a char array whose places are chars -/
def Ch (a : Addr) (A : Cell) (U : State) : Prop := Arr .char a A U ∧ Typed .char A
theorem Ch.mv {a : Addr} {A : Cell} {U U' : State} (h : Ch a A U) (hal : U.vm.Alike U'.vm) (hh : U'.heap = U.heap) : Ch a A U' := ⟨h.1.mv hal hh, h.2⟩
theorem Ch.keep {a : Addr} {A : Cell} {U U' : State} (h : Ch a A U) (hal : U.vm.Alike U'.vm) (hk : U'.heap[a]? = some A) : Ch a A U' := ⟨h.1.keep hal hk, h.2⟩
/-- what place i of a char[]'s cell holds -/
def cv (A : Cell) (i : Nat) : Int32 := match A.slots[i]? with | some (.int x) => x | _ => 0
theorem Ch.get {a : Addr} {A : Cell} {U : State} (h : Ch a A U) {i : Nat} (hi : i < A.slots.size) : A.slots[i]? = some (.int (cv A i)) := by
  have e := Array.getElem?_eq_getElem hi
  have f := h.2 i _ e
  unfold cv; rw [e]
  generalize A.slots[i] = v at f
  cases v <;> simp [fits] at f ⊢
/-- the byte that i2b leaves of a char -/
def lo8 (x : Int32) : Int32 := x.toInt8.toInt32
theorem fits_lo8 (y : Int32) : fits .byte (.int (lo8 y)) = true := by
  have h1 := y.toInt8.le_toInt
  have h2 := y.toInt8.toInt_lt
  simp only [lo8, fits, Bool.and_eq_true, decide_eq_true_eq, Int32.le_iff_toInt_le, Int8.toInt_toInt32, show (-128 : Int32).toInt = -128 from by decide, show (127 : Int32).toInt = 127 from by decide]
  omega
/-- A' is A but that each place j of lo .. hi - 1 holds f j -/
def Laid (A A' : Cell) (lo hi : Nat) (f : Nat → Value) : Prop := A'.cls = A.cls ∧ A'.vm = A.vm ∧ A'.slots.size = A.slots.size ∧ ∀ i, A'.slots[i]? = if lo ≤ i ∧ i < hi then some (f i) else A.slots[i]?
theorem Laid.zero (A : Cell) (lo : Nat) (f : Nat → Value) : Laid A A lo (lo + 0) f := ⟨rfl, rfl, rfl, fun i => by rw [if_neg (by omega)]⟩
theorem Laid.step {A Ak : Cell} {lo k : Nat} {f : Nat → Value} {v : Value} (h : Laid A Ak lo k f) (hlo : lo ≤ k) (hk : k < Ak.slots.size) (hv : v = f k) : Laid A (Ak.setSlot k v) lo (k + 1) f := by
  refine ⟨h.1, h.2.1, by simpa [Cell.setSlot] using h.2.2.1, fun i => ?_⟩
  by_cases e : k = i
  · subst e; rw [Cell.slots_setSlot_self v hk, if_pos (by omega), hv]
  · rw [Cell.slots_setSlot_ne v e, h.2.2.2 i]
    by_cases q : lo ≤ i ∧ i < k
    · rw [if_pos q, if_pos (by omega)]
    · rw [if_neg q, if_neg (by omega)]
def U16 : String := "java/lang/StringUTF16"
namespace Cmp5
def yN : MethodName := ⟨"java/lang/StringUTF16", "compress", "([CI[BII)I"⟩
abbrev yB : ByteArray := jdk_52_method_21_code
theorem d0 : decode yB 0 = .ok (.iconst 0, 1) := by decide +kernel
theorem d1 : decode yB 1 = .ok (.istore 5, 2) := by decide +kernel
theorem d3 : decode yB 3 = .ok (.iload 5, 2) := by decide +kernel
theorem d5 : decode yB 5 = .ok (.iload 4, 2) := by decide +kernel
theorem d7 : decode yB 7 = .ok (.if_icmp (.ge) 37, 3) := by decide +kernel
theorem d10 : decode yB 10 = .ok (.aload_n 0, 1) := by decide +kernel
theorem d11 : decode yB 11 = .ok (.iload_n 1, 1) := by decide +kernel
theorem d12 : decode yB 12 = .ok (.caload, 1) := by decide +kernel
theorem d13 : decode yB 13 = .ok (.istore 6, 2) := by decide +kernel
theorem d15 : decode yB 15 = .ok (.iload 6, 2) := by decide +kernel
theorem d17 : decode yB 17 = .ok (.sipush 255, 3) := by decide +kernel
theorem d20 : decode yB 20 = .ok (.if_icmp (.le) 6, 3) := by decide +kernel
theorem d26 : decode yB 26 = .ok (.aload_n 2, 1) := by decide +kernel
theorem d27 : decode yB 27 = .ok (.iload_n 3, 1) := by decide +kernel
theorem d28 : decode yB 28 = .ok (.iload 6, 2) := by decide +kernel
theorem d30 : decode yB 30 = .ok (.i2b, 1) := by decide +kernel
theorem d31 : decode yB 31 = .ok (.bastore, 1) := by decide +kernel
theorem d32 : decode yB 32 = .ok (.iinc 1 1, 3) := by decide +kernel
theorem d35 : decode yB 35 = .ok (.iinc 3 1, 3) := by decide +kernel
theorem d38 : decode yB 38 = .ok (.iinc 5 1, 3) := by decide +kernel
theorem d41 : decode yB 41 = .ok (.goto (-38), 3) := by decide +kernel
theorem d44 : decode yB 44 = .ok (.iload 4, 2) := by decide +kernel
theorem d46 : decode yB 46 = .ok (.ireturn, 1) := by decide +kernel
def site : List Cond := []
def tab : Cond := tabOf yN yB 7 (some .int) site
def P (b : Addr) (A : Cell) (d : Addr) (B : Cell) (o q len : Nat) (args : Array Value) (s : State) : Prop := args = #[.ref b, .int (Int32.ofNat o), .ref d, .int (Int32.ofNat q), .int (Int32.ofNat len)] ∧ Ch b A s ∧ Arr .byte d B s ∧ b ≠ d ∧ o + len ≤ A.slots.size ∧ q + len ≤ B.slots.size ∧ ∀ i, i < len → ¬ 255 < cv A (o + i)
def E (b : Addr) (A : Cell) (d : Addr) (B : Cell) (o q len : Nat) (r : Option Value) (s u : State) : Prop := r = some (.int (Int32.ofNat len)) ∧ ∃ B', Put d B' s u ∧ Laid B B' q (q + len) (fun j => Value.int (lo8 (cv A (o + (j - q)))))
/-- no char of the range above 255: len; the places written hold each char's low byte -/
theorem law (l : Launch) (b : Addr) (A : Cell) (d : Addr) (B : Cell) (o q len : Nat) : Law l yN 5 5 0 0 yB 7 (some .int) site (P b A d B o q len) (E b A d B o q len) (copyLocs d q len) 0 0 := by
  refine Law.of_walk (plainFor_of_name (by decide +kernel)) (by decide +kernel) (by decide +kernel) (by decide) (fun _ _ h => by rw [h.1]; rfl) (fun _ U U' hal hh h => ⟨h.1, h.2.1.mv hal hh, h.2.2.1.mv hal hh, h.2.2.2⟩) (fun r U U' V V' h1 hal h2 h => ⟨h.1, h.2.elim fun B' q => ⟨B', q.1.mv h1 h2, q.2⟩⟩) ?_
  intro p e s m args below meth c s₁ X0 hexec hbytes hml hret hlk hnm hown hh0 W hP
  obtain ⟨rfl, hA, hB, hne, l1, l2, hp⟩ := hP
  have c1 : Steps p.tables e below (s₁.setTop (entryFrame m #[.ref b, .int (Int32.ofNat o), .ref d, .int (Int32.ofNat q), .int (Int32.ofNat len)] 7)) (s₁.setTop (mkF m 0 #[.val (.ref b), .val (.int (Int32.ofNat o)), .val (.ref d), .val (.int (Int32.ofNat q)), .val (.int (Int32.ofNat len)), .unset, .unset] [])) := entry rfl
  have hA0 := hA.1.mv X0.warmed.alike hh0
  have hB0 := hB.mv X0.warmed.alike hh0
  have a31 := hA.1.2.2.2
  have c2 : Steps p.tables e below (s₁.setTop (entryFrame m #[.ref b, .int (Int32.ofNat o), .ref d, .int (Int32.ofNat q), .int (Int32.ofNat len)] 7)) (s₁.setTop (mkF m 3 #[.val (.ref b), .val (.int (Int32.ofNat o)), .val (.ref d), .val (.int (Int32.ofNat q)), .val (.int (Int32.ofNat len)), .val (.int 0), .unset] [])) := c1.trans (by
    refine iconstV X0.here hexec rfl 0 (hb hbytes d0) (by decide) ?_
    refine XS.istore X0.here hexec rfl (hb hbytes d1) rfl rfl ?_
    exact Steps.refl _)
  have loop : ∀ (r i : Nat), i + r = len → ∀ (z : Slot), (z = .unset ∨ ∃ w, z = .val w ∧ w.category = 1) → ∀ (Tl : State) (Bk : Cell), Stand p l e { frames := 0, locals := 0, cells := 0, slots := 0 } s m #[.ref b, .int (Int32.ofNat o), .ref d, .int (Int32.ofNat q), .int (Int32.ofNat len)] below meth c Tl ([] ++ copyLocs d q i) 0 0 → Put d Bk s₁ Tl → Laid B Bk q (q + i) (fun j => Value.int (lo8 (cv A (o + (j - q))))) →
      Steps p.tables e below (s₁.setTop (entryFrame m #[.ref b, .int (Int32.ofNat o), .ref d, .int (Int32.ofNat q), .int (Int32.ofNat len)] 7)) (Tl.setTop (mkF m 3 #[.val (.ref b), .val (.int (Int32.ofNat (o + i))), .val (.ref d), .val (.int (Int32.ofNat (q + i))), .val (.int (Int32.ofNat len)), .val (.int (Int32.ofNat i)), z] [])) → ∃ (T' : State) (B' : Cell) (z' : Slot), Stand p l e { frames := 0, locals := 0, cells := 0, slots := 0 } s m #[.ref b, .int (Int32.ofNat o), .ref d, .int (Int32.ofNat q), .int (Int32.ofNat len)] below meth c T' ([] ++ copyLocs d q len) 0 0 ∧ Put d B' s₁ T' ∧ Laid B B' q (q + len) (fun j => Value.int (lo8 (cv A (o + (j - q))))) ∧
      Steps p.tables e below (s₁.setTop (entryFrame m #[.ref b, .int (Int32.ofNat o), .ref d, .int (Int32.ofNat q), .int (Int32.ofNat len)] 7)) (T'.setTop (mkF m 3 #[.val (.ref b), .val (.int (Int32.ofNat (o + len))), .val (.ref d), .val (.int (Int32.ofNat (q + len))), .val (.int (Int32.ofNat len)), .val (.int (Int32.ofNat len)), z'] [])) := by
    intro r
    induction r with
    | zero =>
      intro i hi z hz Tl Bk Xl pl fl cl
      have hil : i = len := by omega
      rw [hil] at Xl fl cl
      exact ⟨Tl, Bk, z, Xl, pl, fl, cl⟩
    | succ r ih =>
      intro i hi z hz Tl Bk Xl pl fl cl
      have all := X0.warmed.alike.symm.trans Xl.warmed.alike
      have hAl := hA0.keep all (pl.other hne hA0.1)
      have hBk := hB0.like all pl.1 fl.1 fl.2.1 fl.2.2.1
      have hlt : q + i < Bk.slots.size := by rw [fl.2.2.1]; omega
      have c3 : Steps p.tables e below (s₁.setTop (entryFrame m #[.ref b, .int (Int32.ofNat o), .ref d, .int (Int32.ofNat q), .int (Int32.ofNat len)] 7)) (Tl.setTop (mkF m 12 #[.val (.ref b), .val (.int (Int32.ofNat (o + i))), .val (.ref d), .val (.int (Int32.ofNat (q + i))), .val (.int (Int32.ofNat len)), .val (.int (Int32.ofNat i)), z] [.int (Int32.ofNat (o + i)), .ref b])) := cl.trans (by
        refine XS.iload Xl.here hexec rfl (hb hbytes d3) rfl ?_
        refine XS.iload Xl.here hexec rfl (hb hbytes d5) rfl ?_
        refine XS.icmpNo Xl.here hexec rfl (hb hbytes d7) rfl (ii_ge_f (lt32 (by omega) (by omega))) ?_
        refine XS.aloadN Xl.here hexec rfl (hb hbytes d10) rfl rfl ?_
        refine XS.iloadN Xl.here hexec rfl (hb hbytes d11) rfl ?_
        exact Steps.refl _)
      have c4 : Steps p.tables e below (s₁.setTop (entryFrame m #[.ref b, .int (Int32.ofNat o), .ref d, .int (Int32.ofNat q), .int (Int32.ofNat len)] 7)) (Tl.setTop (mkF m 13 #[.val (.ref b), .val (.int (Int32.ofNat (o + i))), .val (.ref d), .val (.int (Int32.ofNat (q + i))), .val (.int (Int32.ofNat len)), .val (.int (Int32.ofNat i)), z] [.int (cv A (o + i))])) := c3.trans (by
        refine Xl.aget hexec hAl rfl (hA.get (i := o + i) (by omega)) rfl rfl (hb hbytes d12) ?_
        exact Steps.refl _)
      have c5 : Steps p.tables e below (s₁.setTop (entryFrame m #[.ref b, .int (Int32.ofNat o), .ref d, .int (Int32.ofNat q), .int (Int32.ofNat len)] 7)) (Tl.setTop (mkF m 15 #[.val (.ref b), .val (.int (Int32.ofNat (o + i))), .val (.ref d), .val (.int (Int32.ofNat (q + i))), .val (.int (Int32.ofNat len)), .val (.int (Int32.ofNat i)), .val (.int (cv A (o + i)))] [])) := c4.trans (by
        refine XS.istoreS Xl.here hexec rfl (hb hbytes d13) rfl rfl hz ?_
        exact Steps.refl _)
      have c6 : Steps p.tables e below (s₁.setTop (entryFrame m #[.ref b, .int (Int32.ofNat o), .ref d, .int (Int32.ofNat q), .int (Int32.ofNat len)] 7)) (Tl.setTop (mkF m 31 #[.val (.ref b), .val (.int (Int32.ofNat (o + i))), .val (.ref d), .val (.int (Int32.ofNat (q + i))), .val (.int (Int32.ofNat len)), .val (.int (Int32.ofNat i)), .val (.int (cv A (o + i)))] [.int (lo8 (cv A (o + i))), .int (Int32.ofNat (q + i)), .ref d])) := c5.trans (by
        refine XS.iload Xl.here hexec rfl (hb hbytes d15) rfl ?_
        refine sipushV Xl.here hexec rfl 255 (hb hbytes d17) (by decide) ?_
        refine XS.icmpYes Xl.here hexec rfl (pc0 := 20) rfl (hb hbytes d20) rfl (ii_le_t (hp i (by omega))) (by decide) rfl ?_
        refine XS.aloadN Xl.here hexec rfl (hb hbytes d26) rfl rfl ?_
        refine XS.iloadN Xl.here hexec rfl (hb hbytes d27) rfl ?_
        refine XS.iload Xl.here hexec rfl (hb hbytes d28) rfl ?_
        refine i2b Xl.here hexec rfl (hb hbytes d30) rfl ?_
        exact Steps.refl _)
      obtain ⟨T7, X7, p7, st7⟩ := Xl.aput hexec hBk rfl hlt rfl (fits_lo8 (cv A (o + i))) (g := (mkF m 31 #[.val (.ref b), .val (.int (Int32.ofNat (o + i))), .val (.ref d), .val (.int (Int32.ofNat (q + i))), .val (.int (Int32.ofNat len)), .val (.int (Int32.ofNat i)), .val (.int (cv A (o + i)))] [.int (lo8 (cv A (o + i))), .int (Int32.ofNat (q + i)), .ref d])) rfl (rest := []) rfl (hb hbytes d31)
      have c8 : Steps p.tables e below (s₁.setTop (entryFrame m #[.ref b, .int (Int32.ofNat o), .ref d, .int (Int32.ofNat q), .int (Int32.ofNat len)] 7)) (T7.setTop (mkF m 32 #[.val (.ref b), .val (.int (Int32.ofNat (o + i))), .val (.ref d), .val (.int (Int32.ofNat (q + i))), .val (.int (Int32.ofNat len)), .val (.int (Int32.ofNat i)), .val (.int (cv A (o + i)))] [])) := c6.trans (st7 _ (Steps.refl _))
      have c9 : Steps p.tables e below (s₁.setTop (entryFrame m #[.ref b, .int (Int32.ofNat o), .ref d, .int (Int32.ofNat q), .int (Int32.ofNat len)] 7)) (T7.setTop (mkF m 3 #[.val (.ref b), .val (.int (Int32.ofNat (o + i) + 1)), .val (.ref d), .val (.int (Int32.ofNat (q + i) + 1)), .val (.int (Int32.ofNat len)), .val (.int (Int32.ofNat i + 1)), .val (.int (cv A (o + i)))] [])) := c8.trans (by
        refine iincV X7.here hexec rfl 1 (hb hbytes d32) (by decide) rfl rfl ?_
        refine iincV X7.here hexec rfl 1 (hb hbytes d35) (by decide) rfl rfl ?_
        refine iincV X7.here hexec rfl 1 (hb hbytes d38) (by decide) rfl rfl ?_
        refine XS.goto X7.here hexec rfl (pc0 := 41) rfl (hb hbytes d41) (by decide) rfl ?_
        exact Steps.refl _)
      have c10 : Steps p.tables e below (s₁.setTop (entryFrame m #[.ref b, .int (Int32.ofNat o), .ref d, .int (Int32.ofNat q), .int (Int32.ofNat len)] 7)) (T7.setTop (mkF m 3 #[.val (.ref b), .val (.int (Int32.ofNat (o + (i + 1)))), .val (.ref d), .val (.int (Int32.ofNat (q + (i + 1)))), .val (.int (Int32.ofNat len)), .val (.int (Int32.ofNat (i + 1))), .val (.int (cv A (o + i)))] [])) := by
        have := c9
        rw [succ32, succ32, succ32] at this
        exact this
      exact ih (i + 1) (by omega) _ (Or.inr ⟨_, rfl, rfl⟩) T7 _ (by rw [copyLocs_step, ← List.append_assoc]; exact X7) (pl.trans p7) (fl.step (by omega) hlt (by simp)) c10
  obtain ⟨T9, B9, z9, X9, p9, f9, g9⟩ := loop len 0 (by omega) .unset (Or.inl rfl) s₁ B (by simpa [copyLocs] using X0) ⟨hB0.1, fun _ _ => rfl, rfl⟩ (Laid.zero _ _ _) c2
  have c11 : Steps p.tables e below (s₁.setTop (entryFrame m #[.ref b, .int (Int32.ofNat o), .ref d, .int (Int32.ofNat q), .int (Int32.ofNat len)] 7)) (T9.setTop (mkF m 46 #[.val (.ref b), .val (.int (Int32.ofNat (o + len))), .val (.ref d), .val (.int (Int32.ofNat (q + len))), .val (.int (Int32.ofNat len)), .val (.int (Int32.ofNat len)), z9] [.int (Int32.ofNat len)])) := g9.trans (by
    refine XS.iload X9.here hexec rfl (hb hbytes d3) rfl ?_
    refine XS.iload X9.here hexec rfl (hb hbytes d5) rfl ?_
    refine XS.icmpYes X9.here hexec rfl (pc0 := 7) rfl (hb hbytes d7) rfl (ii_ge_t (nlt32 (by omega) (Nat.le_refl _))) (by decide) rfl ?_
    refine XS.iload X9.here hexec rfl (hb hbytes d44) rfl ?_
    exact Steps.refl _)
  exact ⟨T9, some (.int (Int32.ofNat len)), _, _, _, X9, by simp, rfl, rfl, (fun h => by cases h), ⟨rfl, B9, p9.from hh0, f9⟩, fun fs hl => c11.trans (X9.ireturnOut hexec hret rfl (Or.inl rfl) (hb hbytes d46) hl)⟩
end Cmp5
namespace Cmp3
def yN : MethodName := ⟨"java/lang/StringUTF16", "compress", "([CII)[B"⟩
abbrev yB : ByteArray := jdk_52_method_16_code
theorem d0 : decode yB 0 = .ok (.iload_n 2, 1) := by decide +kernel
theorem d1 : decode yB 1 = .ok (.newarray .byte, 2) := by decide +kernel
theorem d3 : decode yB 3 = .ok (.astore_n 3, 1) := by decide +kernel
theorem d4 : decode yB 4 = .ok (.aload_n 0, 1) := by decide +kernel
theorem d5 : decode yB 5 = .ok (.iload_n 1, 1) := by decide +kernel
theorem d6 : decode yB 6 = .ok (.aload_n 3, 1) := by decide +kernel
theorem d7 : decode yB 7 = .ok (.iconst 0, 1) := by decide +kernel
theorem d8 : decode yB 8 = .ok (.iload_n 2, 1) := by decide +kernel
theorem d9 : decode yB 9 = .ok (.invokestatic 115, 3) := by decide +kernel
theorem d12 : decode yB 12 = .ok (.istore 4, 2) := by decide +kernel
theorem d14 : decode yB 14 = .ok (.iload 4, 2) := by decide +kernel
theorem d16 : decode yB 16 = .ok (.iload_n 2, 1) := by decide +kernel
theorem d17 : decode yB 17 = .ok (.if_icmp (.eq) 40, 3) := by decide +kernel
theorem d57 : decode yB 57 = .ok (.aload_n 3, 1) := by decide +kernel
theorem d58 : decode yB 58 = .ok (.areturn, 1) := by decide +kernel
def site : List Cond := [.arrayClass .byte, Cmp5.tab] ++ staticW U16 115 Cmp5.yN
def tab : Cond := tabOf yN yB 6 (some (.array .byte)) site
def P (b : Addr) (A : Cell) (o len : Nat) (args : Array Value) (s : State) : Prop := args = #[.ref b, .int (Int32.ofNat o), .int (Int32.ofNat len)] ∧ Ch b A s ∧ o + len ≤ A.slots.size ∧ len ≤ 536870912 ∧ ∀ i, i < len → ¬ 255 < cv A (o + i)
def E (b : Addr) (A : Cell) (o len : Nat) (r : Option Value) (s u : State) : Prop := NewArr .byte "[B" len (fun j => .int (lo8 (cv A (o + j)))) r s u ∧ u.heap.size = s.heap.size + 1
/-- no char of the range above 255: a new byte[] of their low bytes -/
theorem law (l : Launch) (b : Addr) (A : Cell) (o len : Nat) : Law l yN 3 3 1 18 yB 6 (some (.array .byte)) site (P b A o len) (E b A o len) [] 1 len := by
  refine Law.of_walk (plainFor_of_name (by decide +kernel)) (by decide +kernel) (by decide +kernel) (by decide) (fun _ _ h => by rw [h.1]; rfl) (fun _ U U' hal hh h => ⟨h.1, h.2.1.mv hal hh, h.2.2⟩) (fun r U U' V V' h1 hal h2 h => ⟨NewArr.mv r U U' V V' h1 hal h2 h.1, by rw [h1, h2]; exact h.2⟩) ?_
  intro p e s m args below meth c s₁ X0 hexec hbytes hml hret hlk hnm hown hh0 W hP
  obtain ⟨rfl, hA, l1, l2, hp⟩ := hP
  have a31 := hA.1.2.2.2
  have c1 : Steps p.tables e below (s₁.setTop (entryFrame m #[.ref b, .int (Int32.ofNat o), .int (Int32.ofNat len)] 6)) (s₁.setTop (mkF m 0 #[.val (.ref b), .val (.int (Int32.ofNat o)), .val (.int (Int32.ofNat len)), .unset, .unset, .unset] [])) := entry rfl
  have c2 : Steps p.tables e below (s₁.setTop (entryFrame m #[.ref b, .int (Int32.ofNat o), .int (Int32.ofNat len)] 6)) (s₁.setTop (mkF m 1 #[.val (.ref b), .val (.int (Int32.ofNat o)), .val (.int (Int32.ofNat len)), .unset, .unset, .unset] [.int (Int32.ofNat len)])) := c1.trans (by
    refine XS.iloadN X0.here hexec rfl (hb hbytes d0) rfl ?_
    exact Steps.refl _)
  obtain ⟨T3, B3, X3, ba3, bs3, bv3, bh3, bf3, st3⟩ := X0.anew hexec (atype := .byte) (wk W (.arrayClass .byte)) rfl (by show len * 1 ≤ _; omega) (by omega) (g := (mkF m 1 #[.val (.ref b), .val (.int (Int32.ofNat o)), .val (.int (Int32.ofNat len)), .unset, .unset, .unset] [.int (Int32.ofNat len)])) rfl (hb hbytes d1) (rest := []) rfl (Nat.le_refl _) (by show 0 + len ≤ len; omega)
  rw [hh0] at ba3 st3
  have kp3 : XT.Kept s T3 := (XT.Kept.of_eq hh0).push bh3
  have hA3 := hA.keep X3.warmed.alike (kp3 _ _ hA.1.1)
  have hne : b ≠ s.heap.size := hA.1.ne
  have c4 : Steps p.tables e below (s₁.setTop (entryFrame m #[.ref b, .int (Int32.ofNat o), .int (Int32.ofNat len)] 6)) (T3.setTop (mkF m 3 #[.val (.ref b), .val (.int (Int32.ofNat o)), .val (.int (Int32.ofNat len)), .unset, .unset, .unset] [.ref s.heap.size])) := c2.trans (st3 _ (Steps.refl _))
  have c5 : Steps p.tables e below (s₁.setTop (entryFrame m #[.ref b, .int (Int32.ofNat o), .int (Int32.ofNat len)] 6)) (T3.setTop (mkF m 9 #[.val (.ref b), .val (.int (Int32.ofNat o)), .val (.int (Int32.ofNat len)), .val (.ref s.heap.size), .unset, .unset] [.int (Int32.ofNat len), .int 0, .ref s.heap.size, .int (Int32.ofNat o), .ref b])) := c4.trans (by
    refine XS.astoreN X3.here hexec rfl (hb hbytes d3) rfl rfl rfl ?_
    refine XS.aloadN X3.here hexec rfl (hb hbytes d4) rfl rfl ?_
    refine XS.iloadN X3.here hexec rfl (hb hbytes d5) rfl ?_
    refine XS.aloadN X3.here hexec rfl (hb hbytes d6) rfl rfl ?_
    refine iconstV X3.here hexec rfl 0 (hb hbytes d7) (by decide) ?_
    refine XS.iloadN X3.here hexec rfl (hb hbytes d8) rfl ?_
    exact Steps.refl _)
  obtain ⟨v6, T6, X6, E6, g6⟩ := X3.callS hexec (Cmp5.law l b A s.heap.size B3 o 0 len) hown (wks W (staticW U16 115 Cmp5.yN)) (wk W Cmp5.tab) (W := 0) (Nat.le_of_ble_eq_true rfl) (Nat.le_of_ble_eq_true rfl) (Nat.le_refl _) (by show 0 + len + 0 ≤ len; omega) (g := (mkF m 9 #[.val (.ref b), .val (.int (Int32.ofNat o)), .val (.int (Int32.ofNat len)), .val (.ref s.heap.size), .unset, .unset] [.int (Int32.ofNat len), .int (Int32.ofNat 0), .ref s.heap.size, .int (Int32.ofNat o), .ref b])) rfl (by rw [hml]; rfl) c5 (argsL := [.ref b, .int (Int32.ofNat o), .ref s.heap.size, .int (Int32.ofNat 0), .int (Int32.ofNat len)]) (rest := []) rfl rfl (by show 2 * 0 + 0 ≤ _; decide) (hb hbytes d9) (⟨rfl, hA3, ba3, hne, l1, by rw [bs3]; simp, hp⟩)
  obtain ⟨rfl, B6, p6, f6⟩ := E6
  have c7 : Steps p.tables e below (s₁.setTop (entryFrame m #[.ref b, .int (Int32.ofNat o), .int (Int32.ofNat len)] 6)) (T6.setTop (mkF m 12 #[.val (.ref b), .val (.int (Int32.ofNat o)), .val (.int (Int32.ofNat len)), .val (.ref s.heap.size), .unset, .unset] [.int (Int32.ofNat len)])) := g6
  have c8 : Steps p.tables e below (s₁.setTop (entryFrame m #[.ref b, .int (Int32.ofNat o), .int (Int32.ofNat len)] 6)) (T6.setTop (mkF m 58 #[.val (.ref b), .val (.int (Int32.ofNat o)), .val (.int (Int32.ofNat len)), .val (.ref s.heap.size), .val (.int (Int32.ofNat len)), .unset] [.ref s.heap.size])) := c7.trans (by
    refine XS.istore X6.here hexec rfl (hb hbytes d12) rfl rfl ?_
    refine XS.iload X6.here hexec rfl (hb hbytes d14) rfl ?_
    refine XS.iloadN X6.here hexec rfl (hb hbytes d16) rfl ?_
    refine XS.icmpYes X6.here hexec rfl (pc0 := 17) rfl (hb hbytes d17) rfl (ii_eq_t rfl) (by decide) rfl ?_
    refine XS.aloadN X6.here hexec rfl (hb hbytes d57) rfl rfl ?_
    exact Steps.refl _)
  have X8 := X6.wide (L' := []) (cells' := 1) (slots' := len) (fun x hx hlt => by
    simp only [List.nil_append, copyLocs, List.mem_map, List.mem_range] at hx
    obtain ⟨i, -, rfl⟩ := hx
    exact absurd hlt (Nat.lt_irrefl _)) (Nat.le_refl _) (by omega)
  exact ⟨T6, some (.ref s.heap.size), _, _, _, X8, rfl, rfl, rfl, (fun h => by cases h), ⟨⟨rfl, B6, ba3.like (X3.warmed.alike.symm.trans X6.warmed.alike) p6.1 f6.1 f6.2.1 f6.2.2.1, f6.2.1.trans bv3, by rw [X6.warmed.alike.findClass, f6.1]; exact bf3, by rw [f6.2.2.1, bs3]; simp, fun j hj => by rw [f6.2.2.2 j, if_pos (by omega)]; rfl, kp3.put p6 (Nat.le_refl _)⟩, by rw [p6.2.2, bh3, hh0]; simp⟩, fun fs hl => c8.trans (X8.areturnOut hexec rfl hret rfl (hb hbytes d58) hl)⟩
end Cmp3
namespace CodL
def yN : MethodName := ⟨"java/lang/StringUTF16", "coderFromArrayLen", "([BI)B"⟩
abbrev yB : ByteArray := jdk_52_method_15_code
theorem d0 : decode yB 0 = .ok (.iload_n 1, 1) := by decide +kernel
theorem d1 : decode yB 1 = .ok (.aload_n 0, 1) := by decide +kernel
theorem d2 : decode yB 2 = .ok (.arraylength, 1) := by decide +kernel
theorem d3 : decode yB 3 = .ok (.isub, 1) := by decide +kernel
theorem d4 : decode yB 4 = .ok (.bipush 31, 2) := by decide +kernel
theorem d6 : decode yB 6 = .ok (.iushr, 1) := by decide +kernel
theorem d7 : decode yB 7 = .ok (.i2b, 1) := by decide +kernel
theorem d8 : decode yB 8 = .ok (.ireturn, 1) := by decide +kernel
def site : List Cond := []
def tab : Cond := tabOf yN yB 2 (some .byte) site
def P (d : Addr) (B : Cell) (args : Array Value) (s : State) : Prop := args = #[.ref d, .int (Int32.ofNat B.slots.size)] ∧ Arr .byte d B s
def E (r : Option Value) (s u : State) : Prop := XT.PureE (some (.int 0)) r s u
/-- an array as long as the number of chars: LATIN1 -/
theorem law (l : Launch) (d : Addr) (B : Cell) : Law l yN 2 2 0 0 yB 2 (some .byte) site (P d B) E [] 0 0 := by
  refine Law.of_walk (plainFor_of_name (by decide +kernel)) (by decide +kernel) (by decide +kernel) (by decide) (fun _ _ h => by rw [h.1]; rfl) (fun _ U U' hal hh h => ⟨h.1, h.2.mv hal hh⟩) (fun r U U' V V' h1 hal h2 h => XT.PureE.mv r U U' V V' h1 hal h2 h) ?_
  intro p e s m args below meth c s₁ X0 hexec hbytes hml hret hlk hnm hown hh0 W hP
  obtain ⟨rfl, hB⟩ := hP
  have hB0 := hB.mv X0.warmed.alike hh0
  have c1 : Steps p.tables e below (s₁.setTop (entryFrame m #[.ref d, .int (Int32.ofNat B.slots.size)] 2)) (s₁.setTop (mkF m 0 #[.val (.ref d), .val (.int (Int32.ofNat B.slots.size))] [])) := entry rfl
  have c2 : Steps p.tables e below (s₁.setTop (entryFrame m #[.ref d, .int (Int32.ofNat B.slots.size)] 2)) (s₁.setTop (mkF m 2 #[.val (.ref d), .val (.int (Int32.ofNat B.slots.size))] [.ref d, .int (Int32.ofNat B.slots.size)])) := c1.trans (by
    refine XS.iloadN X0.here hexec rfl (hb hbytes d0) rfl ?_
    refine XS.aloadN X0.here hexec rfl (hb hbytes d1) rfl rfl ?_
    exact Steps.refl _)
  have c3 : Steps p.tables e below (s₁.setTop (entryFrame m #[.ref d, .int (Int32.ofNat B.slots.size)] 2)) (s₁.setTop (mkF m 8 #[.val (.ref d), .val (.int (Int32.ofNat B.slots.size))] [.int (lo8 (ushr (Int32.ofNat B.slots.size - Int32.ofNat B.slots.size) 31))])) := c2.trans (by
    refine X0.alen hexec hB0 rfl rfl (hb hbytes d2) ?_
    refine XS.isub X0.here hexec rfl (hb hbytes d3) rfl ?_
    refine bipushV X0.here hexec rfl 31 (hb hbytes d4) (by decide) ?_
    refine iushr X0.here hexec rfl (hb hbytes d6) rfl ?_
    refine i2b X0.here hexec rfl (hb hbytes d7) rfl ?_
    exact Steps.refl _)
  have e0 : lo8 (ushr (Int32.ofNat B.slots.size - Int32.ofNat B.slots.size) 31) = 0 := by rw [Int32.sub_self]; decide
  rw [e0] at c3
  exact ⟨s₁, some (.int 0), _, _, _, X0, rfl, rfl, rfl, (fun h => by cases h), ⟨rfl, hh0⟩, fun fs hl => c3.trans (X0.ireturnOut hexec hret rfl (Or.inr (Or.inr (Or.inl rfl))) (hb hbytes d8) hl)⟩
end CodL
/-- the String at a is Latin-1 over a new byte[] (the heap's one new cell): the low bytes of the len chars of A from o on; every cell but a is kept -/
def Got (a : Addr) (D : Cell) (fV fC : Field) (A : Cell) (o len : Nat) (r : Option Value) (s u : State) : Prop := r = none ∧ ∃ D' V : Cell, Blank "java/lang/String" a D' u ∧ Same D D' [fV.slot, fC.slot] ∧ D'.slots[fV.slot]? = some (.ref s.heap.size) ∧ D'.slots[fC.slot]? = some (.int 0) ∧ Arr .byte s.heap.size V u ∧ V.vm = .none ∧ u.vm.findClass "[B" = some V.cls ∧ V.slots.size = len ∧ (∀ j, j < len → V.slots[j]? = some (.int (lo8 (cv A (o + j))))) ∧ (∀ (y : Addr) (c : Cell), y ≠ a → s.heap[y]? = some c → u.heap[y]? = some c) ∧ u.heap.size = s.heap.size + 1
theorem Got.mv {a : Addr} {D A : Cell} {fV fC : Field} {o len : Nat} : ∀ r (U U' V V' : State), U'.heap = U.heap → V.vm.Alike V'.vm → V'.heap = V.heap → Got a D fV fC A o len r U V → Got a D fV fC A o len r U' V' :=
  fun r U U' V V' h1 hal h2 ⟨e0, D', X, a1, a2, a3, a4, a5, a6, a7, a8, a9, a10, a11⟩ => ⟨e0, D', X, a1.mv hal h2, a2, by rw [h1]; exact a3, a4, by rw [h1]; exact a5.mv hal h2, a6, by rw [hal.findClass]; exact a7, a8, a9, by rw [h1, h2]; exact a10, by rw [h1, h2]; exact a11⟩
namespace New4
def yN : MethodName := ⟨"java/lang/String", "<init>", "([CIILjava/lang/Void;)V"⟩
abbrev yB : ByteArray := jdk_42_method_149_code
theorem d0 : decode yB 0 = .ok (.aload_n 0, 1) := by decide +kernel
theorem d1 : decode yB 1 = .ok (.invokespecial 1, 3) := by decide +kernel
theorem d4 : decode yB 4 = .ok (.iload_n 3, 1) := by decide +kernel
theorem d5 : decode yB 5 = .ok (.ifCond (.ne) 22, 3) := by decide +kernel
theorem d27 : decode yB 27 = .ok (.getstatic 38, 3) := by decide +kernel
theorem d30 : decode yB 30 = .ok (.ifCond (.eq) 28, 3) := by decide +kernel
theorem d33 : decode yB 33 = .ok (.aload_n 1, 1) := by decide +kernel
theorem d34 : decode yB 34 = .ok (.iload_n 2, 1) := by decide +kernel
theorem d35 : decode yB 35 = .ok (.iload_n 3, 1) := by decide +kernel
theorem d36 : decode yB 36 = .ok (.invokestatic 177, 3) := by decide +kernel
theorem d39 : decode yB 39 = .ok (.astore 5, 2) := by decide +kernel
theorem d41 : decode yB 41 = .ok (.aload_n 0, 1) := by decide +kernel
theorem d42 : decode yB 42 = .ok (.aload 5, 2) := by decide +kernel
theorem d44 : decode yB 44 = .ok (.iload_n 3, 1) := by decide +kernel
theorem d45 : decode yB 45 = .ok (.invokestatic 47, 3) := by decide +kernel
theorem d48 : decode yB 48 = .ok (.putfield 15, 3) := by decide +kernel
theorem d51 : decode yB 51 = .ok (.aload_n 0, 1) := by decide +kernel
theorem d52 : decode yB 52 = .ok (.aload 5, 2) := by decide +kernel
theorem d54 : decode yB 54 = .ok (.putfield 9, 3) := by decide +kernel
theorem d57 : decode yB 57 = .ok (.return_, 1) := by decide +kernel
def site : List Cond := [.fieldLink "java/lang/String" 38 "java/lang/String" "COMPACT_STRINGS" "Z", Cmp3.tab, CodL.tab, .laysFinal "java/lang/String" "java/lang/String" "value" "[B", .fieldLink "java/lang/String" 9 "java/lang/String" "value" "[B", .laysFinal "java/lang/String" "java/lang/String" "coder" "B", .fieldLink "java/lang/String" 15 "java/lang/String" "coder" "B"] ++ objW "java/lang/String" 1 ++ staticW "java/lang/String" 177 Cmp3.yN ++ staticW "java/lang/String" 47 CodL.yN
def tab : Cond := tabOf yN yB 6 none site
def P (a : Addr) (D : Cell) (fV fC : Field) (b : Addr) (A : Cell) (z : Int32) (o len : Nat) (args : Array Value) (s : State) : Prop := args = #[.ref a, .ref b, .int (Int32.ofNat o), .int (Int32.ofNat len), .null] ∧ Blank "java/lang/String" a D s ∧ Found "java/lang/String" "value" "[B" fV s ∧ Found "java/lang/String" "coder" "B" fC s ∧ Ch b A s ∧ StaticIs s "java/lang/String" "COMPACT_STRINGS" "Z" (.int z) ∧ ¬ z = 0 ∧ 0 < len ∧ o + len ≤ A.slots.size ∧ len ≤ 536870912 ∧ ∀ i, i < len → ¬ 255 < cv A (o + i)
def E (a : Addr) (D : Cell) (fV fC : Field) (A : Cell) (o len : Nat) (r : Option Value) (s u : State) : Prop := Got a D fV fC A o len r s u
/-- len > 0, no char of the range above 255: a Latin-1 String of their low bytes -/
theorem law (l : Launch) (a : Addr) (D : Cell) (fV fC : Field) (b : Addr) (A : Cell) (z : Int32) (o len : Nat) : Law l yN 5 4 2 35 yB 6 none site (P a D fV fC b A z o len) (E a D fV fC A o len) [⟨a, fC.slot⟩, ⟨a, fV.slot⟩] 1 len := by
  refine Law.of_walk (plainFor_of_name (by decide +kernel)) (by decide +kernel) (by decide +kernel) (by decide) (fun _ _ h => by rw [h.1]; rfl) (fun _ U U' hal hh h => ⟨h.1, h.2.1.mv hal hh, h.2.2.1.al hal, h.2.2.2.1.al hal, h.2.2.2.2.1.mv hal hh, h.2.2.2.2.2.1.there hal hh, h.2.2.2.2.2.2⟩) (fun r U U' V V' h1 hal h2 h => Got.mv r U U' V V' h1 hal h2 h) ?_
  intro p e s m args below meth c s₁ X0 hexec hbytes hml hret hlk hnm hown hh0 W hP
  obtain ⟨rfl, hB, f1, f2, hA, s1, hz, l0, l1, l2, hp⟩ := hP
  have a31 := hA.1.2.2.2
  have c1 : Steps p.tables e below (s₁.setTop (entryFrame m #[.ref a, .ref b, .int (Int32.ofNat o), .int (Int32.ofNat len), .null] 6)) (s₁.setTop (mkF m 0 #[.val (.ref a), .val (.ref b), .val (.int (Int32.ofNat o)), .val (.int (Int32.ofNat len)), .val .null, .unset] [])) := entry rfl
  have c2 : Steps p.tables e below (s₁.setTop (entryFrame m #[.ref a, .ref b, .int (Int32.ofNat o), .int (Int32.ofNat len), .null] 6)) (s₁.setTop (mkF m 1 #[.val (.ref a), .val (.ref b), .val (.int (Int32.ofNat o)), .val (.int (Int32.ofNat len)), .val .null, .unset] [.ref a])) := c1.trans (by
    refine XS.aloadN X0.here hexec rfl (hb hbytes d0) rfl rfl ?_
    exact Steps.refl _)
  obtain ⟨T3, X3, q3, st3⟩ := X0.oinit hexec hown (wks W (objW "java/lang/String" 1)) (g := (mkF m 1 #[.val (.ref a), .val (.ref b), .val (.int (Int32.ofNat o)), .val (.int (Int32.ofNat len)), .val .null, .unset] [.ref a])) rfl (by rw [hml]; rfl) (rest := []) rfl (hb hbytes d1) (W := 0) (by show 2 * 0 + 0 ≤ _; decide) (Nat.le_of_ble_eq_true rfl) (Nat.le_of_ble_eq_true rfl)
  have hh3 := q3.trans hh0
  have c4 : Steps p.tables e below (s₁.setTop (entryFrame m #[.ref a, .ref b, .int (Int32.ofNat o), .int (Int32.ofNat len), .null] 6)) (T3.setTop (mkF m 27 #[.val (.ref a), .val (.ref b), .val (.int (Int32.ofNat o)), .val (.int (Int32.ofNat len)), .val .null, .unset] [])) := (c2.trans (st3 _ (Steps.refl _))).trans (by
    refine XS.iloadN X3.here hexec rfl (hb hbytes d4) rfl ?_
    refine XS.ifYes X3.here hexec rfl (pc0 := 5) rfl (hb hbytes d5) rfl (i0_ne_t (nz32 (by omega) l0)) (by decide) rfl ?_
    exact Steps.refl _)
  obtain ⟨T5, X5, q5, st5⟩ := X3.sget hexec hown (wk W (.fieldLink "java/lang/String" 38 "java/lang/String" "COMPACT_STRINGS" "Z")) s1 (fun _ _ h => by rw [hh3]; exact h) (g := (mkF m 27 #[.val (.ref a), .val (.ref b), .val (.int (Int32.ofNat o)), .val (.int (Int32.ofNat len)), .val .null, .unset] [])) rfl (hb hbytes d27)
  have hh5 := q5.trans hh3
  have c6 : Steps p.tables e below (s₁.setTop (entryFrame m #[.ref a, .ref b, .int (Int32.ofNat o), .int (Int32.ofNat len), .null] 6)) (T5.setTop (mkF m 30 #[.val (.ref a), .val (.ref b), .val (.int (Int32.ofNat o)), .val (.int (Int32.ofNat len)), .val .null, .unset] [.int z])) := c4.trans (st5 _ (Steps.refl _))
  have c7 : Steps p.tables e below (s₁.setTop (entryFrame m #[.ref a, .ref b, .int (Int32.ofNat o), .int (Int32.ofNat len), .null] 6)) (T5.setTop (mkF m 36 #[.val (.ref a), .val (.ref b), .val (.int (Int32.ofNat o)), .val (.int (Int32.ofNat len)), .val .null, .unset] [.int (Int32.ofNat len), .int (Int32.ofNat o), .ref b])) := c6.trans (by
    refine XS.ifNo X5.here hexec rfl (hb hbytes d30) rfl (i0_eq_f hz) ?_
    refine XS.aloadN X5.here hexec rfl (hb hbytes d33) rfl rfl ?_
    refine XS.iloadN X5.here hexec rfl (hb hbytes d34) rfl ?_
    refine XS.iloadN X5.here hexec rfl (hb hbytes d35) rfl ?_
    exact Steps.refl _)
  obtain ⟨v8, T8, X8, E8, g8⟩ := X5.callS hexec (Cmp3.law l b A o len) hown (wks W (staticW "java/lang/String" 177 Cmp3.yN)) (wk W Cmp3.tab) (W := 0) (Nat.le_of_ble_eq_true rfl) (Nat.le_of_ble_eq_true rfl) (Nat.le_refl _) (by show 0 + len ≤ len; omega) (g := (mkF m 36 #[.val (.ref a), .val (.ref b), .val (.int (Int32.ofNat o)), .val (.int (Int32.ofNat len)), .val .null, .unset] [.int (Int32.ofNat len), .int (Int32.ofNat o), .ref b])) rfl (by rw [hml]; rfl) c7 (argsL := [.ref b, .int (Int32.ofNat o), .int (Int32.ofNat len)]) (rest := []) rfl rfl (by show 2 * 0 + 0 ≤ _; decide) (hb hbytes d36) (⟨rfl, hA.mv X5.warmed.alike hh5, l1, l2, hp⟩)
  obtain ⟨e8, z8⟩ := E8
  obtain ⟨rfl, N, n1, n2, n3, n4, n5, n6⟩ := NewArr.mv _ T5 s _ _ hh5.symm (Vm.Alike.refl _) rfl e8
  rw [hh5] at z8
  have hB1 := hB.keep X8.warmed.alike (n6 _ _ hB.1)
  have hne : s.heap.size ≠ a := (Nat.ne_of_lt (Array.getElem?_eq_some_iff.mp hB.1).1).symm
  have c9 : Steps p.tables e below (s₁.setTop (entryFrame m #[.ref a, .ref b, .int (Int32.ofNat o), .int (Int32.ofNat len), .null] 6)) (T8.setTop (mkF m 39 #[.val (.ref a), .val (.ref b), .val (.int (Int32.ofNat o)), .val (.int (Int32.ofNat len)), .val .null, .unset] [.ref s.heap.size])) := g8
  have c10 : Steps p.tables e below (s₁.setTop (entryFrame m #[.ref a, .ref b, .int (Int32.ofNat o), .int (Int32.ofNat len), .null] 6)) (T8.setTop (mkF m 45 #[.val (.ref a), .val (.ref b), .val (.int (Int32.ofNat o)), .val (.int (Int32.ofNat len)), .val .null, .val (.ref s.heap.size)] [.int (Int32.ofNat N.slots.size), .ref s.heap.size, .ref a])) := by
    have hc : Steps p.tables e below (s₁.setTop (entryFrame m #[.ref a, .ref b, .int (Int32.ofNat o), .int (Int32.ofNat len), .null] 6)) (T8.setTop (mkF m 45 #[.val (.ref a), .val (.ref b), .val (.int (Int32.ofNat o)), .val (.int (Int32.ofNat len)), .val .null, .val (.ref s.heap.size)] [.int (Int32.ofNat len), .ref s.heap.size, .ref a])) := c9.trans (by
      refine XS.astore X8.here hexec rfl (hb hbytes d39) rfl rfl rfl ?_
      refine XS.aloadN X8.here hexec rfl (hb hbytes d41) rfl rfl ?_
      refine XS.aload X8.here hexec rfl (hb hbytes d42) rfl rfl ?_
      refine XS.iloadN X8.here hexec rfl (hb hbytes d44) rfl ?_
      exact Steps.refl _)
    rw [n4]; exact hc
  obtain ⟨v11, T11, X11, E11, g11⟩ := X8.callS hexec (CodL.law l s.heap.size N) hown (wks W (staticW "java/lang/String" 47 CodL.yN)) (wk W CodL.tab) (W := 1) (Nat.le_of_ble_eq_true rfl) (Nat.le_of_ble_eq_true rfl) (Nat.le_refl _) (by show 0 + len + 0 ≤ len; omega) (g := (mkF m 45 #[.val (.ref a), .val (.ref b), .val (.int (Int32.ofNat o)), .val (.int (Int32.ofNat len)), .val .null, .val (.ref s.heap.size)] [.int (Int32.ofNat N.slots.size), .ref s.heap.size, .ref a])) rfl (by rw [hml]; rfl) c10 (argsL := [.ref s.heap.size, .int (Int32.ofNat N.slots.size)]) (rest := [.ref a]) rfl rfl (by show 2 * 0 + (1 + 0) ≤ _; decide) (hb hbytes d45) (⟨rfl, n1⟩)
  obtain ⟨rfl, q11⟩ := E11
  have hB11 := hB1.mv (X8.warmed.alike.symm.trans X11.warmed.alike) q11
  have c12 : Steps p.tables e below (s₁.setTop (entryFrame m #[.ref a, .ref b, .int (Int32.ofNat o), .int (Int32.ofNat len), .null] 6)) (T11.setTop (mkF m 48 #[.val (.ref a), .val (.ref b), .val (.int (Int32.ofNat o)), .val (.int (Int32.ofNat len)), .val .null, .val (.ref s.heap.size)] [.int 0, .ref a])) := g11
  obtain ⟨T13, X13, p13, bl13, sl13, st13⟩ := X11.finit hexec hown (wk W (.fieldLink "java/lang/String" 15 "java/lang/String" "coder" "B")) (Or.inr ⟨_, (wk W (.laysFinal "java/lang/String" "java/lang/String" "coder" "B"))⟩) (Or.inl ⟨rfl, hnm⟩) f2 (Or.inl rfl) hB11 (t := .byte) (by decide +kernel) rfl (g := (mkF m 48 #[.val (.ref a), .val (.ref b), .val (.int (Int32.ofNat o)), .val (.int (Int32.ofNat len)), .val .null, .val (.ref s.heap.size)] [.int 0, .ref a])) rfl (rest := []) rfl (hb hbytes d48)
  have c14 : Steps p.tables e below (s₁.setTop (entryFrame m #[.ref a, .ref b, .int (Int32.ofNat o), .int (Int32.ofNat len), .null] 6)) (T13.setTop (mkF m 54 #[.val (.ref a), .val (.ref b), .val (.int (Int32.ofNat o)), .val (.int (Int32.ofNat len)), .val .null, .val (.ref s.heap.size)] [.ref s.heap.size, .ref a])) := (c12.trans (st13 _ (Steps.refl _))).trans (by
    refine XS.aloadN X13.here hexec rfl (hb hbytes d51) rfl rfl ?_
    refine XS.aload X13.here hexec rfl (hb hbytes d52) rfl rfl ?_
    exact Steps.refl _)
  obtain ⟨T15, X15, p15, bl15, sl15, st15⟩ := X13.finit hexec hown (wk W (.fieldLink "java/lang/String" 9 "java/lang/String" "value" "[B")) (Or.inr ⟨_, (wk W (.laysFinal "java/lang/String" "java/lang/String" "value" "[B"))⟩) (Or.inl ⟨rfl, hnm⟩) f1 (Or.inl rfl) bl13 (t := (.array .byte)) (by decide +kernel) rfl (g := (mkF m 54 #[.val (.ref a), .val (.ref b), .val (.int (Int32.ofNat o)), .val (.int (Int32.ofNat len)), .val .null, .val (.ref s.heap.size)] [.ref s.heap.size, .ref a])) rfl (rest := []) rfl (hb hbytes d54)
  have c16 : Steps p.tables e below (s₁.setTop (entryFrame m #[.ref a, .ref b, .int (Int32.ofNat o), .int (Int32.ofNat len), .null] 6)) (T15.setTop (mkF m 57 #[.val (.ref a), .val (.ref b), .val (.int (Int32.ofNat o)), .val (.int (Int32.ofNat len)), .val .null, .val (.ref s.heap.size)] [])) := c14.trans (st15 _ (Steps.refl _))
  have ap := apart (Or.inr ⟨_, (wk W (.laysFinal "java/lang/String" "java/lang/String" "value" "[B"))⟩) (Or.inr ⟨_, (wk W (.laysFinal "java/lang/String" "java/lang/String" "coder" "B"))⟩) f1 f2 (t₁ := .array .byte) (t₂ := .byte) (by decide +kernel) (by decide +kernel) (by decide)
  have al := X8.warmed.alike.symm.trans X15.warmed.alike
  have n7 : T11.heap[s.heap.size]? = some N := by rw [q11]; exact n1.1
  exact ⟨T15, none, _, _, _, X15, by simp, rfl, by omega, (fun _ => rfl), ⟨rfl, _, N, bl15, ((Same.refl D _).set _ (by simp)).set _ (by simp), sl15, (Cell.slots_setSlot_ne _ ap).trans sl13, n1.keep al (p15.other hne (p13.other hne n7)), n2, by rw [al.findClass]; exact n3, n4, n5, fun y c h1 h2 => p15.other h1 (p13.other h1 (by rw [q11]; exact n6 y c h2)), by rw [p15.2.2, p13.2.2, q11]; exact z8⟩, fun fs hl => c16.trans (X15.returnOut hexec hret (hb hbytes d57) hl)⟩
end New4
namespace New1
def yN : MethodName := ⟨"java/lang/String", "<init>", "([C)V"⟩
abbrev yB : ByteArray := jdk_42_method_3_code
theorem d0 : decode yB 0 = .ok (.aload_n 0, 1) := by decide +kernel
theorem d1 : decode yB 1 = .ok (.aload_n 1, 1) := by decide +kernel
theorem d2 : decode yB 2 = .ok (.iconst 0, 1) := by decide +kernel
theorem d3 : decode yB 3 = .ok (.aload_n 1, 1) := by decide +kernel
theorem d4 : decode yB 4 = .ok (.arraylength, 1) := by decide +kernel
theorem d5 : decode yB 5 = .ok (.aconst_null, 1) := by decide +kernel
theorem d6 : decode yB 6 = .ok (.invokespecial 27, 3) := by decide +kernel
theorem d9 : decode yB 9 = .ok (.return_, 1) := by decide +kernel
def site : List Cond := [New4.tab] ++ initW "java/lang/String" 27 New4.yN
def tab : Cond := tabOf yN yB 2 none site
def P (a : Addr) (D : Cell) (fV fC : Field) (b : Addr) (A : Cell) (z : Int32) (args : Array Value) (s : State) : Prop := args = #[.ref a, .ref b] ∧ Blank "java/lang/String" a D s ∧ Found "java/lang/String" "value" "[B" fV s ∧ Found "java/lang/String" "coder" "B" fC s ∧ Ch b A s ∧ StaticIs s "java/lang/String" "COMPACT_STRINGS" "Z" (.int z) ∧ ¬ z = 0 ∧ 0 < A.slots.size ∧ A.slots.size ≤ 536870912 ∧ ∀ i, i < A.slots.size → ¬ 255 < cv A i
def E (a : Addr) (D : Cell) (fV fC : Field) (A : Cell) (r : Option Value) (s u : State) : Prop := Got a D fV fC A 0 A.slots.size r s u
/-- new String(chars), not empty, no char above 255: a Latin-1 String of their low bytes -/
theorem law (l : Launch) (a : Addr) (D : Cell) (fV fC : Field) (b : Addr) (A : Cell) (z : Int32) : Law l yN 2 1 3 52 yB 2 none site (P a D fV fC b A z) (E a D fV fC A) [⟨a, fC.slot⟩, ⟨a, fV.slot⟩] 1 A.slots.size := by
  refine Law.of_walk (plainFor_of_name (by decide +kernel)) (by decide +kernel) (by decide +kernel) (by decide) (fun _ _ h => by rw [h.1]; rfl) (fun _ U U' hal hh h => ⟨h.1, h.2.1.mv hal hh, h.2.2.1.al hal, h.2.2.2.1.al hal, h.2.2.2.2.1.mv hal hh, h.2.2.2.2.2.1.there hal hh, h.2.2.2.2.2.2⟩) (fun r U U' V V' h1 hal h2 h => Got.mv r U U' V V' h1 hal h2 h) ?_
  intro p e s m args below meth c s₁ X0 hexec hbytes hml hret hlk hnm hown hh0 W hP
  obtain ⟨rfl, hB, f1, f2, hA, s1, hz, l0, l2, hp⟩ := hP
  have c1 : Steps p.tables e below (s₁.setTop (entryFrame m #[.ref a, .ref b] 2)) (s₁.setTop (mkF m 0 #[.val (.ref a), .val (.ref b)] [])) := entry rfl
  have c2 : Steps p.tables e below (s₁.setTop (entryFrame m #[.ref a, .ref b] 2)) (s₁.setTop (mkF m 6 #[.val (.ref a), .val (.ref b)] [.null, .int (Int32.ofNat A.slots.size), .int 0, .ref b, .ref a])) := c1.trans (by
    refine XS.aloadN X0.here hexec rfl (hb hbytes d0) rfl rfl ?_
    refine XS.aloadN X0.here hexec rfl (hb hbytes d1) rfl rfl ?_
    refine iconstV X0.here hexec rfl 0 (hb hbytes d2) (by decide) ?_
    refine XS.aloadN X0.here hexec rfl (hb hbytes d3) rfl rfl ?_
    refine X0.alen hexec (hA.1.mv X0.warmed.alike hh0) rfl rfl (hb hbytes d4) ?_
    refine XS.aconstNull X0.here hexec rfl (hb hbytes d5) ?_
    exact Steps.refl _)
  obtain ⟨v3, T3, X3, E3, g3⟩ := X0.callN hexec (New4.law l a D fV fC b A z 0 A.slots.size) rfl hown (wks W (initW "java/lang/String" 27 New4.yN)) (W New4.tab (by simp only [site, List.mem_cons, List.mem_append, true_or, or_true])) (W := 0) (Nat.le_of_ble_eq_true rfl) (Nat.le_of_ble_eq_true rfl) (Nat.le_refl _) (by show 0 + A.slots.size ≤ A.slots.size; omega) (g := (mkF m 6 #[.val (.ref a), .val (.ref b)] [.null, .int (Int32.ofNat A.slots.size), .int (Int32.ofNat 0), .ref b, .ref a])) rfl (by rw [hml]; rfl) c2 (argsL := [.ref b, .int (Int32.ofNat 0), .int (Int32.ofNat A.slots.size), .null]) (rest := []) rfl rfl (by show 2 * 0 + 0 ≤ _; decide) (hb hbytes d6) (⟨rfl, hB.mv X0.warmed.alike hh0, f1.al X0.warmed.alike, f2.al X0.warmed.alike, hA.mv X0.warmed.alike hh0, s1.there X0.warmed.alike hh0, hz, l0, by omega, l2, fun i hi => by rw [Nat.zero_add]; exact hp i hi⟩)
  have e0 := Got.mv _ s₁ s _ _ hh0.symm (Vm.Alike.refl _) rfl E3
  obtain rfl := e0.1
  have c4 : Steps p.tables e below (s₁.setTop (entryFrame m #[.ref a, .ref b] 2)) (T3.setTop (mkF m 9 #[.val (.ref a), .val (.ref b)] [])) := g3
  exact ⟨T3, none, _, _, _, X3, by simp, rfl, by omega, (fun _ => rfl), e0, fun fs hl => c4.trans (X3.returnOut hexec hret (hb hbytes d9) hl)⟩
theorem pays {l : Launch} {R : Room} {p : Program} {e : Env} {below : List Frame} {s : State} {sargs : Array Value} {len W : Nat} (a : Addr) (D : Cell) (fV fC : Field) (b : Addr) (A : Cell) (z : Int32) (htab : tab.before sargs s = true) (hfr : 4 ≤ R.frames) (hlo : W + 65 ≤ R.locals) :
    Back l R p e below s sargs yN len W (fun A₁ a₁ => A₁.cells + 1 ≤ R.cells ∧ A₁.slots + A.slots.size ≤ R.slots ∧ P a D fV fC b A z a₁ A₁.U) (fun A₁ _ v₁ B₁ => E a D fV fC A v₁ A₁.U B₁.U ∧ B₁.locs = A₁.locs ++ [⟨a, fC.slot⟩, ⟨a, fV.slot⟩] ∧ B₁.cells = A₁.cells + 1 ∧ B₁.slots = A₁.slots + A.slots.size) :=
  (law l a D fV fC b A z).pays htab hfr (by omega)
end New1
end StrChars
namespace StrChars.Road
open Jvm Sem ClassFile Op Lib Jvm.Stand Jvm.Free Jvm.Free.XT
open Jvm.Lib.Cold (StaticIs)
abbrev ST : String := "java/lang/String"
/-- every table word that New1's law asks, flat -/
abbrev words : List Jvm.Cond := [.code New1.yN New1.yB 2 none, .initialized ST, .methodLink ST 27 New4.yN, .instanceMethod New4.yN,
  .code New4.yN New4.yB 6 none, .fieldLink ST 38 ST "COMPACT_STRINGS" "Z", .laysFinal ST ST "value" "[B", .fieldLink ST 9 ST "value" "[B", .laysFinal ST ST "coder" "B", .fieldLink ST 15 ST "coder" "B",
  .methodLink ST 1 Lib.objectInit, .instanceMethod Lib.objectInit, .code Lib.objectInit ⟨#[0xb1]⟩ 1 none, .methodLink ST 177 Cmp3.yN, .static Cmp3.yN, .methodLink ST 47 CodL.yN, .static CodL.yN,
  .code Cmp3.yN Cmp3.yB 6 (some (.array .byte)), .initialized U16, .arrayClass .byte, .methodLink U16 115 Cmp5.yN, .static Cmp5.yN, .code Cmp5.yN Cmp5.yB 7 (some .int), .code CodL.yN CodL.yB 2 (some .byte)]
theorem tab_of {a : Array Value} {s : State} (h : ∀ w ∈ words, w.before a s = true) : New1.tab.before a s = true := by
  have h5 : Cmp5.tab.before a s = true := unparts (wk h (.code Cmp5.yN Cmp5.yB 7 (some .int))) (wks h (.initialized Cmp5.yN.cls :: Cmp5.site))
  have hc : CodL.tab.before a s = true := unparts (wk h (.code CodL.yN CodL.yB 2 (some .byte))) (wks h (.initialized CodL.yN.cls :: CodL.site))
  have q5 : ∀ w ∈ Cmp5.tab :: words, w.before a s = true := fun w hw => (List.mem_cons.mp hw).elim (fun e => e ▸ h5) (h w)
  have h3 : Cmp3.tab.before a s = true := unparts (wk q5 (.code Cmp3.yN Cmp3.yB 6 (some (.array .byte)))) (wks q5 (.initialized Cmp3.yN.cls :: Cmp3.site))
  have q3 : ∀ w ∈ Cmp3.tab :: CodL.tab :: words, w.before a s = true := fun w hw => (List.mem_cons.mp hw).elim (fun e => e ▸ h3) fun hw => (List.mem_cons.mp hw).elim (fun e => e ▸ hc) (h w)
  have h4 : New4.tab.before a s = true := unparts (wk q3 (.code New4.yN New4.yB 6 none)) (wks q3 (.initialized New4.yN.cls :: New4.site))
  have q4 : ∀ w ∈ New4.tab :: words, w.before a s = true := fun w hw => (List.mem_cons.mp hw).elim (fun e => e ▸ h4) (h w)
  exact unparts (wk q4 (.code New1.yN New1.yB 2 none)) (wks q4 (.initialized New1.yN.cls :: New1.site))
/-- the words ride from the start Z to the walk's own state -/
theorem moved {Z s : State} {a0 args : Array Value} (hZ : Z.Warmed39 s.vm) (hw : ∀ d ∈ words, d.before a0 Z = true) : ∀ d ∈ words, d.before args s = true := fun d hd => by
  have q := hw d hd
  have t : ∀ d ∈ words, d = .arrayClass .byte ∨ (d.onTables && d.keepsFace) = true := by decide +kernel
  rcases t d hd with rfl | t
  · exact RoadKit.mvA hZ q
  · exact RoadKit.mv hZ q t
/-- WHAT COMES BACK, over the tables of the start Z: h the heap at the call, h' behind it -/
def Q (Z : State) (x : Addr) (A : Cell) (h : Heap) (v : Option Value) (h' : Heap) (L : List Loc) : Prop := v = none ∧ (∀ y ∈ L, y.base = x) ∧ RoadKit.Keep h h' [x] ∧ h'.size = h.size + 1 ∧ RoadKit.Exa Z h' x ST ∧ RoadKit.Fld Z h' x ST "value" "[B" (.ref h.size) ∧ RoadKit.Fld Z h' x ST "coder" "B" (.int 0) ∧
  (∃ V : Cell, RoadKit.Arr Z h' h.size V .byte ∧ V.vm = .none ∧ Z.vm.findClass "[B" = some V.cls ∧ V.slots.size = A.slots.size ∧ ∀ j, j < A.slots.size → V.slots[j]? = some (.int (lo8 (cv A j)))) ∧
  ∀ (O n d : String) (w : Value), RoadKit.Fld Z h x O n d w → RoadKit.slotOf Z O n d ≠ RoadKit.slotOf Z ST "value" "[B" → RoadKit.slotOf Z O n d ≠ RoadKit.slotOf Z ST "coder" "B" → RoadKit.Fld Z h' x O n d w
/-- **new String(chars) AT A CALL, IN THE ROAD'S FORM**: for specialBack behind newO: x the fresh String, b the char[] with the cell A -/
theorem back {p : Program} {l : Launch} {e : Env} {R : Room} {s : State} {args : Array Value} {below : List Frame} {len W : Nat} {Z : State} {a0 : Array Value} {h : Heap} (hZ : Z.Warmed39 s.vm) (hw : ∀ d ∈ words, d.before a0 Z = true) {kI : Nat} (wi : (Jvm.Cond.instantiable ST kI).before a0 Z = true)
    {x b : Addr} {A : Cell} {z : Int32} {v0 c0 : Value} (E : RoadKit.Exa Z h x ST) (V : RoadKit.Fld Z h x ST "value" "[B" v0) (C : RoadKit.Fld Z h x ST "coder" "B" c0) (K : RoadKit.Arr Z h b A .char) (hty : Typed .char A) (S : RoadKit.Sta Z h ST "COMPACT_STRINGS" "Z" (.int z)) (hz : ¬ z = 0)
    (l0 : 0 < A.slots.size) (l2 : A.slots.size ≤ 536870912) (hp : ∀ i, i < A.slots.size → ¬ 255 < cv A i) (hfr : 4 ≤ R.frames) (hlo : W + 65 ≤ R.locals) :
    Back l R p e below s args New1.yN len W (fun P a => a = #[.ref x, .ref b] ∧ P.U.heap = h ∧ P.cells + 1 ≤ R.cells ∧ P.slots + A.slots.size ≤ R.slots)
      (fun P _ v B => ∃ L, Q Z x A h v B.U.heap L ∧ B.locs = P.locs ++ L ∧ B.cells = P.cells + 1 ∧ B.slots = P.slots + A.slots.size) := by
  intro m meth c P g ig mk a X hg hsize hdg hW hn hp'
  obtain ⟨rfl, rfl, r1, r2⟩ := hp'
  have al : Z.vm.Alike P.U.vm := hZ.alike.trans X.warmed.alike
  obtain ⟨D, cfV, kV, iV, fV, hD, gV, stV, knV, obV, asV, slV⟩ := id V
  obtain ⟨D', cfC, kC, iC, fC, hD', gC, stC, -, -, asC, slC⟩ := id C
  cases hD.symm.trans hD'
  obtain ⟨D2, kD, e1, e2, e3, e4, e5⟩ := id E
  cases hD.symm.trans e1
  obtain ⟨c2, k2, i1, i2, i3, -⟩ := Cond.instantiable_spec wi
  cases e2.symm.trans i1
  cases e3.symm.trans i2
  obtain ⟨kU, u1, u2⟩ := al.2.2 _ _ e3
  have hB : Blank ST x D P.U := ⟨hD, ⟨knV, fun q hq => by rw [hq] at obV; cases obV⟩, by rw [al.findClass]; exact e2, kU, u1, by rw [u2]; exact i3, by rw [u2]; exact e5 i3⟩
  have F1 : Found ST "value" "[B" fV P.U := ⟨SBG.found_only al ⟨cfV, kV, iV, gV⟩, stV⟩
  have F2 : Found ST "coder" "B" fC P.U := ⟨SBG.found_only al ⟨cfC, kC, iC, gC⟩, stC⟩
  have hA : Ch b A P.U := ⟨⟨K.1, State.isArrayOf_alike al K.2.1, K.2.2, by omega⟩, hty⟩
  have hS : StaticIs P.U ST "COMPACT_STRINGS" "Z" (.int z) := by
    obtain ⟨cfS, iS, kS, fS, st, cS, t1, t2, t3, t4, t5, t6, t7⟩ := S
    exact StaticIs.there (s := { Z with heap := P.U.heap }) ⟨cfS, iS, kS, fS, st, cS, t1, t2, t3, t4, t5, (fun q => by rw [q] at t6; cases t6), t7⟩ al rfl
  obtain ⟨v, B, X', ⟨⟨hv, E', V', q1, q2, q3, q4, q5, q6, q7, q8, q9, q10, q11⟩, hl, hc, hs⟩, st⟩ := New1.pays x D fV fC b A z (tab_of (moved hZ hw)) hfr hlo m meth c P g ig mk _ X hg hsize hdg hW hn ⟨r1, r2, rfl, hB, F1, F2, hA, hS, hz, l0, l2, hp⟩
  have al' : Z.vm.Alike B.U.vm := hZ.alike.trans X'.warmed.alike
  have hsz : E'.slots.size = D.slots.size := by
    obtain ⟨-, -, -, kB, w1, w2, w3⟩ := q1
    obtain ⟨kB', y1, y2⟩ := al'.2.2 _ _ e3
    rw [q2.2.1] at w1
    cases w1.symm.trans y1
    rw [w3, e5 i3, y2]
  refine ⟨v, B, X', ⟨_, ⟨hv, ?_, ⟨by omega, fun y cy hy hn' => q10 y cy (by simpa using hn') hy, fun y cy hy => ?_⟩, q11, ⟨E', _, q1.1, by rw [q2.2.1]; exact e2, by rw [q2.2.1]; exact e3, by rw [q2.1]; exact obV, fun _ => by rw [hsz]; exact e5 i3⟩,
    ⟨E', cfV, kV, iV, fV, q1.1, gV, stV, by rw [q2.1]; exact knV, by rw [q2.1]; exact obV, by rw [q2.2.1]; exact asV, q3⟩, ⟨E', cfC, kC, iC, fC, q1.1, gC, stC, by rw [q2.1]; exact knV, by rw [q2.1]; exact obV, by rw [q2.2.1]; exact asC, q4⟩,
    ⟨V', ⟨q5.1, State.isArrayOf_alike al'.symm q5.2.1, q5.2.2.1⟩, q6, by rw [← al'.findClass]; exact q7, q8, fun j hj => by have := q9 j hj; rwa [Nat.zero_add] at this⟩, fun O n d w F n1 n2 => ?_⟩, hl, hc, hs⟩, st⟩
  · intro y hy
    simp only [List.mem_cons, List.not_mem_nil, or_false] at hy
    rcases hy with rfl | rfl <;> rfl
  · by_cases q : y = x
    · subst q
      cases hD.symm.trans hy
      exact ⟨E', q1.1, q2.2.1, q2.1, hsz⟩
    · exact ⟨cy, q10 y cy q hy, rfl, rfl, rfl⟩
  · obtain ⟨D3, cf, k, i, f, g1, g2, g3, g4, g5, g6, g7⟩ := F
    cases hD.symm.trans g1
    simp only [RoadKit.slotOf, g2, gV, gC, Option.map_some, Option.getD_some] at n1 n2
    exact ⟨E', cf, k, i, f, q1.1, g2, g3, by rw [q2.1]; exact g4, by rw [q2.1]; exact g5, by rw [q2.2.1]; exact g6, by rw [q2.2.2 f.slot (by simp [n1, n2])]; exact g7⟩
end StrChars.Road
namespace StrChars.Road
open Jvm Sem ClassFile Op Lib Jvm.Stand Jvm.Free Jvm.Free.XT
/-- WHAT COMES BACK, the byte[] as a list of values -/
def QA (Z : State) (x : Addr) (zn : Int32) (cs : List Int32) (h : Heap) (v : Option Value) (h' : Heap) (L : List Loc) : Prop := v = none ∧ (∀ y ∈ L, y.base = x) ∧ RoadKit.Keep h h' [x] ∧ h'.size = h.size + 1 ∧ RoadKit.Exa Z h' x ST ∧ RoadKit.Fld Z h' x ST "value" "[B" (.ref h.size) ∧ RoadKit.Fld Z h' x ST "coder" "B" (.int 0) ∧
  (∃ kb, Z.vm.findClass "[B" = some kb ∧ RoadKit.Arv Z h' h.size kb .byte zn (cs.map fun c => .int (lo8 c)) (.int 0)) ∧
  ∀ (O n d : String) (w : Value), RoadKit.Fld Z h x O n d w → RoadKit.slotOf Z O n d ≠ RoadKit.slotOf Z ST "value" "[B" → RoadKit.slotOf Z O n d ≠ RoadKit.slotOf Z ST "coder" "B" → RoadKit.Fld Z h' x O n d w
/-- **new String(chars) AT A CALL, THE ARRAYS AS LISTS**: the char[] at b holds cs, not empty, no char above 255 -/
theorem backArv {p : Program} {l : Launch} {e : Env} {R : Room} {s : State} {args : Array Value} {below : List Frame} {len W : Nat} {Z : State} {a0 : Array Value} {h : Heap} (hZ : Z.Warmed39 s.vm) (hw : ∀ d ∈ words, d.before a0 Z = true) {kI : Nat} (wi : (Jvm.Cond.instantiable ST kI).before a0 Z = true)
    {x b : Addr} {k : ClassId} {zn z : Int32} {cs : List Int32} {dv v0 c0 : Value} (E : RoadKit.Exa Z h x ST) (V : RoadKit.Fld Z h x ST "value" "[B" v0) (C : RoadKit.Fld Z h x ST "coder" "B" c0) (K : RoadKit.Arv Z h b k .char zn (cs.map Value.int) dv) (S : RoadKit.Sta Z h ST "COMPACT_STRINGS" "Z" (.int z)) (hz : ¬ z = 0)
    (hlen : zn.toNatClampNeg = cs.length) (h0 : 0 < cs.length) (hbig : cs.length ≤ 536870912) (hall : ∀ c ∈ cs, ¬ 255 < c) (hfr : 4 ≤ R.frames) (hlo : W + 65 ≤ R.locals) :
    Back l R p e below s args New1.yN len W (fun P a => a = #[.ref x, .ref b] ∧ P.U.heap = h ∧ P.cells + 1 ≤ R.cells ∧ P.slots + cs.length ≤ R.slots)
      (fun P _ v B => ∃ L, QA Z x zn cs h v B.U.heap L ∧ B.locs = P.locs ++ L ∧ B.cells = P.cells + 1 ∧ B.slots = P.slots + cs.length) := by
  obtain ⟨A, K1, K2, K3, K4, K5, K6⟩ := K
  have e : A.slots.size = cs.length := K3.trans hlen
  have hat : ∀ (i : Nat) (hi : i < cs.length), A.slots[i]? = some (.int cs[i]) := fun i hi => by rw [K5 i (by omega)]; simp [List.getD_eq_getElem?_getD, hi]
  have hcv : ∀ (i : Nat) (hi : i < cs.length), cv A i = cs[i] := fun i hi => by unfold cv; rw [hat i hi]
  have hty : Typed .char A := fun i v hv => by
    have hi : i < A.slots.size := (Array.getElem?_eq_some_iff.mp hv).1
    have q := K5 i hi
    rw [hv] at q
    rw [Option.some.inj q]
    exact K6 i hi
  refine Back.mono (back hZ hw wi E V C K1 hty S hz (by omega) (by omega) (fun i hi => by rw [hcv i (by omega)]; exact hall _ (List.getElem_mem _)) hfr hlo) (fun P a hp => ⟨hp.1, hp.2.1, hp.2.2.1, by rw [e]; exact hp.2.2.2⟩) (fun P a v B hp hq => ?_)
  obtain ⟨L, ⟨q1, q2, q3, q4, q5, q6, q7, ⟨V', v1, v2, v3, v4, v5⟩, q9⟩, hl, hc, hs⟩ := hq
  refine ⟨L, ⟨q1, q2, q3, q4, q5, q6, q7, ⟨V'.cls, v3, V', v1, rfl, by rw [v4, e, hlen], K4, fun i hi => ?_, fun i hi => ?_⟩, q9⟩, hl, hc, by rw [hs, e]⟩
  · have hi' : i < cs.length := by omega
    rw [v5 i (by omega), hcv i hi']; simp [List.getD_eq_getElem?_getD, hi']
  · have hi' : i < cs.length := by omega
    simp only [List.getD_eq_getElem?_getD, List.getElem?_map, List.getElem?_eq_getElem hi', Option.map_some, Option.getD_some]
    exact fits_lo8 _
end StrChars.Road
namespace StrChars.Road
open Jvm Sem ClassFile Op Lib Jvm.Stand Jvm.Free Jvm.Free.XT
/-- WHAT COMES BACK, in the writer's own shape -/
def QV (Z : State) (x : Addr) (N : Int32) (bs : List Int32) (h : Heap) (n0 : Nat) (v : Option Value) (h' : Heap) (L : List Loc) : Prop := v = none ∧ RoadKit.Fr n0 L ∧ RoadKit.Keep h h' [x] ∧ RoadKit.Exa Z h' x ST ∧ RoadKit.Fld Z h' x ST "coder" "B" (.int 0) ∧
  ∃ (t : Addr) (kb : ClassId), n0 ≤ t ∧ h.size ≤ t ∧ ¬ t = x ∧ RoadKit.Fld Z h' x ST "value" "[B" (.ref t) ∧ RoadKit.Arv Z h' t kb .byte N (bs.map Value.int) (.int 0)
/-- **new String(chars) AT A CALL, FOR THE WRITER**: a char[] of n known ints, each 0 to 255 -/
theorem backV {p : Program} {l : Launch} {e : Env} {R : Room} {s : State} {args : Array Value} {below : List Frame} {len W : Nat} {Z : State} {a0 : Array Value} {h : Heap} (hZ : Z.Warmed39 s.vm) (hw : ∀ d ∈ words, d.before a0 Z = true) {kI : Nat} (wi : (Jvm.Cond.instantiable ST kI).before a0 Z = true)
    {x b : Addr} {kC : ClassId} {cs bs : List Int32} {d v0 c0 : Value} {z N : Int32} {n n0 : Nat} (hx0 : n0 ≤ x) (hh0 : n0 ≤ h.size) (E : RoadKit.Exa Z h x ST) (V : RoadKit.Fld Z h x ST "value" "[B" v0) (C : RoadKit.Fld Z h x ST "coder" "B" c0) (K : RoadKit.Arv Z h b kC .char N (cs.map Value.int) d) (S : RoadKit.Sta Z h ST "COMPACT_STRINGS" "Z" (.int z)) (hz : ¬ z = 0)
    (hn : cs.length = n) (hN : N = Int32.ofNat n) (l0 : 0 < n) (l2 : n ≤ 4000) (hp : ∀ c ∈ cs, ¬ c < 0 ∧ ¬ (255 : Int32) < c) (hb : bs = cs.map (fun c => c.toInt8.toInt32)) (hfr : 4 ≤ R.frames) (hlo : W + 65 ≤ R.locals) :
    Back l R p e below s args (⟨"java/lang/String", "<init>", "([C)V"⟩ : MethodName) len W (fun P a => a = #[.ref x, .ref b] ∧ P.U.heap = h ∧ P.cells + 1 ≤ R.cells ∧ P.slots + n ≤ R.slots)
      (fun P _ v B => ∃ L, QV Z x N bs h n0 v B.U.heap L ∧ B.locs = P.locs ++ L ∧ B.cells = P.cells + 1 ∧ B.slots = P.slots + n) := by
  subst hn hN hb
  refine Back.mono (backArv hZ hw wi E V C K S hz (n32 (by omega)) l0 (by omega) (fun c hc => (hp c hc).2) hfr hlo) (fun P a hp => hp) (fun P a v B hp hq => ?_)
  obtain ⟨L, ⟨q1, q2, q3, q4, q5, q6, q7, ⟨kb, v1, v2⟩, q9⟩, hl, hc, hs⟩ := hq
  exact ⟨L, ⟨q1, fun y hy => by rw [q2 y hy]; exact hx0, q3, q5, q7, h.size, kb, hh0, Nat.le_refl _, Nat.ne_of_gt E.lt, q6, by rw [List.map_map]; exact v2⟩, hl, hc, hs⟩
end StrChars.Road
end Jvm.Pilot.@@N@@
namespace Jvm.Pilot.@@N@@
open Jvm Jvm.ClassFile Sem Op Lib Jvm.Free Jvm.Stand Jvm.LawKit Jvm.RoadKit Bundle Jvm.Pilot.@@N@@.Jvm.D
section Own
variable {p : Program} {l : Launch} {e : Env} {R : Room} {s : State} {m : MethodId} {args : Array Value} {below : List Frame} {meth : Method} {c : Code} {T : State} {locs : List Loc} {cells slots : Nat} {Z : State} {a0 : Array Value} {h h' : Heap} {n0 : Nat} {Q : Option Value → Heap → Prop} {kc ks : Nat} {Fn : Outcome → State → List Loc → Prop} {Ls : Array Slot} {St : List Value} {pc : Nat} {own nm : String} {bytes : ByteArray} {maxL : Nat} {ret : Option FieldType}
/-- the rest of a run: from S the method ends by returning; Q says what it returns and leaves; nothing below n0 is written -/
def OGo (p : Program) (e : Env) (below : List Frame) (Fn : Outcome → State → List Loc → Prop) (n0 : Nat) (Q : Option Value → Heap → Prop) (S : State) : Prop :=
  ∃ U o, Steps p.tables e below S U ∧ U.status = .running ∧ Ended U below o ∧ ∃ v L, o = .returned v ∧ (Q v U.heap ∧ Fr n0 L) ∧ Fn o U L
/-- the end's frame: as FrameEnd has it; or the wide one, where String constants may have been interned -/
def OFin (s : State) (kc ks : Nat) (o : Outcome) (U : State) (L : List Loc) : Prop := FrameEnd s o U L kc ks
def OFinW (s : State) (kc ks : Nat) (o : Outcome) (U : State) (L : List Loc) : Prop := Jvm.ReturnedEndW s o U L kc ks
theorem OGo.st {A B : State} (k : ∀ t, Steps p.tables e below A t → Steps p.tables e below B t) (g : OGo p e below Fn n0 Q A) : OGo p e below Fn n0 Q B := by
  obtain ⟨U, o, h1, r⟩ := g
  exact ⟨U, o, k U h1, r⟩
theorem OGo.imp {A : State} {Q' : Option Value → Heap → Prop} (k : ∀ v h, Q' v h → Q v h) (g : OGo p e below Fn n0 Q' A) : OGo p e below Fn n0 Q A := by
  obtain ⟨U, o, h1, h2, h3, v, L, h4, ⟨h5, h6⟩, h7⟩ := g
  exact ⟨U, o, h1, h2, h3, v, L, h4, ⟨k _ _ h5, h6⟩, h7⟩
/-- what a walk knows of the method in which it stands -/
def OCx (p : Program) (s : State) (m : MethodId) (meth : Method) (c : Code) (Z : State) (own nm : String) (bytes : ByteArray) (maxL : Nat) (ret : Option FieldType) : Prop :=
  p.tables.exec = Jvm.exec ∧ Z.Warmed39 s.vm ∧ c.code = bytes ∧ c.maxLocals = maxL ∧ s.vm.findClass own = some m.cls ∧ meth.name = nm ∧ meth.sig.returnType = ret ∧ meth.locks = false
theorem OCx.hx (K : OCx p s m meth c Z own nm bytes maxL ret) : p.tables.exec = Jvm.exec := K.1
theorem OCx.hZ (K : OCx p s m meth c Z own nm bytes maxL ret) : Z.Warmed39 s.vm := K.2.1
theorem OCx.hby (K : OCx p s m meth c Z own nm bytes maxL ret) : c.code = bytes := K.2.2.1
theorem OCx.hml (K : OCx p s m meth c Z own nm bytes maxL ret) : c.maxLocals = maxL := K.2.2.2.1
theorem OCx.hown (K : OCx p s m meth c Z own nm bytes maxL ret) : s.vm.findClass own = some m.cls := K.2.2.2.2.1
theorem OCx.hnm (K : OCx p s m meth c Z own nm bytes maxL ret) : meth.name = nm := K.2.2.2.2.2.1
theorem OCx.hret (K : OCx p s m meth c Z own nm bytes maxL ret) : meth.sig.returnType = ret := K.2.2.2.2.2.2.1
theorem OCx.hlk (K : OCx p s m meth c Z own nm bytes maxL ret) : meth.locks = false := K.2.2.2.2.2.2.2
/-- a body's contract: called with these arguments at this heap it returns, and Q -/
def OCon (l : Launch) (Z : State) (n0 : Nat) (y : MethodName) (bytes : ByteArray) (maxL : Nat) (ret : Option FieldType) (rm : Room) (as : Array Value) (h0 : Heap) (Q : Option Value → Heap → Prop) : Prop :=
  ∀ ws, MetFree l y (head1 (Jvm.Cond.code y bytes maxL ret :: ws) rm) (fun a U => a = as ∧ Z.Warmed39 U.vm ∧ U.heap = h0) (fun _ _ _ _ _ => True) (fun _ U o U' => ∃ v L, o = .returned v ∧ (Q v U'.heap ∧ Fr n0 L) ∧ FrameEnd U o U' L rm.cells rm.slots)
theorem OCon.of {y : MethodName} {rm : Room} {as : Array Value} {h0 : Heap} {Ls : Array Slot} (hpl : plainFor y = true) (ho : y.cls = own) (hn : y.name = nm) (hen : ∀ m, entryFrame m as maxL = mkF m 0 Ls [])
    (H : ∀ (p : Program) (e : Env) (s : State) (m : MethodId) (below : List Frame) (meth : Method) (c : Code) (T : State), Stand p l e rm s m as below meth c T [] 0 0 → OCx p s m meth c Z own nm bytes maxL ret → T.heap = h0 → OGo p e below (OFin s rm.cells rm.slots) n0 Q (T.setTop (mkF m 0 Ls []))) : OCon l Z n0 y bytes maxL ret rm as h0 Q := by
  intro ws
  refine MetFree.of_bodySF hpl hisR ?_
  intro p e s m args below meth c s₁ Bd hml0 hP hK
  obtain ⟨rfl, hZ, hh⟩ := hP
  subst ho hn
  obtain ⟨U, o, h1, r⟩ := H p e s m below meth c s₁ (Stand.of_body Bd) ⟨Bd.exec, hZ, Bd.bytes, hml0, findClass_of_methodNamed Bd.named, (name_of_methodNamed Bd.named Bd.method).1, Bd.returns, Bd.notSynchronized⟩ (by rw [← hh, Bd.state]; rfl)
  exact ⟨U, o, castTop (hen m) h1, r⟩
theorem OCon.imp {y : MethodName} {rm : Room} {as : Array Value} {h0 : Heap} {Q' : Option Value → Heap → Prop} (g : OCon l Z n0 y bytes maxL ret rm as h0 Q) (k : ∀ v h, Q v h → Q' v h) : OCon l Z n0 y bytes maxL ret rm as h0 Q' := by
  intro ws p e ha hc hk s m args below hf happ hP hK
  obtain ⟨n, o, h1, h2, h3, v, L, h4, ⟨h5, h6⟩, h7⟩ := g ws p e ha hc hk s m args below hf happ hP hK
  exact ⟨n, o, h1, h2, h3, v, L, h4, ⟨k _ _ h5, h6⟩, h7⟩

theorem o_iload (X : Stand p l e R s m args below meth c T locs cells slots) (K : OCx p s m meth c Z own nm bytes maxL ret) {k : Nat} {v : Int32} (hd : decode bytes pc = .ok (.iload k, 2)) (pc' : Nat) (hp : pc + 2 = pc') (hl : Ls[k]? = some (.val (.int v))) (hr : OGo p e below Fn n0 Q (T.setTop (mkF m pc' Ls (.int v :: St)))) : OGo p e below Fn n0 Q (T.setTop (mkF m pc Ls St)) := by
  subst hp
  exact OGo.st (fun _ k => XS.iload X.here K.hx rfl (hb K.hby hd) hl k) hr
theorem o_iloadN (X : Stand p l e R s m args below meth c T locs cells slots) (K : OCx p s m meth c Z own nm bytes maxL ret) {k : Fin 4} {v : Int32} (hd : decode bytes pc = .ok (.iload_n k, 1)) (pc' : Nat) (hp : pc + 1 = pc') (hl : Ls[k.val]? = some (.val (.int v))) (hr : OGo p e below Fn n0 Q (T.setTop (mkF m pc' Ls (.int v :: St)))) : OGo p e below Fn n0 Q (T.setTop (mkF m pc Ls St)) := by
  subst hp
  exact OGo.st (fun _ k => XS.iloadN X.here K.hx rfl (hb K.hby hd) hl k) hr
theorem o_lload (X : Stand p l e R s m args below meth c T locs cells slots) (K : OCx p s m meth c Z own nm bytes maxL ret) {k : Nat} {v : Int64} (hd : decode bytes pc = .ok (.lload k, 2)) (pc' : Nat) (hp : pc + 2 = pc') (hl : Ls[k]? = some (.val (.long v))) (hr : OGo p e below Fn n0 Q (T.setTop (mkF m pc' Ls (.long v :: St)))) : OGo p e below Fn n0 Q (T.setTop (mkF m pc Ls St)) := by
  subst hp
  exact OGo.st (fun _ k => XS.lload X.here K.hx rfl (hb K.hby hd) hl k) hr
theorem o_lloadN (X : Stand p l e R s m args below meth c T locs cells slots) (K : OCx p s m meth c Z own nm bytes maxL ret) {k : Fin 4} {v : Int64} (hd : decode bytes pc = .ok (.lload_n k, 1)) (pc' : Nat) (hp : pc + 1 = pc') (hl : Ls[k.val]? = some (.val (.long v))) (hr : OGo p e below Fn n0 Q (T.setTop (mkF m pc' Ls (.long v :: St)))) : OGo p e below Fn n0 Q (T.setTop (mkF m pc Ls St)) := by
  subst hp
  exact OGo.st (fun _ k => XS.lloadN X.here K.hx rfl (hb K.hby hd) hl k) hr
theorem o_aload (X : Stand p l e R s m args below meth c T locs cells slots) (K : OCx p s m meth c Z own nm bytes maxL ret) {k : Nat} {v : Value} (hd : decode bytes pc = .ok (.aload k, 2)) (pc' : Nat) (hp : pc + 2 = pc') (hl : Ls[k]? = some (.val v)) (hv : v.isRef = true) (hr : OGo p e below Fn n0 Q (T.setTop (mkF m pc' Ls (v :: St)))) : OGo p e below Fn n0 Q (T.setTop (mkF m pc Ls St)) := by
  subst hp
  exact OGo.st (fun _ k => XS.aload X.here K.hx rfl (hb K.hby hd) hl hv k) hr
theorem o_aloadN (X : Stand p l e R s m args below meth c T locs cells slots) (K : OCx p s m meth c Z own nm bytes maxL ret) {k : Fin 4} {v : Value} (hd : decode bytes pc = .ok (.aload_n k, 1)) (pc' : Nat) (hp : pc + 1 = pc') (hl : Ls[k.val]? = some (.val v)) (hv : v.isRef = true) (hr : OGo p e below Fn n0 Q (T.setTop (mkF m pc' Ls (v :: St)))) : OGo p e below Fn n0 Q (T.setTop (mkF m pc Ls St)) := by
  subst hp
  exact OGo.st (fun _ k => XS.aloadN X.here K.hx rfl (hb K.hby hd) hl hv k) hr
theorem o_istore (X : Stand p l e R s m args below meth c T locs cells slots) (K : OCx p s m meth c Z own nm bytes maxL ret) {k : Nat} {x x' : Int32} (hd : decode bytes pc = .ok (.istore k, 2)) (pc' : Nat) (hp : pc + 2 = pc') (Ls' : Array Slot) (hv : x = x') (hl : storeLocals Ls k (.int x') = some Ls') (hr : OGo p e below Fn n0 Q (T.setTop (mkF m pc' Ls' St))) : OGo p e below Fn n0 Q (T.setTop (mkF m pc Ls (.int x :: St))) := by
  subst hp
  exact OGo.st (fun _ k => XS.istore X.here K.hx rfl (hb K.hby hd) rfl (hv ▸ hl) k) hr
theorem o_istoreN (X : Stand p l e R s m args below meth c T locs cells slots) (K : OCx p s m meth c Z own nm bytes maxL ret) {k : Fin 4} {x x' : Int32} (hd : decode bytes pc = .ok (.istore_n k, 1)) (pc' : Nat) (hp : pc + 1 = pc') (Ls' : Array Slot) (hv : x = x') (hl : storeLocals Ls k.val (.int x') = some Ls') (hr : OGo p e below Fn n0 Q (T.setTop (mkF m pc' Ls' St))) : OGo p e below Fn n0 Q (T.setTop (mkF m pc Ls (.int x :: St))) := by
  subst hp
  exact OGo.st (fun _ k => XS.istoreN X.here K.hx rfl (hb K.hby hd) rfl (hv ▸ hl) k) hr
theorem o_lstore (X : Stand p l e R s m args below meth c T locs cells slots) (K : OCx p s m meth c Z own nm bytes maxL ret) {k : Nat} {x x' : Int64} (hd : decode bytes pc = .ok (.lstore k, 2)) (pc' : Nat) (hp : pc + 2 = pc') (Ls' : Array Slot) (hv : x = x') (hl : storeLocals Ls k (.long x') = some Ls') (hr : OGo p e below Fn n0 Q (T.setTop (mkF m pc' Ls' St))) : OGo p e below Fn n0 Q (T.setTop (mkF m pc Ls (.long x :: St))) := by
  subst hp
  exact OGo.st (fun _ k => XS.lstore X.here K.hx rfl (hb K.hby hd) rfl (hv ▸ hl) k) hr
theorem o_lstoreN (X : Stand p l e R s m args below meth c T locs cells slots) (K : OCx p s m meth c Z own nm bytes maxL ret) {k : Fin 4} {x x' : Int64} (hd : decode bytes pc = .ok (.lstore_n k, 1)) (pc' : Nat) (hp : pc + 1 = pc') (Ls' : Array Slot) (hv : x = x') (hl : storeLocals Ls k.val (.long x') = some Ls') (hr : OGo p e below Fn n0 Q (T.setTop (mkF m pc' Ls' St))) : OGo p e below Fn n0 Q (T.setTop (mkF m pc Ls (.long x :: St))) := by
  subst hp
  exact OGo.st (fun _ k => XS.lstoreN X.here K.hx rfl (hb K.hby hd) rfl (hv ▸ hl) k) hr
theorem o_astore (X : Stand p l e R s m args below meth c T locs cells slots) (K : OCx p s m meth c Z own nm bytes maxL ret) {k : Nat} {x : Value} (hd : decode bytes pc = .ok (.astore k, 2)) (pc' : Nat) (hp : pc + 2 = pc') (Ls' : Array Slot) (hv : x.isRef = true) (hl : storeLocals Ls k x = some Ls') (hr : OGo p e below Fn n0 Q (T.setTop (mkF m pc' Ls' St))) : OGo p e below Fn n0 Q (T.setTop (mkF m pc Ls (x :: St))) := by
  subst hp
  exact OGo.st (fun _ k => XS.astore X.here K.hx rfl (hb K.hby hd) rfl hv hl k) hr
theorem o_astoreN (X : Stand p l e R s m args below meth c T locs cells slots) (K : OCx p s m meth c Z own nm bytes maxL ret) {k : Fin 4} {x : Value} (hd : decode bytes pc = .ok (.astore_n k, 1)) (pc' : Nat) (hp : pc + 1 = pc') (Ls' : Array Slot) (hv : x.isRef = true) (hl : storeLocals Ls k.val x = some Ls') (hr : OGo p e below Fn n0 Q (T.setTop (mkF m pc' Ls' St))) : OGo p e below Fn n0 Q (T.setTop (mkF m pc Ls (x :: St))) := by
  subst hp
  exact OGo.st (fun _ k => XS.astoreN X.here K.hx rfl (hb K.hby hd) rfl hv hl k) hr
theorem o_iinc (X : Stand p l e R s m args below meth c T locs cells slots) (K : OCx p s m meth c Z own nm bytes maxL ret) {k : Nat} {cst : Int} {x x' : Int32} (hd : decode bytes pc = .ok (.iinc k cst, 3)) (pc' : Nat) (hp : pc + 3 = pc') (Ls' : Array Slot) (hl : Ls[k]? = some (.val (.int x))) (hv : x + Int32.ofInt cst = x') (hl' : storeLocals Ls k (.int x') = some Ls') (hr : OGo p e below Fn n0 Q (T.setTop (mkF m pc' Ls' St))) : OGo p e below Fn n0 Q (T.setTop (mkF m pc Ls St)) := by
  subst hp
  exact OGo.st (fun _ k => XS.iinc X.here K.hx rfl (hb K.hby hd) hl (hv ▸ hl') k) hr
theorem o_iconst (X : Stand p l e R s m args below meth c T locs cells slots) (K : OCx p s m meth c Z own nm bytes maxL ret) {i : Int} (v : Int32) (hd : decode bytes pc = .ok (.iconst i, 1)) (pc' : Nat) (hp : pc + 1 = pc') (hv : Int32.ofInt i = v) (hr : OGo p e below Fn n0 Q (T.setTop (mkF m pc' Ls (.int v :: St)))) : OGo p e below Fn n0 Q (T.setTop (mkF m pc Ls St)) := by
  subst hp
  exact OGo.st (fun _ k => XS.iconst X.here K.hx rfl (hb K.hby hd) (by rw [hv]; exact k)) hr
theorem o_bipush (X : Stand p l e R s m args below meth c T locs cells slots) (K : OCx p s m meth c Z own nm bytes maxL ret) {i : Int} (v : Int32) (hd : decode bytes pc = .ok (.bipush i, 2)) (pc' : Nat) (hp : pc + 2 = pc') (hv : (Int8.ofInt i).toInt32 = v) (hr : OGo p e below Fn n0 Q (T.setTop (mkF m pc' Ls (.int v :: St)))) : OGo p e below Fn n0 Q (T.setTop (mkF m pc Ls St)) := by
  subst hp
  exact OGo.st (fun _ k => XS.bipush X.here K.hx rfl (hb K.hby hd) (by rw [hv]; exact k)) hr
theorem o_sipush (X : Stand p l e R s m args below meth c T locs cells slots) (K : OCx p s m meth c Z own nm bytes maxL ret) {i : Int} (v : Int32) (hd : decode bytes pc = .ok (.sipush i, 3)) (pc' : Nat) (hp : pc + 3 = pc') (hv : (Int16.ofInt i).toInt32 = v) (hr : OGo p e below Fn n0 Q (T.setTop (mkF m pc' Ls (.int v :: St)))) : OGo p e below Fn n0 Q (T.setTop (mkF m pc Ls St)) := by
  subst hp
  exact OGo.st (fun _ k => XS.sipush X.here K.hx rfl (hb K.hby hd) (by rw [hv]; exact k)) hr
theorem o_lconst (X : Stand p l e R s m args below meth c T locs cells slots) (K : OCx p s m meth c Z own nm bytes maxL ret) {i : Fin 2} (v : Int64) (hd : decode bytes pc = .ok (.lconst i, 1)) (pc' : Nat) (hp : pc + 1 = pc') (hv : Int64.ofNat i = v) (hr : OGo p e below Fn n0 Q (T.setTop (mkF m pc' Ls (.long v :: St)))) : OGo p e below Fn n0 Q (T.setTop (mkF m pc Ls St)) := by
  subst hp
  exact OGo.st (fun _ k => XS.lconst X.here K.hx rfl (hb K.hby hd) (by rw [hv]; exact k)) hr
theorem o_aconst_null (X : Stand p l e R s m args below meth c T locs cells slots) (K : OCx p s m meth c Z own nm bytes maxL ret) (hd : decode bytes pc = .ok (.aconst_null, 1)) (pc' : Nat) (hp : pc + 1 = pc') (hr : OGo p e below Fn n0 Q (T.setTop (mkF m pc' Ls (.null :: St)))) : OGo p e below Fn n0 Q (T.setTop (mkF m pc Ls St)) := by
  subst hp
  exact OGo.st (fun _ k => XS.aconstNull X.here K.hx rfl (hb K.hby hd) k) hr
theorem o_ldcI (X : Stand p l e R s m args below meth c T locs cells slots) (K : OCx p s m meth c Z own nm bytes maxL ret) {index : Nat} {v : Int32} (hd : decode bytes pc = .ok (.ldc index, 2)) (pc' : Nat) (hp : pc + 2 = pc') (w : (Jvm.Cond.constant own index v).before a0 Z = true) (hr : OGo p e below Fn n0 Q (T.setTop (mkF m pc' Ls (.int v :: St)))) : OGo p e below Fn n0 Q (T.setTop (mkF m pc Ls St)) := by
  subst hp
  exact OGo.st (fun _ k => Stand.ldcI X K.hx K.hown (mvT K.hZ w) rfl (hb K.hby hd) k) hr
theorem o_ldcWI (X : Stand p l e R s m args below meth c T locs cells slots) (K : OCx p s m meth c Z own nm bytes maxL ret) {index : Nat} {v : Int32} (hd : decode bytes pc = .ok (.ldc_w index, 3)) (pc' : Nat) (hp : pc + 3 = pc') (w : (Jvm.Cond.constant own index v).before a0 Z = true) (hr : OGo p e below Fn n0 Q (T.setTop (mkF m pc' Ls (.int v :: St)))) : OGo p e below Fn n0 Q (T.setTop (mkF m pc Ls St)) := by
  subst hp
  exact OGo.st (fun _ k => Stand.ldcWI X K.hx K.hown (mvT K.hZ w) rfl (hb K.hby hd) k) hr
theorem o_ldc2J (X : Stand p l e R s m args below meth c T locs cells slots) (K : OCx p s m meth c Z own nm bytes maxL ret) {index : Nat} {v : Int64} (hd : decode bytes pc = .ok (.ldc2_w index, 3)) (pc' : Nat) (hp : pc + 3 = pc') (w : (Jvm.Cond.constantLong own index v).before a0 Z = true) (hr : OGo p e below Fn n0 Q (T.setTop (mkF m pc' Ls (.long v :: St)))) : OGo p e below Fn n0 Q (T.setTop (mkF m pc Ls St)) := by
  subst hp
  exact OGo.st (fun _ k => Stand.ldc2J X K.hx K.hown (mvT K.hZ w) rfl (hb K.hby hd) k) hr
theorem o_iadd (X : Stand p l e R s m args below meth c T locs cells slots) (K : OCx p s m meth c Z own nm bytes maxL ret) {x y : Int32} (hd : decode bytes pc = .ok (.iadd, 1)) (pc' : Nat) (hp : pc + 1 = pc') (hr : OGo p e below Fn n0 Q (T.setTop (mkF m pc' Ls (.int (x + y) :: St)))) : OGo p e below Fn n0 Q (T.setTop (mkF m pc Ls (.int y :: .int x :: St))) := by
  subst hp
  exact OGo.st (fun _ k => XS.iadd X.here K.hx rfl (hb K.hby hd) rfl k) hr
theorem o_isub (X : Stand p l e R s m args below meth c T locs cells slots) (K : OCx p s m meth c Z own nm bytes maxL ret) {x y : Int32} (hd : decode bytes pc = .ok (.isub, 1)) (pc' : Nat) (hp : pc + 1 = pc') (hr : OGo p e below Fn n0 Q (T.setTop (mkF m pc' Ls (.int (x - y) :: St)))) : OGo p e below Fn n0 Q (T.setTop (mkF m pc Ls (.int y :: .int x :: St))) := by
  subst hp
  exact OGo.st (fun _ k => XS.isub X.here K.hx rfl (hb K.hby hd) rfl k) hr
theorem o_imul (X : Stand p l e R s m args below meth c T locs cells slots) (K : OCx p s m meth c Z own nm bytes maxL ret) {x y : Int32} (hd : decode bytes pc = .ok (.imul, 1)) (pc' : Nat) (hp : pc + 1 = pc') (hr : OGo p e below Fn n0 Q (T.setTop (mkF m pc' Ls (.int (x * y) :: St)))) : OGo p e below Fn n0 Q (T.setTop (mkF m pc Ls (.int y :: .int x :: St))) := by
  subst hp
  exact OGo.st (fun _ k => XS.imul X.here K.hx rfl (hb K.hby hd) rfl k) hr
theorem o_iand (X : Stand p l e R s m args below meth c T locs cells slots) (K : OCx p s m meth c Z own nm bytes maxL ret) {x y : Int32} (hd : decode bytes pc = .ok (.iand, 1)) (pc' : Nat) (hp : pc + 1 = pc') (hr : OGo p e below Fn n0 Q (T.setTop (mkF m pc' Ls (.int (x &&& y) :: St)))) : OGo p e below Fn n0 Q (T.setTop (mkF m pc Ls (.int y :: .int x :: St))) := by
  subst hp
  exact OGo.st (fun _ k => XS.iand X.here K.hx rfl (hb K.hby hd) rfl k) hr
theorem o_ior (X : Stand p l e R s m args below meth c T locs cells slots) (K : OCx p s m meth c Z own nm bytes maxL ret) {x y : Int32} (hd : decode bytes pc = .ok (.ior, 1)) (pc' : Nat) (hp : pc + 1 = pc') (hr : OGo p e below Fn n0 Q (T.setTop (mkF m pc' Ls (.int (x ||| y) :: St)))) : OGo p e below Fn n0 Q (T.setTop (mkF m pc Ls (.int y :: .int x :: St))) := by
  subst hp
  exact OGo.st (fun _ k => XS.ior X.here K.hx rfl (hb K.hby hd) rfl k) hr
theorem o_ixor (X : Stand p l e R s m args below meth c T locs cells slots) (K : OCx p s m meth c Z own nm bytes maxL ret) {x y : Int32} (hd : decode bytes pc = .ok (.ixor, 1)) (pc' : Nat) (hp : pc + 1 = pc') (hr : OGo p e below Fn n0 Q (T.setTop (mkF m pc' Ls (.int (x ^^^ y) :: St)))) : OGo p e below Fn n0 Q (T.setTop (mkF m pc Ls (.int y :: .int x :: St))) := by
  subst hp
  exact OGo.st (fun _ k => XS.ixor X.here K.hx rfl (hb K.hby hd) rfl k) hr
theorem o_ishl (X : Stand p l e R s m args below meth c T locs cells slots) (K : OCx p s m meth c Z own nm bytes maxL ret) {x y : Int32} (hd : decode bytes pc = .ok (.ishl, 1)) (pc' : Nat) (hp : pc + 1 = pc') (hr : OGo p e below Fn n0 Q (T.setTop (mkF m pc' Ls (.int (x <<< (y &&& 31)) :: St)))) : OGo p e below Fn n0 Q (T.setTop (mkF m pc Ls (.int y :: .int x :: St))) := by
  subst hp
  exact OGo.st (fun _ k => XS.ishl X.here K.hx rfl (hb K.hby hd) rfl k) hr
theorem o_ishr (X : Stand p l e R s m args below meth c T locs cells slots) (K : OCx p s m meth c Z own nm bytes maxL ret) {x y : Int32} (hd : decode bytes pc = .ok (.ishr, 1)) (pc' : Nat) (hp : pc + 1 = pc') (hr : OGo p e below Fn n0 Q (T.setTop (mkF m pc' Ls (.int (x >>> (y &&& 31)) :: St)))) : OGo p e below Fn n0 Q (T.setTop (mkF m pc Ls (.int y :: .int x :: St))) := by
  subst hp
  exact OGo.st (fun _ k => XS.ishr X.here K.hx rfl (hb K.hby hd) rfl k) hr
theorem o_iushr (X : Stand p l e R s m args below meth c T locs cells slots) (K : OCx p s m meth c Z own nm bytes maxL ret) {x y : Int32} (hd : decode bytes pc = .ok (.iushr, 1)) (pc' : Nat) (hp : pc + 1 = pc') (hr : OGo p e below Fn n0 Q (T.setTop (mkF m pc' Ls (.int ((x.toUInt32 >>> (y &&& 31).toUInt32).toInt32) :: St)))) : OGo p e below Fn n0 Q (T.setTop (mkF m pc Ls (.int y :: .int x :: St))) := by
  subst hp
  exact OGo.st (fun _ k => XS.iushr X.here K.hx rfl (hb K.hby hd) rfl k) hr
theorem o_ladd (X : Stand p l e R s m args below meth c T locs cells slots) (K : OCx p s m meth c Z own nm bytes maxL ret) {x y : Int64} (hd : decode bytes pc = .ok (.ladd, 1)) (pc' : Nat) (hp : pc + 1 = pc') (hr : OGo p e below Fn n0 Q (T.setTop (mkF m pc' Ls (.long (x + y) :: St)))) : OGo p e below Fn n0 Q (T.setTop (mkF m pc Ls (.long y :: .long x :: St))) := by
  subst hp
  exact OGo.st (fun _ k => XS.ladd X.here K.hx rfl (hb K.hby hd) rfl k) hr
theorem o_lsub (X : Stand p l e R s m args below meth c T locs cells slots) (K : OCx p s m meth c Z own nm bytes maxL ret) {x y : Int64} (hd : decode bytes pc = .ok (.lsub, 1)) (pc' : Nat) (hp : pc + 1 = pc') (hr : OGo p e below Fn n0 Q (T.setTop (mkF m pc' Ls (.long (x - y) :: St)))) : OGo p e below Fn n0 Q (T.setTop (mkF m pc Ls (.long y :: .long x :: St))) := by
  subst hp
  exact OGo.st (fun _ k => XS.lsub X.here K.hx rfl (hb K.hby hd) rfl k) hr
theorem o_lmul (X : Stand p l e R s m args below meth c T locs cells slots) (K : OCx p s m meth c Z own nm bytes maxL ret) {x y : Int64} (hd : decode bytes pc = .ok (.lmul, 1)) (pc' : Nat) (hp : pc + 1 = pc') (hr : OGo p e below Fn n0 Q (T.setTop (mkF m pc' Ls (.long (x * y) :: St)))) : OGo p e below Fn n0 Q (T.setTop (mkF m pc Ls (.long y :: .long x :: St))) := by
  subst hp
  exact OGo.st (fun _ k => XS.lmul X.here K.hx rfl (hb K.hby hd) rfl k) hr
theorem o_land (X : Stand p l e R s m args below meth c T locs cells slots) (K : OCx p s m meth c Z own nm bytes maxL ret) {x y : Int64} (hd : decode bytes pc = .ok (.land, 1)) (pc' : Nat) (hp : pc + 1 = pc') (hr : OGo p e below Fn n0 Q (T.setTop (mkF m pc' Ls (.long (x &&& y) :: St)))) : OGo p e below Fn n0 Q (T.setTop (mkF m pc Ls (.long y :: .long x :: St))) := by
  subst hp
  exact OGo.st (fun _ k => XS.land X.here K.hx rfl (hb K.hby hd) rfl k) hr
theorem o_lor (X : Stand p l e R s m args below meth c T locs cells slots) (K : OCx p s m meth c Z own nm bytes maxL ret) {x y : Int64} (hd : decode bytes pc = .ok (.lor, 1)) (pc' : Nat) (hp : pc + 1 = pc') (hr : OGo p e below Fn n0 Q (T.setTop (mkF m pc' Ls (.long (x ||| y) :: St)))) : OGo p e below Fn n0 Q (T.setTop (mkF m pc Ls (.long y :: .long x :: St))) := by
  subst hp
  exact OGo.st (fun _ k => XS.lor X.here K.hx rfl (hb K.hby hd) rfl k) hr
theorem o_lxor (X : Stand p l e R s m args below meth c T locs cells slots) (K : OCx p s m meth c Z own nm bytes maxL ret) {x y : Int64} (hd : decode bytes pc = .ok (.lxor, 1)) (pc' : Nat) (hp : pc + 1 = pc') (hr : OGo p e below Fn n0 Q (T.setTop (mkF m pc' Ls (.long (x ^^^ y) :: St)))) : OGo p e below Fn n0 Q (T.setTop (mkF m pc Ls (.long y :: .long x :: St))) := by
  subst hp
  exact OGo.st (fun _ k => XS.lxor X.here K.hx rfl (hb K.hby hd) rfl k) hr
theorem o_lshl (X : Stand p l e R s m args below meth c T locs cells slots) (K : OCx p s m meth c Z own nm bytes maxL ret) {x : Int64} {y : Int32} (hd : decode bytes pc = .ok (.lshl, 1)) (pc' : Nat) (hp : pc + 1 = pc') (hr : OGo p e below Fn n0 Q (T.setTop (mkF m pc' Ls (.long (x <<< (y &&& 0x3f).toInt64) :: St)))) : OGo p e below Fn n0 Q (T.setTop (mkF m pc Ls (.int y :: .long x :: St))) := by
  subst hp
  exact OGo.st (fun _ k => XS.lshl X.here K.hx rfl (hb K.hby hd) rfl k) hr
theorem o_lshr (X : Stand p l e R s m args below meth c T locs cells slots) (K : OCx p s m meth c Z own nm bytes maxL ret) {x : Int64} {y : Int32} (hd : decode bytes pc = .ok (.lshr, 1)) (pc' : Nat) (hp : pc + 1 = pc') (hr : OGo p e below Fn n0 Q (T.setTop (mkF m pc' Ls (.long (x >>> (y &&& 0x3f).toInt64) :: St)))) : OGo p e below Fn n0 Q (T.setTop (mkF m pc Ls (.int y :: .long x :: St))) := by
  subst hp
  exact OGo.st (fun _ k => XS.lshr X.here K.hx rfl (hb K.hby hd) rfl k) hr
theorem o_lushr (X : Stand p l e R s m args below meth c T locs cells slots) (K : OCx p s m meth c Z own nm bytes maxL ret) {x : Int64} {y : Int32} (hd : decode bytes pc = .ok (.lushr, 1)) (pc' : Nat) (hp : pc + 1 = pc') (hr : OGo p e below Fn n0 Q (T.setTop (mkF m pc' Ls (.long ((x.toUInt64 >>> (y &&& 0x3f).toInt64.toUInt64).toInt64) :: St)))) : OGo p e below Fn n0 Q (T.setTop (mkF m pc Ls (.int y :: .long x :: St))) := by
  subst hp
  exact OGo.st (fun _ k => XS.lushr X.here K.hx rfl (hb K.hby hd) rfl k) hr
theorem o_ldiv (X : Stand p l e R s m args below meth c T locs cells slots) (K : OCx p s m meth c Z own nm bytes maxL ret) {x y : Int64} (hd : decode bytes pc = .ok (.ldiv, 1)) (pc' : Nat) (hp : pc + 1 = pc') (hy : y ≠ 0) (hr : OGo p e below Fn n0 Q (T.setTop (mkF m pc' Ls (.long (x / y) :: St)))) : OGo p e below Fn n0 Q (T.setTop (mkF m pc Ls (.long y :: .long x :: St))) := by
  subst hp
  exact OGo.st (fun _ k => XS.ldiv X.here K.hx rfl (hb K.hby hd) rfl hy k) hr
theorem o_idiv (X : Stand p l e R s m args below meth c T locs cells slots) (K : OCx p s m meth c Z own nm bytes maxL ret) {x y : Int32} (hd : decode bytes pc = .ok (.idiv, 1)) (pc' : Nat) (hp : pc + 1 = pc') (hy : y ≠ 0) (hr : OGo p e below Fn n0 Q (T.setTop (mkF m pc' Ls (.int (x / y) :: St)))) : OGo p e below Fn n0 Q (T.setTop (mkF m pc Ls (.int y :: .int x :: St))) := by
  subst hp
  exact OGo.st (fun _ k => XS.idiv X.here K.hx rfl (hb K.hby hd) rfl hy k) hr
theorem o_irem (X : Stand p l e R s m args below meth c T locs cells slots) (K : OCx p s m meth c Z own nm bytes maxL ret) {x y : Int32} (hd : decode bytes pc = .ok (.irem, 1)) (pc' : Nat) (hp : pc + 1 = pc') (hy : y ≠ 0) (hr : OGo p e below Fn n0 Q (T.setTop (mkF m pc' Ls (.int (x % y) :: St)))) : OGo p e below Fn n0 Q (T.setTop (mkF m pc Ls (.int y :: .int x :: St))) := by
  subst hp
  exact OGo.st (fun _ k => iremM X K.hx rfl (hb K.hby hd) rfl hy k) hr
theorem o_ineg (X : Stand p l e R s m args below meth c T locs cells slots) (K : OCx p s m meth c Z own nm bytes maxL ret) {x : Int32} (hd : decode bytes pc = .ok (.ineg, 1)) (pc' : Nat) (hp : pc + 1 = pc') (hr : OGo p e below Fn n0 Q (T.setTop (mkF m pc' Ls (.int (-x) :: St)))) : OGo p e below Fn n0 Q (T.setTop (mkF m pc Ls (.int x :: St))) := by
  subst hp
  exact OGo.st (fun _ k => XS.ineg X.here K.hx rfl (hb K.hby hd) rfl k) hr
theorem o_lneg (X : Stand p l e R s m args below meth c T locs cells slots) (K : OCx p s m meth c Z own nm bytes maxL ret) {x : Int64} (hd : decode bytes pc = .ok (.lneg, 1)) (pc' : Nat) (hp : pc + 1 = pc') (hr : OGo p e below Fn n0 Q (T.setTop (mkF m pc' Ls (.long (-x) :: St)))) : OGo p e below Fn n0 Q (T.setTop (mkF m pc Ls (.long x :: St))) := by
  subst hp
  exact OGo.st (fun _ k => XS.lneg X.here K.hx rfl (hb K.hby hd) rfl k) hr
theorem o_i2b (X : Stand p l e R s m args below meth c T locs cells slots) (K : OCx p s m meth c Z own nm bytes maxL ret) {x : Int32} (hd : decode bytes pc = .ok (.i2b, 1)) (pc' : Nat) (hp : pc + 1 = pc') (hr : OGo p e below Fn n0 Q (T.setTop (mkF m pc' Ls (.int (x.toInt8.toInt32) :: St)))) : OGo p e below Fn n0 Q (T.setTop (mkF m pc Ls (.int x :: St))) := by
  subst hp
  exact OGo.st (fun _ k => XS.i2b X.here K.hx rfl (hb K.hby hd) rfl k) hr
theorem o_i2c (X : Stand p l e R s m args below meth c T locs cells slots) (K : OCx p s m meth c Z own nm bytes maxL ret) {x : Int32} (hd : decode bytes pc = .ok (.i2c, 1)) (pc' : Nat) (hp : pc + 1 = pc') (hr : OGo p e below Fn n0 Q (T.setTop (mkF m pc' Ls (.int (x.toUInt32.toUInt16.toUInt32.toInt32) :: St)))) : OGo p e below Fn n0 Q (T.setTop (mkF m pc Ls (.int x :: St))) := by
  subst hp
  exact OGo.st (fun _ k => XS.i2c X.here K.hx rfl (hb K.hby hd) rfl k) hr
theorem o_i2s (X : Stand p l e R s m args below meth c T locs cells slots) (K : OCx p s m meth c Z own nm bytes maxL ret) {x : Int32} (hd : decode bytes pc = .ok (.i2s, 1)) (pc' : Nat) (hp : pc + 1 = pc') (hr : OGo p e below Fn n0 Q (T.setTop (mkF m pc' Ls (.int (x.toInt16.toInt32) :: St)))) : OGo p e below Fn n0 Q (T.setTop (mkF m pc Ls (.int x :: St))) := by
  subst hp
  exact OGo.st (fun _ k => XS.i2s X.here K.hx rfl (hb K.hby hd) rfl k) hr
theorem o_i2l (X : Stand p l e R s m args below meth c T locs cells slots) (K : OCx p s m meth c Z own nm bytes maxL ret) {x : Int32} (hd : decode bytes pc = .ok (.i2l, 1)) (pc' : Nat) (hp : pc + 1 = pc') (hr : OGo p e below Fn n0 Q (T.setTop (mkF m pc' Ls (.long (x.toInt64) :: St)))) : OGo p e below Fn n0 Q (T.setTop (mkF m pc Ls (.int x :: St))) := by
  subst hp
  exact OGo.st (fun _ k => XS.i2l X.here K.hx rfl (hb K.hby hd) rfl k) hr
theorem o_l2i (X : Stand p l e R s m args below meth c T locs cells slots) (K : OCx p s m meth c Z own nm bytes maxL ret) {x : Int64} (hd : decode bytes pc = .ok (.l2i, 1)) (pc' : Nat) (hp : pc + 1 = pc') (hr : OGo p e below Fn n0 Q (T.setTop (mkF m pc' Ls (.int (x.toInt32) :: St)))) : OGo p e below Fn n0 Q (T.setTop (mkF m pc Ls (.long x :: St))) := by
  subst hp
  exact OGo.st (fun _ k => XS.l2i X.here K.hx rfl (hb K.hby hd) rfl k) hr
theorem o_lcmp (X : Stand p l e R s m args below meth c T locs cells slots) (K : OCx p s m meth c Z own nm bytes maxL ret) {x y : Int64} (hd : decode bytes pc = .ok (.lcmp, 1)) (pc' : Nat) (hp : pc + 1 = pc') (hr : OGo p e below Fn n0 Q (T.setTop (mkF m pc' Ls (.int (lcmpW x y) :: St)))) : OGo p e below Fn n0 Q (T.setTop (mkF m pc Ls (.long y :: .long x :: St))) := by
  subst hp
  exact OGo.st (fun _ k => XS.lcmp X.here K.hx rfl (hb K.hby hd) rfl k) hr
theorem o_dup (X : Stand p l e R s m args below meth c T locs cells slots) (K : OCx p s m meth c Z own nm bytes maxL ret) {x : Value} (hd : decode bytes pc = .ok (.dup, 1)) (pc' : Nat) (hp : pc + 1 = pc') (hc : x.category = 1) (hr : OGo p e below Fn n0 Q (T.setTop (mkF m pc' Ls (x :: x :: St)))) : OGo p e below Fn n0 Q (T.setTop (mkF m pc Ls (x :: St))) := by
  subst hp
  exact OGo.st (fun _ k => XS.dup X.here K.hx rfl (hb K.hby hd) rfl hc k) hr
theorem o_pop (X : Stand p l e R s m args below meth c T locs cells slots) (K : OCx p s m meth c Z own nm bytes maxL ret) {x : Value} (hd : decode bytes pc = .ok (.pop, 1)) (pc' : Nat) (hp : pc + 1 = pc') (hc : x.category = 1) (hr : OGo p e below Fn n0 Q (T.setTop (mkF m pc' Ls St))) : OGo p e below Fn n0 Q (T.setTop (mkF m pc Ls (x :: St))) := by
  subst hp
  exact OGo.st (fun _ k => XS.pop X.here K.hx rfl (hb K.hby hd) rfl hc k) hr
theorem o_dupX1 (X : Stand p l e R s m args below meth c T locs cells slots) (K : OCx p s m meth c Z own nm bytes maxL ret) {x y : Value} (hd : decode bytes pc = .ok (.dup_x1, 1)) (pc' : Nat) (hp : pc + 1 = pc') (hc : x.category = 1) (hc' : y.category = 1) (hr : OGo p e below Fn n0 Q (T.setTop (mkF m pc' Ls (x :: y :: x :: St)))) : OGo p e below Fn n0 Q (T.setTop (mkF m pc Ls (x :: y :: St))) := by
  subst hp
  exact OGo.st (fun _ k => XS.dupX1 X.here K.hx rfl (hb K.hby hd) rfl hc hc' k) hr
theorem o_dup2 (X : Stand p l e R s m args below meth c T locs cells slots) (K : OCx p s m meth c Z own nm bytes maxL ret) {x y : Value} (hd : decode bytes pc = .ok (.dup2, 1)) (pc' : Nat) (hp : pc + 1 = pc') (hc : x.category = 1) (hc' : y.category = 1) (hr : OGo p e below Fn n0 Q (T.setTop (mkF m pc' Ls (x :: y :: x :: y :: St)))) : OGo p e below Fn n0 Q (T.setTop (mkF m pc Ls (x :: y :: St))) := by
  subst hp
  exact OGo.st (fun _ k => Jvm.Free.XT.dup2 X.here K.hx rfl (hb K.hby hd) rfl hc hc' k) hr
theorem o_dup2L (X : Stand p l e R s m args below meth c T locs cells slots) (K : OCx p s m meth c Z own nm bytes maxL ret) {x : Int64} (hd : decode bytes pc = .ok (.dup2, 1)) (pc' : Nat) (hp : pc + 1 = pc') (hr : OGo p e below Fn n0 Q (T.setTop (mkF m pc' Ls (.long x :: .long x :: St)))) : OGo p e below Fn n0 Q (T.setTop (mkF m pc Ls (.long x :: St))) := by
  subst hp
  exact OGo.st (fun _ k => Jvm.Free.XT.dup2L X.here K.hx rfl (hb K.hby hd) rfl k) hr
theorem o_goto (X : Stand p l e R s m args below meth c T locs cells slots) (K : OCx p s m meth c Z own nm bytes maxL ret) {o : Int} (hd : decode bytes pc = .ok (.goto o, 3)) (pc' : Nat) (ho : 0 ≤ (pc : Int) + o) (hp : ((pc : Int) + o).toNat = pc') (hr : OGo p e below Fn n0 Q (T.setTop (mkF m pc' Ls St))) : OGo p e below Fn n0 Q (T.setTop (mkF m pc Ls St)) :=
  OGo.st (fun _ k => XS.goto X.here K.hx rfl (pc0 := pc) rfl (hb K.hby hd) ho hp k) hr
theorem o_icmp_lt_t (X : Stand p l e R s m args below meth c T locs cells slots) (K : OCx p s m meth c Z own nm bytes maxL ret) {x y : Int32} {o : Int} (hd : decode bytes pc = .ok (.if_icmp .lt o, 3)) (pt : Nat) (ho : 0 ≤ (pc : Int) + o) (hp : ((pc : Int) + o).toNat = pt) (q : x.toInt < y.toInt) (hr : OGo p e below Fn n0 Q (T.setTop (mkF m pt Ls St))) : OGo p e below Fn n0 Q (T.setTop (mkF m pc Ls (.int y :: .int x :: St))) :=
  OGo.st (fun _ k => XS.icmpYes X.here K.hx rfl (pc0 := pc) rfl (hb K.hby hd) rfl ((tlt (Int32.lt_iff_toInt_lt.mpr q)).1) ho hp k) hr
theorem o_icmp_lt_f (X : Stand p l e R s m args below meth c T locs cells slots) (K : OCx p s m meth c Z own nm bytes maxL ret) {x y : Int32} {o : Int} (hd : decode bytes pc = .ok (.if_icmp .lt o, 3)) (pc' : Nat) (hp : pc + 3 = pc') (q : y.toInt ≤ x.toInt) (hr : OGo p e below Fn n0 Q (T.setTop (mkF m pc' Ls St))) : OGo p e below Fn n0 Q (T.setTop (mkF m pc Ls (.int y :: .int x :: St))) := by
  subst hp
  exact OGo.st (fun _ k => XS.icmpNo X.here K.hx rfl (hb K.hby hd) rfl ((flt (fun r => Int.not_lt.mpr q (Int32.lt_iff_toInt_lt.mp r))).1) k) hr
theorem o_icmp_lt (X : Stand p l e R s m args below meth c T locs cells slots) (K : OCx p s m meth c Z own nm bytes maxL ret) {x y : Int32} {o : Int} (hd : decode bytes pc = .ok (.if_icmp .lt o, 3)) (pt : Nat) (ho : 0 ≤ (pc : Int) + o) (hp : ((pc : Int) + o).toNat = pt) (pc' : Nat) (hp' : pc + 3 = pc') (h1 : x.toInt < y.toInt → OGo p e below Fn n0 Q (T.setTop (mkF m pt Ls St))) (h2 : y.toInt ≤ x.toInt → OGo p e below Fn n0 Q (T.setTop (mkF m pc' Ls St))) : OGo p e below Fn n0 Q (T.setTop (mkF m pc Ls (.int y :: .int x :: St))) :=
  (Classical.em (x.toInt < y.toInt)).elim (fun q => o_icmp_lt_t X K hd pt ho hp q (h1 q)) (fun q => o_icmp_lt_f X K hd pc' hp' (Int.not_lt.mp q) (h2 (Int.not_lt.mp q)))
theorem o_if_lt_t (X : Stand p l e R s m args below meth c T locs cells slots) (K : OCx p s m meth c Z own nm bytes maxL ret) {x : Int32} {o : Int} (hd : decode bytes pc = .ok (.ifCond .lt o, 3)) (pt : Nat) (ho : 0 ≤ (pc : Int) + o) (hp : ((pc : Int) + o).toNat = pt) (q : x.toInt < 0) (hr : OGo p e below Fn n0 Q (T.setTop (mkF m pt Ls St))) : OGo p e below Fn n0 Q (T.setTop (mkF m pc Ls (.int x :: St))) :=
  OGo.st (fun _ k => XS.ifYes X.here K.hx rfl (pc0 := pc) rfl (hb K.hby hd) rfl ((if0 _ _).trans (tlt (Int32.lt_iff_toInt_lt.mpr (show x.toInt < (0 : Int32).toInt from q))).1) ho hp k) hr
theorem o_if_lt_f (X : Stand p l e R s m args below meth c T locs cells slots) (K : OCx p s m meth c Z own nm bytes maxL ret) {x : Int32} {o : Int} (hd : decode bytes pc = .ok (.ifCond .lt o, 3)) (pc' : Nat) (hp : pc + 3 = pc') (q : 0 ≤ x.toInt) (hr : OGo p e below Fn n0 Q (T.setTop (mkF m pc' Ls St))) : OGo p e below Fn n0 Q (T.setTop (mkF m pc Ls (.int x :: St))) := by
  subst hp
  exact OGo.st (fun _ k => XS.ifNo X.here K.hx rfl (hb K.hby hd) rfl ((if0 _ _).trans (flt (fun r => Int.not_lt.mpr (show (0 : Int32).toInt ≤ x.toInt from q) (Int32.lt_iff_toInt_lt.mp r))).1) k) hr
theorem o_if_lt (X : Stand p l e R s m args below meth c T locs cells slots) (K : OCx p s m meth c Z own nm bytes maxL ret) {x : Int32} {o : Int} (hd : decode bytes pc = .ok (.ifCond .lt o, 3)) (pt : Nat) (ho : 0 ≤ (pc : Int) + o) (hp : ((pc : Int) + o).toNat = pt) (pc' : Nat) (hp' : pc + 3 = pc') (h1 : x.toInt < 0 → OGo p e below Fn n0 Q (T.setTop (mkF m pt Ls St))) (h2 : 0 ≤ x.toInt → OGo p e below Fn n0 Q (T.setTop (mkF m pc' Ls St))) : OGo p e below Fn n0 Q (T.setTop (mkF m pc Ls (.int x :: St))) :=
  (Classical.em (x.toInt < 0)).elim (fun q => o_if_lt_t X K hd pt ho hp q (h1 q)) (fun q => o_if_lt_f X K hd pc' hp' (Int.not_lt.mp q) (h2 (Int.not_lt.mp q)))
theorem o_icmp_ge_t (X : Stand p l e R s m args below meth c T locs cells slots) (K : OCx p s m meth c Z own nm bytes maxL ret) {x y : Int32} {o : Int} (hd : decode bytes pc = .ok (.if_icmp .ge o, 3)) (pt : Nat) (ho : 0 ≤ (pc : Int) + o) (hp : ((pc : Int) + o).toNat = pt) (q : y.toInt ≤ x.toInt) (hr : OGo p e below Fn n0 Q (T.setTop (mkF m pt Ls St))) : OGo p e below Fn n0 Q (T.setTop (mkF m pc Ls (.int y :: .int x :: St))) :=
  OGo.st (fun _ k => XS.icmpYes X.here K.hx rfl (pc0 := pc) rfl (hb K.hby hd) rfl ((flt (fun r => Int.not_lt.mpr q (Int32.lt_iff_toInt_lt.mp r))).2.1) ho hp k) hr
theorem o_icmp_ge_f (X : Stand p l e R s m args below meth c T locs cells slots) (K : OCx p s m meth c Z own nm bytes maxL ret) {x y : Int32} {o : Int} (hd : decode bytes pc = .ok (.if_icmp .ge o, 3)) (pc' : Nat) (hp : pc + 3 = pc') (q : x.toInt < y.toInt) (hr : OGo p e below Fn n0 Q (T.setTop (mkF m pc' Ls St))) : OGo p e below Fn n0 Q (T.setTop (mkF m pc Ls (.int y :: .int x :: St))) := by
  subst hp
  exact OGo.st (fun _ k => XS.icmpNo X.here K.hx rfl (hb K.hby hd) rfl ((tlt (Int32.lt_iff_toInt_lt.mpr q)).2.1) k) hr
theorem o_icmp_ge (X : Stand p l e R s m args below meth c T locs cells slots) (K : OCx p s m meth c Z own nm bytes maxL ret) {x y : Int32} {o : Int} (hd : decode bytes pc = .ok (.if_icmp .ge o, 3)) (pt : Nat) (ho : 0 ≤ (pc : Int) + o) (hp : ((pc : Int) + o).toNat = pt) (pc' : Nat) (hp' : pc + 3 = pc') (h1 : y.toInt ≤ x.toInt → OGo p e below Fn n0 Q (T.setTop (mkF m pt Ls St))) (h2 : x.toInt < y.toInt → OGo p e below Fn n0 Q (T.setTop (mkF m pc' Ls St))) : OGo p e below Fn n0 Q (T.setTop (mkF m pc Ls (.int y :: .int x :: St))) :=
  (Classical.em (y.toInt ≤ x.toInt)).elim (fun q => o_icmp_ge_t X K hd pt ho hp q (h1 q)) (fun q => o_icmp_ge_f X K hd pc' hp' (Int.not_le.mp q) (h2 (Int.not_le.mp q)))
theorem o_if_ge_t (X : Stand p l e R s m args below meth c T locs cells slots) (K : OCx p s m meth c Z own nm bytes maxL ret) {x : Int32} {o : Int} (hd : decode bytes pc = .ok (.ifCond .ge o, 3)) (pt : Nat) (ho : 0 ≤ (pc : Int) + o) (hp : ((pc : Int) + o).toNat = pt) (q : 0 ≤ x.toInt) (hr : OGo p e below Fn n0 Q (T.setTop (mkF m pt Ls St))) : OGo p e below Fn n0 Q (T.setTop (mkF m pc Ls (.int x :: St))) :=
  OGo.st (fun _ k => XS.ifYes X.here K.hx rfl (pc0 := pc) rfl (hb K.hby hd) rfl ((if0 _ _).trans (flt (fun r => Int.not_lt.mpr (show (0 : Int32).toInt ≤ x.toInt from q) (Int32.lt_iff_toInt_lt.mp r))).2.1) ho hp k) hr
theorem o_if_ge_f (X : Stand p l e R s m args below meth c T locs cells slots) (K : OCx p s m meth c Z own nm bytes maxL ret) {x : Int32} {o : Int} (hd : decode bytes pc = .ok (.ifCond .ge o, 3)) (pc' : Nat) (hp : pc + 3 = pc') (q : x.toInt < 0) (hr : OGo p e below Fn n0 Q (T.setTop (mkF m pc' Ls St))) : OGo p e below Fn n0 Q (T.setTop (mkF m pc Ls (.int x :: St))) := by
  subst hp
  exact OGo.st (fun _ k => XS.ifNo X.here K.hx rfl (hb K.hby hd) rfl ((if0 _ _).trans (tlt (Int32.lt_iff_toInt_lt.mpr (show x.toInt < (0 : Int32).toInt from q))).2.1) k) hr
theorem o_if_ge (X : Stand p l e R s m args below meth c T locs cells slots) (K : OCx p s m meth c Z own nm bytes maxL ret) {x : Int32} {o : Int} (hd : decode bytes pc = .ok (.ifCond .ge o, 3)) (pt : Nat) (ho : 0 ≤ (pc : Int) + o) (hp : ((pc : Int) + o).toNat = pt) (pc' : Nat) (hp' : pc + 3 = pc') (h1 : 0 ≤ x.toInt → OGo p e below Fn n0 Q (T.setTop (mkF m pt Ls St))) (h2 : x.toInt < 0 → OGo p e below Fn n0 Q (T.setTop (mkF m pc' Ls St))) : OGo p e below Fn n0 Q (T.setTop (mkF m pc Ls (.int x :: St))) :=
  (Classical.em (0 ≤ x.toInt)).elim (fun q => o_if_ge_t X K hd pt ho hp q (h1 q)) (fun q => o_if_ge_f X K hd pc' hp' (Int.not_le.mp q) (h2 (Int.not_le.mp q)))
theorem o_icmp_gt_t (X : Stand p l e R s m args below meth c T locs cells slots) (K : OCx p s m meth c Z own nm bytes maxL ret) {x y : Int32} {o : Int} (hd : decode bytes pc = .ok (.if_icmp .gt o, 3)) (pt : Nat) (ho : 0 ≤ (pc : Int) + o) (hp : ((pc : Int) + o).toNat = pt) (q : y.toInt < x.toInt) (hr : OGo p e below Fn n0 Q (T.setTop (mkF m pt Ls St))) : OGo p e below Fn n0 Q (T.setTop (mkF m pc Ls (.int y :: .int x :: St))) :=
  OGo.st (fun _ k => XS.icmpYes X.here K.hx rfl (pc0 := pc) rfl (hb K.hby hd) rfl ((tlt (Int32.lt_iff_toInt_lt.mpr q)).2.2.1) ho hp k) hr
theorem o_icmp_gt_f (X : Stand p l e R s m args below meth c T locs cells slots) (K : OCx p s m meth c Z own nm bytes maxL ret) {x y : Int32} {o : Int} (hd : decode bytes pc = .ok (.if_icmp .gt o, 3)) (pc' : Nat) (hp : pc + 3 = pc') (q : x.toInt ≤ y.toInt) (hr : OGo p e below Fn n0 Q (T.setTop (mkF m pc' Ls St))) : OGo p e below Fn n0 Q (T.setTop (mkF m pc Ls (.int y :: .int x :: St))) := by
  subst hp
  exact OGo.st (fun _ k => XS.icmpNo X.here K.hx rfl (hb K.hby hd) rfl ((flt (fun r => Int.not_lt.mpr q (Int32.lt_iff_toInt_lt.mp r))).2.2.1) k) hr
theorem o_icmp_gt (X : Stand p l e R s m args below meth c T locs cells slots) (K : OCx p s m meth c Z own nm bytes maxL ret) {x y : Int32} {o : Int} (hd : decode bytes pc = .ok (.if_icmp .gt o, 3)) (pt : Nat) (ho : 0 ≤ (pc : Int) + o) (hp : ((pc : Int) + o).toNat = pt) (pc' : Nat) (hp' : pc + 3 = pc') (h1 : y.toInt < x.toInt → OGo p e below Fn n0 Q (T.setTop (mkF m pt Ls St))) (h2 : x.toInt ≤ y.toInt → OGo p e below Fn n0 Q (T.setTop (mkF m pc' Ls St))) : OGo p e below Fn n0 Q (T.setTop (mkF m pc Ls (.int y :: .int x :: St))) :=
  (Classical.em (y.toInt < x.toInt)).elim (fun q => o_icmp_gt_t X K hd pt ho hp q (h1 q)) (fun q => o_icmp_gt_f X K hd pc' hp' (Int.not_lt.mp q) (h2 (Int.not_lt.mp q)))
theorem o_if_gt_t (X : Stand p l e R s m args below meth c T locs cells slots) (K : OCx p s m meth c Z own nm bytes maxL ret) {x : Int32} {o : Int} (hd : decode bytes pc = .ok (.ifCond .gt o, 3)) (pt : Nat) (ho : 0 ≤ (pc : Int) + o) (hp : ((pc : Int) + o).toNat = pt) (q : 0 < x.toInt) (hr : OGo p e below Fn n0 Q (T.setTop (mkF m pt Ls St))) : OGo p e below Fn n0 Q (T.setTop (mkF m pc Ls (.int x :: St))) :=
  OGo.st (fun _ k => XS.ifYes X.here K.hx rfl (pc0 := pc) rfl (hb K.hby hd) rfl ((if0 _ _).trans (tlt (Int32.lt_iff_toInt_lt.mpr (show (0 : Int32).toInt < x.toInt from q))).2.2.1) ho hp k) hr
theorem o_if_gt_f (X : Stand p l e R s m args below meth c T locs cells slots) (K : OCx p s m meth c Z own nm bytes maxL ret) {x : Int32} {o : Int} (hd : decode bytes pc = .ok (.ifCond .gt o, 3)) (pc' : Nat) (hp : pc + 3 = pc') (q : x.toInt ≤ 0) (hr : OGo p e below Fn n0 Q (T.setTop (mkF m pc' Ls St))) : OGo p e below Fn n0 Q (T.setTop (mkF m pc Ls (.int x :: St))) := by
  subst hp
  exact OGo.st (fun _ k => XS.ifNo X.here K.hx rfl (hb K.hby hd) rfl ((if0 _ _).trans (flt (fun r => Int.not_lt.mpr (show x.toInt ≤ (0 : Int32).toInt from q) (Int32.lt_iff_toInt_lt.mp r))).2.2.1) k) hr
theorem o_if_gt (X : Stand p l e R s m args below meth c T locs cells slots) (K : OCx p s m meth c Z own nm bytes maxL ret) {x : Int32} {o : Int} (hd : decode bytes pc = .ok (.ifCond .gt o, 3)) (pt : Nat) (ho : 0 ≤ (pc : Int) + o) (hp : ((pc : Int) + o).toNat = pt) (pc' : Nat) (hp' : pc + 3 = pc') (h1 : 0 < x.toInt → OGo p e below Fn n0 Q (T.setTop (mkF m pt Ls St))) (h2 : x.toInt ≤ 0 → OGo p e below Fn n0 Q (T.setTop (mkF m pc' Ls St))) : OGo p e below Fn n0 Q (T.setTop (mkF m pc Ls (.int x :: St))) :=
  (Classical.em (0 < x.toInt)).elim (fun q => o_if_gt_t X K hd pt ho hp q (h1 q)) (fun q => o_if_gt_f X K hd pc' hp' (Int.not_lt.mp q) (h2 (Int.not_lt.mp q)))
theorem o_icmp_le_t (X : Stand p l e R s m args below meth c T locs cells slots) (K : OCx p s m meth c Z own nm bytes maxL ret) {x y : Int32} {o : Int} (hd : decode bytes pc = .ok (.if_icmp .le o, 3)) (pt : Nat) (ho : 0 ≤ (pc : Int) + o) (hp : ((pc : Int) + o).toNat = pt) (q : x.toInt ≤ y.toInt) (hr : OGo p e below Fn n0 Q (T.setTop (mkF m pt Ls St))) : OGo p e below Fn n0 Q (T.setTop (mkF m pc Ls (.int y :: .int x :: St))) :=
  OGo.st (fun _ k => XS.icmpYes X.here K.hx rfl (pc0 := pc) rfl (hb K.hby hd) rfl ((flt (fun r => Int.not_lt.mpr q (Int32.lt_iff_toInt_lt.mp r))).2.2.2) ho hp k) hr
theorem o_icmp_le_f (X : Stand p l e R s m args below meth c T locs cells slots) (K : OCx p s m meth c Z own nm bytes maxL ret) {x y : Int32} {o : Int} (hd : decode bytes pc = .ok (.if_icmp .le o, 3)) (pc' : Nat) (hp : pc + 3 = pc') (q : y.toInt < x.toInt) (hr : OGo p e below Fn n0 Q (T.setTop (mkF m pc' Ls St))) : OGo p e below Fn n0 Q (T.setTop (mkF m pc Ls (.int y :: .int x :: St))) := by
  subst hp
  exact OGo.st (fun _ k => XS.icmpNo X.here K.hx rfl (hb K.hby hd) rfl ((tlt (Int32.lt_iff_toInt_lt.mpr q)).2.2.2) k) hr
theorem o_icmp_le (X : Stand p l e R s m args below meth c T locs cells slots) (K : OCx p s m meth c Z own nm bytes maxL ret) {x y : Int32} {o : Int} (hd : decode bytes pc = .ok (.if_icmp .le o, 3)) (pt : Nat) (ho : 0 ≤ (pc : Int) + o) (hp : ((pc : Int) + o).toNat = pt) (pc' : Nat) (hp' : pc + 3 = pc') (h1 : x.toInt ≤ y.toInt → OGo p e below Fn n0 Q (T.setTop (mkF m pt Ls St))) (h2 : y.toInt < x.toInt → OGo p e below Fn n0 Q (T.setTop (mkF m pc' Ls St))) : OGo p e below Fn n0 Q (T.setTop (mkF m pc Ls (.int y :: .int x :: St))) :=
  (Classical.em (x.toInt ≤ y.toInt)).elim (fun q => o_icmp_le_t X K hd pt ho hp q (h1 q)) (fun q => o_icmp_le_f X K hd pc' hp' (Int.not_le.mp q) (h2 (Int.not_le.mp q)))
theorem o_if_le_t (X : Stand p l e R s m args below meth c T locs cells slots) (K : OCx p s m meth c Z own nm bytes maxL ret) {x : Int32} {o : Int} (hd : decode bytes pc = .ok (.ifCond .le o, 3)) (pt : Nat) (ho : 0 ≤ (pc : Int) + o) (hp : ((pc : Int) + o).toNat = pt) (q : x.toInt ≤ 0) (hr : OGo p e below Fn n0 Q (T.setTop (mkF m pt Ls St))) : OGo p e below Fn n0 Q (T.setTop (mkF m pc Ls (.int x :: St))) :=
  OGo.st (fun _ k => XS.ifYes X.here K.hx rfl (pc0 := pc) rfl (hb K.hby hd) rfl ((if0 _ _).trans (flt (fun r => Int.not_lt.mpr (show x.toInt ≤ (0 : Int32).toInt from q) (Int32.lt_iff_toInt_lt.mp r))).2.2.2) ho hp k) hr
theorem o_if_le_f (X : Stand p l e R s m args below meth c T locs cells slots) (K : OCx p s m meth c Z own nm bytes maxL ret) {x : Int32} {o : Int} (hd : decode bytes pc = .ok (.ifCond .le o, 3)) (pc' : Nat) (hp : pc + 3 = pc') (q : 0 < x.toInt) (hr : OGo p e below Fn n0 Q (T.setTop (mkF m pc' Ls St))) : OGo p e below Fn n0 Q (T.setTop (mkF m pc Ls (.int x :: St))) := by
  subst hp
  exact OGo.st (fun _ k => XS.ifNo X.here K.hx rfl (hb K.hby hd) rfl ((if0 _ _).trans (tlt (Int32.lt_iff_toInt_lt.mpr (show (0 : Int32).toInt < x.toInt from q))).2.2.2) k) hr
theorem o_if_le (X : Stand p l e R s m args below meth c T locs cells slots) (K : OCx p s m meth c Z own nm bytes maxL ret) {x : Int32} {o : Int} (hd : decode bytes pc = .ok (.ifCond .le o, 3)) (pt : Nat) (ho : 0 ≤ (pc : Int) + o) (hp : ((pc : Int) + o).toNat = pt) (pc' : Nat) (hp' : pc + 3 = pc') (h1 : x.toInt ≤ 0 → OGo p e below Fn n0 Q (T.setTop (mkF m pt Ls St))) (h2 : 0 < x.toInt → OGo p e below Fn n0 Q (T.setTop (mkF m pc' Ls St))) : OGo p e below Fn n0 Q (T.setTop (mkF m pc Ls (.int x :: St))) :=
  (Classical.em (x.toInt ≤ 0)).elim (fun q => o_if_le_t X K hd pt ho hp q (h1 q)) (fun q => o_if_le_f X K hd pc' hp' (Int.not_le.mp q) (h2 (Int.not_le.mp q)))
theorem o_icmp_eq_t (X : Stand p l e R s m args below meth c T locs cells slots) (K : OCx p s m meth c Z own nm bytes maxL ret) {x y : Int32} {o : Int} (hd : decode bytes pc = .ok (.if_icmp .eq o, 3)) (pt : Nat) (ho : 0 ≤ (pc : Int) + o) (hp : ((pc : Int) + o).toNat = pt) (q : x = y) (hr : OGo p e below Fn n0 Q (T.setTop (mkF m pt Ls St))) : OGo p e below Fn n0 Q (T.setTop (mkF m pc Ls (.int y :: .int x :: St))) :=
  OGo.st (fun _ k => XS.icmpYes X.here K.hx rfl (pc0 := pc) rfl (hb K.hby hd) rfl ((teq q).1) ho hp k) hr
theorem o_icmp_eq_f (X : Stand p l e R s m args below meth c T locs cells slots) (K : OCx p s m meth c Z own nm bytes maxL ret) {x y : Int32} {o : Int} (hd : decode bytes pc = .ok (.if_icmp .eq o, 3)) (pc' : Nat) (hp : pc + 3 = pc') (q : ¬ x = y) (hr : OGo p e below Fn n0 Q (T.setTop (mkF m pc' Ls St))) : OGo p e below Fn n0 Q (T.setTop (mkF m pc Ls (.int y :: .int x :: St))) := by
  subst hp
  exact OGo.st (fun _ k => XS.icmpNo X.here K.hx rfl (hb K.hby hd) rfl ((feq q).1) k) hr
theorem o_icmp_eq (X : Stand p l e R s m args below meth c T locs cells slots) (K : OCx p s m meth c Z own nm bytes maxL ret) {x y : Int32} {o : Int} (hd : decode bytes pc = .ok (.if_icmp .eq o, 3)) (pt : Nat) (ho : 0 ≤ (pc : Int) + o) (hp : ((pc : Int) + o).toNat = pt) (pc' : Nat) (hp' : pc + 3 = pc') (h1 : x = y → OGo p e below Fn n0 Q (T.setTop (mkF m pt Ls St))) (h2 : ¬ x = y → OGo p e below Fn n0 Q (T.setTop (mkF m pc' Ls St))) : OGo p e below Fn n0 Q (T.setTop (mkF m pc Ls (.int y :: .int x :: St))) :=
  (Classical.em (x = y)).elim (fun q => o_icmp_eq_t X K hd pt ho hp q (h1 q)) (fun q => o_icmp_eq_f X K hd pc' hp' (id q) (h2 (id q)))
theorem o_if_eq_t (X : Stand p l e R s m args below meth c T locs cells slots) (K : OCx p s m meth c Z own nm bytes maxL ret) {x : Int32} {o : Int} (hd : decode bytes pc = .ok (.ifCond .eq o, 3)) (pt : Nat) (ho : 0 ≤ (pc : Int) + o) (hp : ((pc : Int) + o).toNat = pt) (q : x = 0) (hr : OGo p e below Fn n0 Q (T.setTop (mkF m pt Ls St))) : OGo p e below Fn n0 Q (T.setTop (mkF m pc Ls (.int x :: St))) :=
  OGo.st (fun _ k => XS.ifYes X.here K.hx rfl (pc0 := pc) rfl (hb K.hby hd) rfl ((if0 _ _).trans (teq (show x = (0 : Int32) from q)).1) ho hp k) hr
theorem o_if_eq_f (X : Stand p l e R s m args below meth c T locs cells slots) (K : OCx p s m meth c Z own nm bytes maxL ret) {x : Int32} {o : Int} (hd : decode bytes pc = .ok (.ifCond .eq o, 3)) (pc' : Nat) (hp : pc + 3 = pc') (q : ¬ x = 0) (hr : OGo p e below Fn n0 Q (T.setTop (mkF m pc' Ls St))) : OGo p e below Fn n0 Q (T.setTop (mkF m pc Ls (.int x :: St))) := by
  subst hp
  exact OGo.st (fun _ k => XS.ifNo X.here K.hx rfl (hb K.hby hd) rfl ((if0 _ _).trans (feq (show ¬ x = (0 : Int32) from q)).1) k) hr
theorem o_if_eq (X : Stand p l e R s m args below meth c T locs cells slots) (K : OCx p s m meth c Z own nm bytes maxL ret) {x : Int32} {o : Int} (hd : decode bytes pc = .ok (.ifCond .eq o, 3)) (pt : Nat) (ho : 0 ≤ (pc : Int) + o) (hp : ((pc : Int) + o).toNat = pt) (pc' : Nat) (hp' : pc + 3 = pc') (h1 : x = 0 → OGo p e below Fn n0 Q (T.setTop (mkF m pt Ls St))) (h2 : ¬ x = 0 → OGo p e below Fn n0 Q (T.setTop (mkF m pc' Ls St))) : OGo p e below Fn n0 Q (T.setTop (mkF m pc Ls (.int x :: St))) :=
  (Classical.em (x = 0)).elim (fun q => o_if_eq_t X K hd pt ho hp q (h1 q)) (fun q => o_if_eq_f X K hd pc' hp' (id q) (h2 (id q)))
theorem o_icmp_ne_t (X : Stand p l e R s m args below meth c T locs cells slots) (K : OCx p s m meth c Z own nm bytes maxL ret) {x y : Int32} {o : Int} (hd : decode bytes pc = .ok (.if_icmp .ne o, 3)) (pt : Nat) (ho : 0 ≤ (pc : Int) + o) (hp : ((pc : Int) + o).toNat = pt) (q : ¬ x = y) (hr : OGo p e below Fn n0 Q (T.setTop (mkF m pt Ls St))) : OGo p e below Fn n0 Q (T.setTop (mkF m pc Ls (.int y :: .int x :: St))) :=
  OGo.st (fun _ k => XS.icmpYes X.here K.hx rfl (pc0 := pc) rfl (hb K.hby hd) rfl ((feq q).2) ho hp k) hr
theorem o_icmp_ne_f (X : Stand p l e R s m args below meth c T locs cells slots) (K : OCx p s m meth c Z own nm bytes maxL ret) {x y : Int32} {o : Int} (hd : decode bytes pc = .ok (.if_icmp .ne o, 3)) (pc' : Nat) (hp : pc + 3 = pc') (q : x = y) (hr : OGo p e below Fn n0 Q (T.setTop (mkF m pc' Ls St))) : OGo p e below Fn n0 Q (T.setTop (mkF m pc Ls (.int y :: .int x :: St))) := by
  subst hp
  exact OGo.st (fun _ k => XS.icmpNo X.here K.hx rfl (hb K.hby hd) rfl ((teq q).2) k) hr
theorem o_icmp_ne (X : Stand p l e R s m args below meth c T locs cells slots) (K : OCx p s m meth c Z own nm bytes maxL ret) {x y : Int32} {o : Int} (hd : decode bytes pc = .ok (.if_icmp .ne o, 3)) (pt : Nat) (ho : 0 ≤ (pc : Int) + o) (hp : ((pc : Int) + o).toNat = pt) (pc' : Nat) (hp' : pc + 3 = pc') (h1 : ¬ x = y → OGo p e below Fn n0 Q (T.setTop (mkF m pt Ls St))) (h2 : x = y → OGo p e below Fn n0 Q (T.setTop (mkF m pc' Ls St))) : OGo p e below Fn n0 Q (T.setTop (mkF m pc Ls (.int y :: .int x :: St))) :=
  (Classical.em (¬ x = y)).elim (fun q => o_icmp_ne_t X K hd pt ho hp q (h1 q)) (fun q => o_icmp_ne_f X K hd pc' hp' (Classical.not_not.mp q) (h2 (Classical.not_not.mp q)))
theorem o_if_ne_t (X : Stand p l e R s m args below meth c T locs cells slots) (K : OCx p s m meth c Z own nm bytes maxL ret) {x : Int32} {o : Int} (hd : decode bytes pc = .ok (.ifCond .ne o, 3)) (pt : Nat) (ho : 0 ≤ (pc : Int) + o) (hp : ((pc : Int) + o).toNat = pt) (q : ¬ x = 0) (hr : OGo p e below Fn n0 Q (T.setTop (mkF m pt Ls St))) : OGo p e below Fn n0 Q (T.setTop (mkF m pc Ls (.int x :: St))) :=
  OGo.st (fun _ k => XS.ifYes X.here K.hx rfl (pc0 := pc) rfl (hb K.hby hd) rfl ((if0 _ _).trans (feq (show ¬ x = (0 : Int32) from q)).2) ho hp k) hr
theorem o_if_ne_f (X : Stand p l e R s m args below meth c T locs cells slots) (K : OCx p s m meth c Z own nm bytes maxL ret) {x : Int32} {o : Int} (hd : decode bytes pc = .ok (.ifCond .ne o, 3)) (pc' : Nat) (hp : pc + 3 = pc') (q : x = 0) (hr : OGo p e below Fn n0 Q (T.setTop (mkF m pc' Ls St))) : OGo p e below Fn n0 Q (T.setTop (mkF m pc Ls (.int x :: St))) := by
  subst hp
  exact OGo.st (fun _ k => XS.ifNo X.here K.hx rfl (hb K.hby hd) rfl ((if0 _ _).trans (teq (show x = (0 : Int32) from q)).2) k) hr
theorem o_if_ne (X : Stand p l e R s m args below meth c T locs cells slots) (K : OCx p s m meth c Z own nm bytes maxL ret) {x : Int32} {o : Int} (hd : decode bytes pc = .ok (.ifCond .ne o, 3)) (pt : Nat) (ho : 0 ≤ (pc : Int) + o) (hp : ((pc : Int) + o).toNat = pt) (pc' : Nat) (hp' : pc + 3 = pc') (h1 : ¬ x = 0 → OGo p e below Fn n0 Q (T.setTop (mkF m pt Ls St))) (h2 : x = 0 → OGo p e below Fn n0 Q (T.setTop (mkF m pc' Ls St))) : OGo p e below Fn n0 Q (T.setTop (mkF m pc Ls (.int x :: St))) :=
  (Classical.em (¬ x = 0)).elim (fun q => o_if_ne_t X K hd pt ho hp q (h1 q)) (fun q => o_if_ne_f X K hd pc' hp' (Classical.not_not.mp q) (h2 (Classical.not_not.mp q)))
theorem o_lw_lt {x y : Int64} : (lcmpW x y).toInt < 0 ↔ x.toInt < y.toInt := by
  have q := lw_lt x y
  rw [Int32.lt_iff_toInt_lt, Int64.lt_iff_toInt_lt] at q
  exact q
theorem o_lw_gt {x y : Int64} : 0 < (lcmpW x y).toInt ↔ y.toInt < x.toInt := by
  have q := lw_gt x y
  rw [Int32.lt_iff_toInt_lt, Int64.lt_iff_toInt_lt] at q
  exact q
theorem o_lw_le {x y : Int64} : (lcmpW x y).toInt ≤ 0 ↔ x.toInt ≤ y.toInt := by
  have q := @o_lw_gt x y
  omega
theorem o_lw_ge {x y : Int64} : 0 ≤ (lcmpW x y).toInt ↔ y.toInt ≤ x.toInt := by
  have q := @o_lw_lt x y
  omega
theorem o_lw_eq {x y : Int64} : lcmpW x y = 0 ↔ x = y := lw_eq x y
theorem o_ifnull_t (X : Stand p l e R s m args below meth c T locs cells slots) (K : OCx p s m meth c Z own nm bytes maxL ret) {o : Int} (hd : decode bytes pc = .ok (.ifnull o, 3)) (pt : Nat) (ho : 0 ≤ (pc : Int) + o) (hp : ((pc : Int) + o).toNat = pt) (hr : OGo p e below Fn n0 Q (T.setTop (mkF m pt Ls St))) : OGo p e below Fn n0 Q (T.setTop (mkF m pc Ls (.null :: St))) :=
  OGo.st (fun _ k => XS.ifnullYes X.here K.hx rfl (pc0 := pc) rfl (hb K.hby hd) rfl ho hp k) hr
theorem o_ifnull_f (X : Stand p l e R s m args below meth c T locs cells slots) (K : OCx p s m meth c Z own nm bytes maxL ret) {o : Int} {b : Addr} (hd : decode bytes pc = .ok (.ifnull o, 3)) (pc' : Nat) (hp : pc + 3 = pc') (hr : OGo p e below Fn n0 Q (T.setTop (mkF m pc' Ls St))) : OGo p e below Fn n0 Q (T.setTop (mkF m pc Ls (.ref b :: St))) := by
  subst hp
  exact OGo.st (fun _ k => XS.ifnullNo X.here K.hx rfl (hb K.hby hd) rfl k) hr
theorem o_ifnonnull_t (X : Stand p l e R s m args below meth c T locs cells slots) (K : OCx p s m meth c Z own nm bytes maxL ret) {o : Int} {b : Addr} (hd : decode bytes pc = .ok (.ifnonnull o, 3)) (pt : Nat) (ho : 0 ≤ (pc : Int) + o) (hp : ((pc : Int) + o).toNat = pt) (hr : OGo p e below Fn n0 Q (T.setTop (mkF m pt Ls St))) : OGo p e below Fn n0 Q (T.setTop (mkF m pc Ls (.ref b :: St))) :=
  OGo.st (fun _ k => XS.ifnonnullYes X.here K.hx rfl (pc0 := pc) rfl (hb K.hby hd) rfl ho hp k) hr
theorem o_ifnonnull_f (X : Stand p l e R s m args below meth c T locs cells slots) (K : OCx p s m meth c Z own nm bytes maxL ret) {o : Int} (hd : decode bytes pc = .ok (.ifnonnull o, 3)) (pc' : Nat) (hp : pc + 3 = pc') (hr : OGo p e below Fn n0 Q (T.setTop (mkF m pc' Ls St))) : OGo p e below Fn n0 Q (T.setTop (mkF m pc Ls (.null :: St))) := by
  subst hp
  exact OGo.st (fun _ k => XS.ifnonnullNo X.here K.hx rfl (hb K.hby hd) rfl k) hr
theorem o_acmp (X : Stand p l e R s m args below meth c T locs cells slots) (K : OCx p s m meth c Z own nm bytes maxL ret) {cd : ACond} {x y : Value} {o : Int} (hd : decode bytes pc = .ok (.if_acmp cd o, 3)) (pc' : Nat) (h1 : x.isRef = true) (h2 : y.isRef = true) (same : Bool) (hq : decide (x = y) = same) (ho : 0 ≤ (pc : Int) + o) (hp : pc' = if acV cd same = true then ((pc : Int) + o).toNat else pc + 3) (hr : OGo p e below Fn n0 Q (T.setTop (mkF m pc' Ls St))) : OGo p e below Fn n0 Q (T.setTop (mkF m pc Ls (y :: x :: St))) :=
  OGo.st (fun _ k => Jvm.RoadKit.acmp (g := mkF m pc Ls (y :: x :: St)) X K.hx rfl h1 h2 (pc0 := pc) rfl (hb K.hby hd) rfl hq ho hp k) hr
theorem o_leave (X : Stand p l e R s m args below meth c T locs cells slots) (hlk : meth.locks = false) {v : Option Value} (hv : meth.sig.returnType = none → v = none) {S : State} (hc : cells ≤ kc) (hs : slots ≤ ks) (N : Fr n0 locs) (hQ : Q v T.heap)
    (k : ∀ fs, (∀ (f : JFrame) (acts : List Action), f.method = m → f.locked = none → f.entered = [] → (doReturn e (T.setTop f) acts v).1 = T.setFrames fs) → Steps p.tables e below S (T.setFrames fs)) : OGo p e below (OFin s kc ks) n0 Q S := by
  obtain ⟨fs, hr, hrun, hended, hW, hsame⟩ := X.leave (v := v) hv
  exact ⟨_, _, k fs hr, hrun, hended, v, locs, rfl, ⟨hQ, N⟩, ⟨v, rfl⟩, hW, hsame.mono hc hs⟩
theorem o_ireturn (X : Stand p l e R s m args below meth c T locs cells slots) (K : OCx p s m meth c Z own nm bytes maxL (some .int)) {z : Int32} (hd : decode bytes pc = .ok (.ireturn, 1)) (hc : cells ≤ kc) (hs : slots ≤ ks) (N : Fr n0 locs) (hQ : Q (some (.int z)) T.heap) : OGo p e below (OFin s kc ks) n0 Q (T.setTop (mkF m pc Ls (.int z :: St))) :=
  o_leave X K.hlk (fun h => by rw [K.hret] at h; cases h) hc hs N hQ (fun fs hr => retI X K.hx K.hret (hb K.hby hd) hr)
theorem o_ireturnN {t : FieldType} (X : Stand p l e R s m args below meth c T locs cells slots) (K : OCx p s m meth c Z own nm bytes maxL (some t)) (ht : t = .boolean ∨ t = .byte ∨ t = .char ∨ t = .short) {z : Int32} (hd : decode bytes pc = .ok (.ireturn, 1)) (hc : cells ≤ kc) (hs : slots ≤ ks) (N : Fr n0 locs) (hQ : Q (some (.int (nar t z))) T.heap) : OGo p e below (OFin s kc ks) n0 Q (T.setTop (mkF m pc Ls (.int z :: St))) :=
  o_leave X K.hlk (fun h => by rw [K.hret] at h; cases h) hc hs N hQ (fun fs hr => retN X K.hx K.hret ht (hb K.hby hd) hr)
theorem o_lreturn (X : Stand p l e R s m args below meth c T locs cells slots) (K : OCx p s m meth c Z own nm bytes maxL (some .long)) {z : Int64} (hd : decode bytes pc = .ok (.lreturn, 1)) (hc : cells ≤ kc) (hs : slots ≤ ks) (N : Fr n0 locs) (hQ : Q (some (.long z)) T.heap) : OGo p e below (OFin s kc ks) n0 Q (T.setTop (mkF m pc Ls (.long z :: St))) :=
  o_leave X K.hlk (fun h => by rw [K.hret] at h; cases h) hc hs N hQ (fun fs hr => retOut X K.hx K.hret rfl (Or.inr (Or.inl ⟨rfl, rfl, z, rfl⟩)) (hb K.hby hd) hr)
theorem o_areturn {t : FieldType} (X : Stand p l e R s m args below meth c T locs cells slots) (K : OCx p s m meth c Z own nm bytes maxL (some t)) (ht : t.isReference = true) {z : Value} (hn : narrow t z = z) (hz : z.isRef = true) (hd : decode bytes pc = .ok (.areturn, 1)) (hc : cells ≤ kc) (hs : slots ≤ ks) (N : Fr n0 locs) (hQ : Q (some z) T.heap) : OGo p e below (OFin s kc ks) n0 Q (T.setTop (mkF m pc Ls (z :: St))) :=
  o_leave X K.hlk (fun h => by rw [K.hret] at h; cases h) hc hs N hQ (fun fs hr => retOut X K.hx K.hret hn (Or.inr (Or.inr (Or.inr (Or.inr ⟨rfl, ht, hz⟩)))) (hb K.hby hd) hr)
theorem o_return (X : Stand p l e R s m args below meth c T locs cells slots) (K : OCx p s m meth c Z own nm bytes maxL none) (hd : decode bytes pc = .ok (.return_, 1)) (hc : cells ≤ kc) (hs : slots ≤ ks) (N : Fr n0 locs) (hQ : Q none T.heap) : OGo p e below (OFin s kc ks) n0 Q (T.setTop (mkF m pc Ls [])) :=
  o_leave X K.hlk (fun _ => rfl) hc hs N hQ (fun fs hr => X.returnOut K.hx K.hret (hb K.hby hd) hr)
/-- an array: its kind, its length, what each place holds -/
def OAr (Z : State) (h : Heap) (a : Addr) (ty : FieldType) (n : Nat) (f : Nat → Value) : Prop := ∃ c : Cell, Arr Z h a c ty ∧ c.slots.size = n ∧ n < 2147483648 ∧ (∀ j, j < n → c.slots[j]? = some (f j)) ∧ ∀ j, j < n → fits ty (f j) = true
theorem OAr.lt {a : Addr} {ty : FieldType} {n : Nat} {f : Nat → Value} (A : OAr Z h a ty n f) : a < h.size := by obtain ⟨c, A, -⟩ := A; exact A.lt
theorem OAr.len {a : Addr} {ty : FieldType} {n : Nat} {f : Nat → Value} (A : OAr Z h a ty n f) : n < 2147483648 := by obtain ⟨c, -, -, A, -⟩ := A; exact A
theorem OAr.fit {a : Addr} {ty : FieldType} {n : Nat} {f : Nat → Value} (A : OAr Z h a ty n f) {j : Nat} (hj : j < n) : fits ty (f j) = true := by obtain ⟨c, -, -, -, -, A⟩ := A; exact A j hj
theorem OAr.ext {a : Addr} {ty : FieldType} {n : Nat} {f : Nat → Value} (A : OAr Z h a ty n f) (E : Ext h h') : OAr Z h' a ty n f := by obtain ⟨c, A, r⟩ := A; exact ⟨c, A.ext E, r⟩
theorem OAr.other {a b : Addr} {ty : FieldType} {n sl : Nat} {f : Nat → Value} {v : Value} (A : OAr Z h b ty n f) (W : Wr h h' a sl v) (q : b ≠ a) : OAr Z h' b ty n f := by obtain ⟨c, A, r⟩ := A; exact ⟨c, A.other W q, r⟩
theorem OAr.keep {a : Addr} {ty : FieldType} {n : Nat} {f : Nat → Value} {ws : List Addr} (A : OAr Z h a ty n f) (E : Keep h h' ws) (q : a ∉ ws) : OAr Z h' a ty n f := by obtain ⟨c, A, r⟩ := A; exact ⟨c, ⟨E.2.1 _ _ A.1 q, A.2⟩, r⟩
theorem OAr.congr {a : Addr} {ty : FieldType} {n : Nat} {f g : Nat → Value} (A : OAr Z h a ty n f) (q : ∀ j, j < n → f j = g j) : OAr Z h a ty n g := by
  obtain ⟨c, A, r1, r2, r3, r4⟩ := A
  exact ⟨c, A, r1, r2, fun j hj => by rw [← q j hj]; exact r3 j hj, fun j hj => by rw [← q j hj]; exact r4 j hj⟩
theorem OAr.same {a : Addr} {ty : FieldType} {n i : Nat} {f : Nat → Value} {v : Value} (A : OAr Z h a ty n f) (W : Wr h h' a i v) (hv : fits ty v = true) : OAr Z h' a ty n (fun q => if q = i then v else f q) := by
  obtain ⟨c, A, r1, r2, r3, r4⟩ := A
  refine ⟨_, A.same W, by rw [sz_set]; exact r1, r2, fun j hj => ?_, fun j hj => ?_⟩
  · by_cases e : j = i
    · subst e; simp [Cell.setSlot, r1, hj]
    · have e' : ¬ i = j := fun z => e z.symm
      simp [Cell.setSlot, e, e', r3 j hj]
  · by_cases e : j = i
    · simp [e, hv]
    · simp [e, r4 j hj]
theorem o_idx {j : Int32} {i n : Nat} {c : Cell} (hj : j.toInt = (i : Int)) (hi : i < n) (r1 : c.slots.size = n) : ¬ (j < 0 ∨ c.slots.size ≤ j.toNatClampNeg) ∧ j.toNatClampNeg = i := by
  have e : j.toNatClampNeg = i := by rw [← Int32.toNat_toInt, hj]; rfl
  refine ⟨?_, e⟩
  rw [e, r1, Int32.lt_iff_toInt_lt, hj]
  intro q
  rcases q with q | q
  · have : (0 : Int32).toInt = 0 := rfl
    omega
  · omega
theorem o_len {n : Nat} (h : n < 2147483648) : (n.toInt32).toInt = n := by
  have := len_toInt (n := n) (by omega)
  exact this
theorem o_arraylength (X : Stand p l e R s m args below meth c T locs cells slots) (K : OCx p s m meth c Z own nm bytes maxL ret) {a : Addr} {ty : FieldType} {n : Nat} {f : Nat → Value} (hd : decode bytes pc = .ok (.arraylength, 1)) (pc' : Nat) (hp : pc + 1 = pc') (eT : T.heap = h) (A : OAr Z h a ty n f) {v : Int32} (hv : v.toInt = n) (hr : OGo p e below Fn n0 Q (T.setTop (mkF m pc' Ls (.int v :: St)))) : OGo p e below Fn n0 Q (T.setTop (mkF m pc Ls (.ref a :: St))) := by
  subst hp
  obtain ⟨cl, A, r1, r2, -⟩ := A
  have e1 : cl.slots.size.toInt32 = v := by rw [← Int32.toInt_inj, hv, r1]; exact o_len r2
  refine OGo.st (fun t k => ?_) hr
  refine X.arraylength K.hx (g := mkF m pc Ls (.ref a :: St)) (by rw [eT]; exact A.1) (State.isArrayOf_alike K.hZ.alike A.2.1) rfl rfl (hb K.hby hd) t ?_
  rw [e1]
  exact k
theorem o_iaload (X : Stand p l e R s m args below meth c T locs cells slots) (K : OCx p s m meth c Z own nm bytes maxL ret) {a : Addr} {n i : Nat} {f : Nat → Value} {j : Int32} {v : Value} (hd : decode bytes pc = .ok (.iaload, 1)) (pc' : Nat) (hp : pc + 1 = pc') (eT : T.heap = h) (A : OAr Z h a .int n f) (hj : j.toInt = (i : Int)) (hi : i < n) (hv : f i = v) (hr : OGo p e below Fn n0 Q (T.setTop (mkF m pc' Ls (v :: St)))) : OGo p e below Fn n0 Q (T.setTop (mkF m pc Ls (.int j :: .ref a :: St))) := by
  subst hp
  obtain ⟨cl, A, r1, r2, r3, -⟩ := A
  obtain ⟨q1, q2⟩ := o_idx (c := cl) hj hi r1
  exact OGo.st (fun t k => X.iaload K.hx (g := mkF m pc Ls (.int j :: .ref a :: St)) (by rw [eT]; exact A.1) (State.isArrayOf_alike K.hZ.alike A.2.1) A.2.2 q1 (by rw [q2, r3 i hi, hv]) rfl rfl (hb K.hby hd) t k) hr
theorem o_laload (X : Stand p l e R s m args below meth c T locs cells slots) (K : OCx p s m meth c Z own nm bytes maxL ret) {a : Addr} {n i : Nat} {f : Nat → Value} {j : Int32} {v : Value} (hd : decode bytes pc = .ok (.laload, 1)) (pc' : Nat) (hp : pc + 1 = pc') (eT : T.heap = h) (A : OAr Z h a .long n f) (hj : j.toInt = (i : Int)) (hi : i < n) (hv : f i = v) (hr : OGo p e below Fn n0 Q (T.setTop (mkF m pc' Ls (v :: St)))) : OGo p e below Fn n0 Q (T.setTop (mkF m pc Ls (.int j :: .ref a :: St))) := by
  subst hp
  obtain ⟨cl, A, r1, r2, r3, -⟩ := A
  obtain ⟨q1, q2⟩ := o_idx (c := cl) hj hi r1
  exact OGo.st (fun t k => X.laload K.hx (g := mkF m pc Ls (.int j :: .ref a :: St)) (by rw [eT]; exact A.1) (State.isArrayOf_alike K.hZ.alike A.2.1) A.2.2 q1 (by rw [q2, r3 i hi, hv]) rfl rfl (hb K.hby hd) t k) hr
theorem o_caload (X : Stand p l e R s m args below meth c T locs cells slots) (K : OCx p s m meth c Z own nm bytes maxL ret) {a : Addr} {n i : Nat} {f : Nat → Value} {j : Int32} {v : Value} (hd : decode bytes pc = .ok (.caload, 1)) (pc' : Nat) (hp : pc + 1 = pc') (eT : T.heap = h) (A : OAr Z h a .char n f) (hj : j.toInt = (i : Int)) (hi : i < n) (hv : f i = v) (hr : OGo p e below Fn n0 Q (T.setTop (mkF m pc' Ls (v :: St)))) : OGo p e below Fn n0 Q (T.setTop (mkF m pc Ls (.int j :: .ref a :: St))) := by
  subst hp
  obtain ⟨cl, A, r1, r2, r3, -⟩ := A
  obtain ⟨q1, q2⟩ := o_idx (c := cl) hj hi r1
  exact OGo.st (fun t k => X.caload K.hx (g := mkF m pc Ls (.int j :: .ref a :: St)) (by rw [eT]; exact A.1) (State.isArrayOf_alike K.hZ.alike A.2.1) A.2.2 q1 (by rw [q2, r3 i hi, hv]) rfl rfl (hb K.hby hd) t k) hr
theorem o_saload (X : Stand p l e R s m args below meth c T locs cells slots) (K : OCx p s m meth c Z own nm bytes maxL ret) {a : Addr} {n i : Nat} {f : Nat → Value} {j : Int32} {v : Value} (hd : decode bytes pc = .ok (.saload, 1)) (pc' : Nat) (hp : pc + 1 = pc') (eT : T.heap = h) (A : OAr Z h a .short n f) (hj : j.toInt = (i : Int)) (hi : i < n) (hv : f i = v) (hr : OGo p e below Fn n0 Q (T.setTop (mkF m pc' Ls (v :: St)))) : OGo p e below Fn n0 Q (T.setTop (mkF m pc Ls (.int j :: .ref a :: St))) := by
  subst hp
  obtain ⟨cl, A, r1, r2, r3, -⟩ := A
  obtain ⟨q1, q2⟩ := o_idx (c := cl) hj hi r1
  exact OGo.st (fun t k => X.saload K.hx (g := mkF m pc Ls (.int j :: .ref a :: St)) (by rw [eT]; exact A.1) (State.isArrayOf_alike K.hZ.alike A.2.1) A.2.2 q1 (by rw [q2, r3 i hi, hv]) rfl rfl (hb K.hby hd) t k) hr
theorem o_baload (X : Stand p l e R s m args below meth c T locs cells slots) (K : OCx p s m meth c Z own nm bytes maxL ret) {a : Addr} {n i : Nat} {f : Nat → Value} {j : Int32} {v : Value} (hd : decode bytes pc = .ok (.baload, 1)) (pc' : Nat) (hp : pc + 1 = pc') (eT : T.heap = h) (A : OAr Z h a .byte n f) (hj : j.toInt = (i : Int)) (hi : i < n) (hv : f i = v) (hr : OGo p e below Fn n0 Q (T.setTop (mkF m pc' Ls (v :: St)))) : OGo p e below Fn n0 Q (T.setTop (mkF m pc Ls (.int j :: .ref a :: St))) := by
  subst hp
  obtain ⟨cl, A, r1, r2, r3, -⟩ := A
  obtain ⟨q1, q2⟩ := o_idx (c := cl) hj hi r1
  exact OGo.st (fun t k => X.baloadBytes K.hx (g := mkF m pc Ls (.int j :: .ref a :: St)) (by rw [eT]; exact A.1) (State.isArrayOf_alike K.hZ.alike A.2.1) A.2.2 q1 (by rw [q2, r3 i hi, hv]) rfl rfl (hb K.hby hd) t k) hr
theorem o_zaload (X : Stand p l e R s m args below meth c T locs cells slots) (K : OCx p s m meth c Z own nm bytes maxL ret) {a : Addr} {n i : Nat} {f : Nat → Value} {j : Int32} {v : Value} (hd : decode bytes pc = .ok (.baload, 1)) (pc' : Nat) (hp : pc + 1 = pc') (eT : T.heap = h) (A : OAr Z h a .boolean n f) (hj : j.toInt = (i : Int)) (hi : i < n) (hv : f i = v) (hr : OGo p e below Fn n0 Q (T.setTop (mkF m pc' Ls (v :: St)))) : OGo p e below Fn n0 Q (T.setTop (mkF m pc Ls (.int j :: .ref a :: St))) := by
  subst hp
  obtain ⟨cl, A, r1, r2, r3, -⟩ := A
  obtain ⟨q1, q2⟩ := o_idx (c := cl) hj hi r1
  exact OGo.st (fun t k => X.baloadBooleans K.hx (g := mkF m pc Ls (.int j :: .ref a :: St)) (by rw [eT]; exact A.1) (State.isArrayOf_alike K.hZ.alike A.2.1) A.2.2 q1 (by rw [q2, r3 i hi, hv]) rfl rfl (hb K.hby hd) t k) hr
theorem o_aaload (X : Stand p l e R s m args below meth c T locs cells slots) (K : OCx p s m meth c Z own nm bytes maxL ret) {a : Addr} {ty : FieldType} {n i : Nat} {f : Nat → Value} {j : Int32} {v : Value} (hd : decode bytes pc = .ok (.aaload, 1)) (pc' : Nat) (hp : pc + 1 = pc') (eT : T.heap = h) (A : OAr Z h a ty n f) (hty : ty.isReference = true) (hj : j.toInt = (i : Int)) (hi : i < n) (hv : f i = v) (hr : OGo p e below Fn n0 Q (T.setTop (mkF m pc' Ls (v :: St)))) : OGo p e below Fn n0 Q (T.setTop (mkF m pc Ls (.int j :: .ref a :: St))) := by
  subst hp
  obtain ⟨cl, A, r1, r2, r3, -⟩ := A
  obtain ⟨q1, q2⟩ := o_idx (c := cl) hj hi r1
  exact OGo.st (fun t k => X.aaload K.hx (g := mkF m pc Ls (.int j :: .ref a :: St)) (by rw [eT]; exact A.1) (State.isArrayOf_alike K.hZ.alike A.2.1) hty A.2.2 q1 (by rw [q2, r3 i hi, hv]) rfl rfl (hb K.hby hd) t k) hr
theorem o_bastore (X : Stand p l e R s m args below meth c T locs cells slots) (K : OCx p s m meth c Z own nm bytes maxL ret) {a : Addr} {n i : Nat} {f : Nat → Value} {j : Int32} {x x' : Int32} (hd : decode bytes pc = .ok (.bastore, 1)) (pc' : Nat) (hp : pc + 1 = pc') (eT : T.heap = h) (A : OAr Z h a .byte n f) (hj : j.toInt = (i : Int)) (hi : i < n) (hv : nar .byte x = x') (N : Fr n0 locs) (ge : n0 ≤ a)
    (hr : ∀ T' h' locs', Stand p l e R s m args below meth c T' locs' cells slots → T'.heap = h' → Wr h h' a i (.int x') → OAr Z h' a .byte n (fun q => if q = i then (.int x') else f q) → Fr n0 locs' → OGo p e below Fn n0 Q (T'.setTop (mkF m pc' Ls St))) : OGo p e below Fn n0 Q (T.setTop (mkF m pc Ls (.int x :: .int j :: .ref a :: St))) := by
  subst hp hv
  obtain ⟨cl, B, r1, r2, r3, -⟩ := id A
  obtain ⟨q1, q2⟩ := o_idx (c := cl) hj hi r1
  obtain ⟨T', h', X', e', W', st'⟩ := stB X K.hx K.hZ eT B q1 (g := mkF m pc Ls (.int x :: .int j :: .ref a :: St)) rfl rfl (hb K.hby hd)
  have N' := Fr.snoc X' N ge
  rw [q2] at W'
  exact OGo.st st' (hr T' h' _ X' e' W' (A.same W' (fits_nar_byte x)) N')
theorem o_castore (X : Stand p l e R s m args below meth c T locs cells slots) (K : OCx p s m meth c Z own nm bytes maxL ret) {a : Addr} {n i : Nat} {f : Nat → Value} {j : Int32} {x x' : Int32} (hd : decode bytes pc = .ok (.castore, 1)) (pc' : Nat) (hp : pc + 1 = pc') (eT : T.heap = h) (A : OAr Z h a .char n f) (hj : j.toInt = (i : Int)) (hi : i < n) (hv : nar .char x = x') (N : Fr n0 locs) (ge : n0 ≤ a)
    (hr : ∀ T' h' locs', Stand p l e R s m args below meth c T' locs' cells slots → T'.heap = h' → Wr h h' a i (.int x') → OAr Z h' a .char n (fun q => if q = i then (.int x') else f q) → Fr n0 locs' → OGo p e below Fn n0 Q (T'.setTop (mkF m pc' Ls St))) : OGo p e below Fn n0 Q (T.setTop (mkF m pc Ls (.int x :: .int j :: .ref a :: St))) := by
  subst hp hv
  obtain ⟨cl, B, r1, r2, r3, -⟩ := id A
  obtain ⟨q1, q2⟩ := o_idx (c := cl) hj hi r1
  obtain ⟨T', h', X', e', W', st'⟩ := stC X K.hx K.hZ eT B q1 (g := mkF m pc Ls (.int x :: .int j :: .ref a :: St)) rfl rfl (hb K.hby hd)
  have N' := Fr.snoc X' N ge
  rw [q2] at W'
  exact OGo.st st' (hr T' h' _ X' e' W' (A.same W' (fits_nar_char x)) N')
theorem o_sastore (X : Stand p l e R s m args below meth c T locs cells slots) (K : OCx p s m meth c Z own nm bytes maxL ret) {a : Addr} {n i : Nat} {f : Nat → Value} {j : Int32} {x x' : Int32} (hd : decode bytes pc = .ok (.sastore, 1)) (pc' : Nat) (hp : pc + 1 = pc') (eT : T.heap = h) (A : OAr Z h a .short n f) (hj : j.toInt = (i : Int)) (hi : i < n) (hv : nar .short x = x') (N : Fr n0 locs) (ge : n0 ≤ a)
    (hr : ∀ T' h' locs', Stand p l e R s m args below meth c T' locs' cells slots → T'.heap = h' → Wr h h' a i (.int x') → OAr Z h' a .short n (fun q => if q = i then (.int x') else f q) → Fr n0 locs' → OGo p e below Fn n0 Q (T'.setTop (mkF m pc' Ls St))) : OGo p e below Fn n0 Q (T.setTop (mkF m pc Ls (.int x :: .int j :: .ref a :: St))) := by
  subst hp hv
  obtain ⟨cl, B, r1, r2, r3, -⟩ := id A
  obtain ⟨q1, q2⟩ := o_idx (c := cl) hj hi r1
  obtain ⟨T', h', X', e', W', st'⟩ := stS X K.hx K.hZ eT B q1 (g := mkF m pc Ls (.int x :: .int j :: .ref a :: St)) rfl rfl (hb K.hby hd)
  have N' := Fr.snoc X' N ge
  rw [q2] at W'
  exact OGo.st st' (hr T' h' _ X' e' W' (A.same W' (fits_nar_short x)) N')
theorem o_zastore (X : Stand p l e R s m args below meth c T locs cells slots) (K : OCx p s m meth c Z own nm bytes maxL ret) {a : Addr} {n i : Nat} {f : Nat → Value} {j : Int32} {x x' : Int32} (hd : decode bytes pc = .ok (.bastore, 1)) (pc' : Nat) (hp : pc + 1 = pc') (eT : T.heap = h) (A : OAr Z h a .boolean n f) (hj : j.toInt = (i : Int)) (hi : i < n) (hv : nar .boolean x = x') (N : Fr n0 locs) (ge : n0 ≤ a)
    (hr : ∀ T' h' locs', Stand p l e R s m args below meth c T' locs' cells slots → T'.heap = h' → Wr h h' a i (.int x') → OAr Z h' a .boolean n (fun q => if q = i then (.int x') else f q) → Fr n0 locs' → OGo p e below Fn n0 Q (T'.setTop (mkF m pc' Ls St))) : OGo p e below Fn n0 Q (T.setTop (mkF m pc Ls (.int x :: .int j :: .ref a :: St))) := by
  subst hp hv
  obtain ⟨cl, B, r1, r2, r3, -⟩ := id A
  obtain ⟨q1, q2⟩ := o_idx (c := cl) hj hi r1
  obtain ⟨T', h', X', e', W', st'⟩ := stZ X K.hx K.hZ eT B q1 (g := mkF m pc Ls (.int x :: .int j :: .ref a :: St)) rfl rfl (hb K.hby hd)
  have N' := Fr.snoc X' N ge
  rw [q2] at W'
  exact OGo.st st' (hr T' h' _ X' e' W' (A.same W' (fits_nar_bool x)) N')
theorem o_iastore (X : Stand p l e R s m args below meth c T locs cells slots) (K : OCx p s m meth c Z own nm bytes maxL ret) {a : Addr} {n i : Nat} {f : Nat → Value} {j : Int32} {x x' : Int32} (hd : decode bytes pc = .ok (.iastore, 1)) (pc' : Nat) (hp : pc + 1 = pc') (eT : T.heap = h) (A : OAr Z h a .int n f) (hj : j.toInt = (i : Int)) (hi : i < n) (hv : x = x') (N : Fr n0 locs) (ge : n0 ≤ a)
    (hr : ∀ T' h' locs', Stand p l e R s m args below meth c T' locs' cells slots → T'.heap = h' → Wr h h' a i (.int x') → OAr Z h' a .int n (fun q => if q = i then (.int x') else f q) → Fr n0 locs' → OGo p e below Fn n0 Q (T'.setTop (mkF m pc' Ls St))) : OGo p e below Fn n0 Q (T.setTop (mkF m pc Ls (.int x :: .int j :: .ref a :: St))) := by
  subst hp hv
  obtain ⟨cl, B, r1, r2, r3, -⟩ := id A
  obtain ⟨q1, q2⟩ := o_idx (c := cl) hj hi r1
  obtain ⟨T', h', X', e', W', st'⟩ := stI X K.hx K.hZ eT B q1 (g := mkF m pc Ls (.int x :: .int j :: .ref a :: St)) rfl rfl (hb K.hby hd)
  have N' := Fr.snoc X' N ge
  rw [q2] at W'
  exact OGo.st st' (hr T' h' _ X' e' W' (A.same W' (rfl)) N')
theorem o_lastore (X : Stand p l e R s m args below meth c T locs cells slots) (K : OCx p s m meth c Z own nm bytes maxL ret) {a : Addr} {n i : Nat} {f : Nat → Value} {j : Int32} {x x' : Int64} (hd : decode bytes pc = .ok (.lastore, 1)) (pc' : Nat) (hp : pc + 1 = pc') (eT : T.heap = h) (A : OAr Z h a .long n f) (hj : j.toInt = (i : Int)) (hi : i < n) (hv : x = x') (N : Fr n0 locs) (ge : n0 ≤ a)
    (hr : ∀ T' h' locs', Stand p l e R s m args below meth c T' locs' cells slots → T'.heap = h' → Wr h h' a i (.long x') → OAr Z h' a .long n (fun q => if q = i then (.long x') else f q) → Fr n0 locs' → OGo p e below Fn n0 Q (T'.setTop (mkF m pc' Ls St))) : OGo p e below Fn n0 Q (T.setTop (mkF m pc Ls (.long x :: .int j :: .ref a :: St))) := by
  subst hp hv
  obtain ⟨cl, B, r1, r2, r3, -⟩ := id A
  obtain ⟨q1, q2⟩ := o_idx (c := cl) hj hi r1
  obtain ⟨T', h', X', e', W', st'⟩ := stJ X K.hx K.hZ eT B q1 (g := mkF m pc Ls (.long x :: .int j :: .ref a :: St)) rfl rfl (hb K.hby hd)
  have N' := Fr.snoc X' N ge
  rw [q2] at W'
  exact OGo.st st' (hr T' h' _ X' e' W' (A.same W' (rfl)) N')
theorem o_newarray (X : Stand p l e R s m args below meth c T locs cells slots) (K : OCx p s m meth c Z own nm bytes maxL ret) {aty : ArrayType} {z : Int32} {n : Nat} (hd : decode bytes pc = .ok (.newarray aty, 2)) (pc' : Nat) (hp : pc + 2 = pc') (w : (Jvm.Cond.arrayClass (newarray.typeOf aty)).before a0 Z = true) (eT : T.heap = h) (hz : z.toInt = (n : Int)) (cap : Nat) (hcap : n ≤ cap) (hb8 : cap * 8 ≤ 536870912) (hc : cells + 1 ≤ R.cells) (hl : slots + cap ≤ R.slots)
    (hdv : fits (newarray.typeOf aty) (defaultValue (newarray.typeOf aty)) = true)
    (hr : ∀ T' h' a, a = h.size → Stand p l e R s m args below meth c T' locs (cells + 1) (slots + cap) → T'.heap = h' → Ext h h' → OAr Z h' a (newarray.typeOf aty) n (fun _ => defaultValue (newarray.typeOf aty)) → OGo p e below Fn n0 Q (T'.setTop (mkF m pc' Ls (.ref a :: St)))) : OGo p e below Fn n0 Q (T.setTop (mkF m pc Ls (.int z :: St))) := by
  subst hp
  have e1 : z.toNatClampNeg = n := by rw [← Int32.toNat_toInt, hz]; rfl
  have hneg : ¬ z < 0 := by
    rw [Int32.lt_iff_toInt_lt, hz]
    have : (0 : Int32).toInt = 0 := rfl
    omega
  obtain ⟨T', h', cA, X', e', E', A', st'⟩ := newP X K.hx K.hZ w eT (g := mkF m pc Ls (.int z :: St)) rfl (hb K.hby hd) rfl hneg (cap := cap) (by omega) hb8 hc hl
  refine OGo.st st' (hr T' h' _ rfl X' e' E' ⟨_, A', (sz_new _ _ _).trans e1, ?_, fun j hj => ?_, fun j _ => hdv⟩)
  · have := (rng32 z).2
    omega
  · simp [newA, e1, hj]
theorem o_anewarray (X : Stand p l e R s m args below meth c T locs cells slots) (K : OCx p s m meth c Z own nm bytes maxL ret) {C : String} {index : Nat} {z : Int32} {n : Nat} (hd : decode bytes pc = .ok (.anewarray index, 3)) (pc' : Nat) (hp : pc + 3 = pc') (w1 : (Jvm.Cond.classLink own index C).before a0 Z = true) (w2 : (Jvm.Cond.arrayOver (.object C)).before a0 Z = true) (eT : T.heap = h) (hz : z.toInt = (n : Int)) (cap : Nat) (hcap : n ≤ cap) (hb8 : cap * 8 ≤ 536870912) (hc : cells + 1 ≤ R.cells) (hl : slots + cap ≤ R.slots)
    (hr : ∀ T' h' a, a = h.size → Stand p l e R s m args below meth c T' locs (cells + 1) (slots + cap) → T'.heap = h' → Ext h h' → OAr Z h' a (.object C) n (fun _ => .null) → (∃ cl : Cell, h'[a]? = some cl ∧ Ovr Z cl.cls C) → OGo p e below Fn n0 Q (T'.setTop (mkF m pc' Ls (.ref a :: St)))) : OGo p e below Fn n0 Q (T.setTop (mkF m pc Ls (.int z :: St))) := by
  subst hp
  have e1 : z.toNatClampNeg = n := by rw [← Int32.toNat_toInt, hz]; rfl
  have hneg : ¬ z < 0 := by
    rw [Int32.lt_iff_toInt_lt, hz]
    have : (0 : Int32).toInt = 0 := rfl
    omega
  obtain ⟨T', h', cA, X', e', E', A', O', st'⟩ := newR X K.hx K.hZ K.hown w1 w2 eT (g := mkF m pc Ls (.int z :: St)) rfl (hb K.hby hd) rfl hneg (cap := cap) (by omega) hb8 hc hl
  refine OGo.st st' (hr T' h' _ rfl X' e' E' ⟨_, A', (sz_new _ _ _).trans e1, ?_, fun j hj => ?_, fun j _ => rfl⟩ ⟨_, A'.1, O'⟩)
  · have := (rng32 z).2
    omega
  · simp [newA, e1, hj, defaultValue]
theorem o_new (X : Stand p l e R s m args below meth c T locs cells slots) (K : OCx p s m meth c Z own nm bytes maxL ret) {C : String} {index k : Nat} (hd : decode bytes pc = .ok (.new index, 3)) (pc' : Nat) (hp : pc + 3 = pc') (w : (Jvm.Cond.classLink own index C).before a0 Z = true) (wi : (Jvm.Cond.instantiable C k).before a0 Z = true) (wz : (Jvm.Cond.initialized C).before a0 Z = true) (eT : T.heap = h) (hc : cells + 1 ≤ R.cells) (hl : slots + k ≤ R.slots)
    (hr : ∀ T' h' a, a = h.size → Stand p l e R s m args below meth c T' locs (cells + 1) (slots + k) → T'.heap = h' → Ext h h' → Exa Z h' a C → (∀ {O nm d : String} {ty : FieldType}, Laid Z a0 C O nm d → parseFieldDescriptor d = some ty → Fld Z h' a O nm d (defaultValue ty)) → OGo p e below Fn n0 Q (T'.setTop (mkF m pc' Ls (.ref a :: St)))) : OGo p e below Fn n0 Q (T.setTop (mkF m pc Ls St)) := by
  subst hp
  obtain ⟨T', h', X', e', E', A', D', -, st'⟩ := newO X K.hx K.hZ K.hown w wi wz eT (g := mkF m pc Ls St) rfl (hb K.hby hd) hc hl
  exact OGo.st st' (hr T' h' _ rfl X' e' E' A' D')
theorem o_initO (X : Stand p l e R s m args below meth c T locs cells slots) (K : OCx p s m meth c Z own nm bytes maxL ret) {idx : Nat} {a : Addr} (hd : decode bytes pc = .ok (.invokespecial idx, 3)) (pc' : Nat) (hp : pc + 3 = pc') (w1 : (Jvm.Cond.methodLink own idx Lib.objectInit).before a0 Z = true) (w2 : (Jvm.Cond.instanceMethod Lib.objectInit).before a0 Z = true) (w3 : (Jvm.Cond.code Lib.objectInit ⟨#[0xb1]⟩ 1 none).before a0 Z = true) (eT : T.heap = h) (hsz : Ls.size = maxL)
    (hf : 1 ≤ R.frames) (W : Nat) (hW : (St.map fun v => v.category).sum ≤ W) (hl : W + 12 ≤ R.locals) (hr : ∀ T', Stand p l e R s m args below meth c T' locs cells slots → T'.heap = h → OGo p e below Fn n0 Q (T'.setTop (mkF m pc' Ls St))) : OGo p e below Fn n0 Q (T.setTop (mkF m pc Ls (.ref a :: St))) := by
  subst hp
  obtain ⟨T', X', e', st'⟩ := initO X K.hx K.hZ K.hown w1 w2 w3 eT (g := mkF m pc Ls (.ref a :: St)) rfl (by rw [K.hml]; exact hsz) rfl (hb K.hby hd) hf (W := W) (by show 2 * 0 + _ ≤ _; omega) hl
  exact OGo.st st' (hr T' X' e')
theorem o_getfield (X : Stand p l e R s m args below meth c T locs cells slots) (K : OCx p s m meth c Z own nm bytes maxL ret) {index : Nat} {R0 O n d host : String} {a : Addr} {v : Value} (hd : decode bytes pc = .ok (.getfield index, 3)) (pc' : Nat) (hp : pc + 3 = pc') (w : (Jvm.Cond.fieldLink own index R0 n d).before a0 Z = true ∨ (Jvm.Cond.fieldLinkNest own index R0 n d host).before a0 Z = true) (via : Via Z R0 O n d) (eT : T.heap = h) (F : Fld Z h a O n d v)
    (hr : ∀ T', Stand p l e R s m args below meth c T' locs cells slots → T'.heap = h → OGo p e below Fn n0 Q (T'.setTop (mkF m pc' Ls (v :: St)))) : OGo p e below Fn n0 Q (T.setTop (mkF m pc Ls (.ref a :: St))) := by
  subst hp
  obtain ⟨T', X', e', st'⟩ := getF X K.hx K.hZ K.hown w via eT F (g := mkF m pc Ls (.ref a :: St)) rfl rfl (hb K.hby hd)
  exact OGo.st st' (hr T' X' e')
theorem o_getstatic (X : Stand p l e R s m args below meth c T locs cells slots) (K : OCx p s m meth c Z own nm bytes maxL ret) {index : Nat} {R0 O n d host : String} {v : Value} (hd : decode bytes pc = .ok (.getstatic index, 3)) (pc' : Nat) (hp : pc + 3 = pc') (w : (Jvm.Cond.fieldLink own index R0 n d).before a0 Z = true ∨ (Jvm.Cond.fieldLinkNest own index R0 n d host).before a0 Z = true) (via : Via Z R0 O n d) (eT : T.heap = h) (F : Sta Z h O n d v)
    (hr : ∀ T', Stand p l e R s m args below meth c T' locs cells slots → T'.heap = h → OGo p e below Fn n0 Q (T'.setTop (mkF m pc' Ls (v :: St)))) : OGo p e below Fn n0 Q (T.setTop (mkF m pc Ls St)) := by
  subst hp
  obtain ⟨T', X', e', st'⟩ := getS2 X K.hx K.hZ K.hown w via eT F (g := mkF m pc Ls St) rfl (hb K.hby hd)
  exact OGo.st st' (hr T' X' e')
theorem o_putfield (X : Stand p l e R s m args below meth c T locs cells slots) (K : OCx p s m meth c Z own nm bytes maxL ret) {index kk : Nat} {R0 O n d host C : String} {a : Addr} {v old : Value} {ty : FieldType} (hd : decode bytes pc = .ok (.putfield index, 3)) (pc' : Nat) (hp : pc + 3 = pc') (w : (Jvm.Cond.fieldLink own index R0 n d).before a0 Z = true ∨ (Jvm.Cond.fieldLinkNest own index R0 n d host).before a0 Z = true) (via : Via Z R0 O n d) (eT : T.heap = h) (F : Fld Z h a O n d old) (E : Exa Z h a C)
    (L : (Jvm.Cond.lays C O n d).before a0 Z = true ∨ ((Jvm.Cond.laysFinal C O n d).before a0 Z = true ∧ own = O ∧ nm = "<init>")) (wi : (Jvm.Cond.instantiable C kk).before a0 Z = true) (hty : parseFieldDescriptor d = some ty) (hn : narrow ty v = v) (hf : fits ty v = true) (N : Fr n0 locs) (ge : n0 ≤ a)
    (hr : ∀ T' h' locs', Stand p l e R s m args below meth c T' locs' cells slots → T'.heap = h' → Wr h h' a (Jvm.RoadKit.slotOf Z O n d) v → Fr n0 locs' → OGo p e below Fn n0 Q (T'.setTop (mkF m pc' Ls St))) : OGo p e below Fn n0 Q (T.setTop (mkF m pc Ls (v :: .ref a :: St))) := by
  subst hp
  obtain ⟨T', h', X', e', W', st'⟩ := putF X K.hx K.hZ K.hown w via eT F E (L.imp id fun q => ⟨q.1, q.2.1, K.hnm.trans q.2.2⟩) wi hty hn hf (g := mkF m pc Ls (v :: .ref a :: St)) rfl rfl (hb K.hby hd)
  exact OGo.st st' (hr T' h' _ X' e' W' (Fr.snoc X' N ge))
theorem o_putfieldN (X : Stand p l e R s m args below meth c T locs cells slots) (K : OCx p s m meth c Z own nm bytes maxL ret) {index kk : Nat} {R0 O n d C : String} {a : Addr} {v v' old : Value} {ty : FieldType} (hd : decode bytes pc = .ok (.putfield index, 3)) (pc' : Nat) (hp : pc + 3 = pc') (w : (Jvm.Cond.fieldLink own index R0 n d).before a0 Z = true) (via : Via Z R0 O n d) (eT : T.heap = h) (F : Fld Z h a O n d old) (E : Exa Z h a C)
    (L : (Jvm.Cond.lays C O n d).before a0 Z = true ∨ ((Jvm.Cond.laysFinal C O n d).before a0 Z = true ∧ own = O ∧ nm = "<init>")) (wi : (Jvm.Cond.instantiable C kk).before a0 Z = true) (hty : parseFieldDescriptor d = some ty) (hn : narrow ty v = v') (hf : fits ty v' = true) (N : Fr n0 locs) (ge : n0 ≤ a)
    (hr : ∀ T' h' locs', Stand p l e R s m args below meth c T' locs' cells slots → T'.heap = h' → Wr h h' a (Jvm.RoadKit.slotOf Z O n d) v' → Fr n0 locs' → OGo p e below Fn n0 Q (T'.setTop (mkF m pc' Ls St))) : OGo p e below Fn n0 Q (T.setTop (mkF m pc Ls (v :: .ref a :: St))) := by
  subst hp
  obtain ⟨T', h', X', e', W', st'⟩ := putFN X K.hx K.hZ K.hown w via eT F E (L.imp id fun q => ⟨q.1, q.2.1, K.hnm.trans q.2.2⟩) wi hty hn hf (g := mkF m pc Ls (v :: .ref a :: St)) rfl rfl (hb K.hby hd)
  exact OGo.st st' (hr T' h' _ X' e' W' (Fr.snoc X' N ge))
theorem o_invokestatic (X : Stand p l e R s m args below meth c T locs cells slots) (K : OCx p s m meth c Z own nm bytes maxL ret) {index : Nat} {y : MethodName} {bytes' : ByteArray} {maxL' : Nat} {ret' : Option FieldType} {rm : Room} {Q' : Option Value → Heap → Prop} (hd : decode bytes pc = .ok (.invokestatic index, 3)) (pc' : Nat) (hp : pc + 3 = pc') (w1 : (Jvm.Cond.methodLink own index y).before a0 Z = true) (w2 : (Jvm.Cond.static y).before a0 Z = true) (w3 : (Jvm.Cond.initialized y.cls).before a0 Z = true) (w4 : (Jvm.Cond.code y bytes' maxL' ret').before a0 Z = true) (hy : y.cls ≠ "java/lang/invoke/MethodHandle" ∧ y.cls ≠ "java/lang/invoke/VarHandle")
    (argsL rest : List Value) (hst : St = argsL.reverse ++ rest) (con : OCon l Z n0 y bytes' maxL' ret' rm argsL.toArray h Q') (eT : T.heap = h) (hsz : Ls.size = maxL) (hlen : ∀ sig, parseMethodDescriptor y.desc = some sig → argsL.length = sig.parameters.length) (hf : rm.frames + 1 ≤ R.frames) (W : Nat) (hW : (rest.map fun v => v.category).sum ≤ W) (hlo : W + (maxL' + 11) + rm.locals ≤ R.locals) (hc : cells + rm.cells ≤ R.cells) (hs : slots + rm.slots ≤ R.slots) (N : Fr n0 locs)
    (hr : ∀ v T' h' locs', Stand p l e R s m args below meth c T' locs' (cells + rm.cells) (slots + rm.slots) → T'.heap = h' → Q' v h' → Fr n0 locs' → OGo p e below Fn n0 Q (T'.setTop (mkF m pc' Ls (v.toList ++ rest)))) : OGo p e below Fn n0 Q (T.setTop (mkF m pc Ls St)) := by
  subst hp hst
  obtain ⟨v, vm₁, ⟨T', L', k', n'⟩, -, X', ⟨Lc, ⟨hQ, hF⟩, l1, y1, z1⟩, st⟩ := Jvm.LawKit.callS X K.hx K.hown (mvT K.hZ w1) (mvT K.hZ w2) (mvT K.hZ w3) (mvT K.hZ w4) hy (backOf (W := W) (Q := fun v h L => Q' v h ∧ Fr n0 L) (con []) K.hZ w4 w3 hf hlo) (g := mkF m pc Ls (argsL.reverse ++ rest)) rfl (by rw [K.hml]; exact hsz) (argsL := argsL) (rest := rest) hlen rfl (by show 2 * 0 + _ ≤ _; omega) (hb K.hby hd) (fun _ _ => ⟨rfl, eT, hc, hs⟩)
  dsimp only [Pt.U, Pt.locs, Pt.cells, Pt.slots] at X' l1 y1 z1 st hQ
  subst l1 y1 z1
  exact OGo.st st (hr v T' _ _ X' rfl hQ (Fr.app N hF))
theorem o_invokespecial (X : Stand p l e R s m args below meth c T locs cells slots) (K : OCx p s m meth c Z own nm bytes maxL ret) {index : Nat} {y : MethodName} {bytes' : ByteArray} {maxL' : Nat} {rm : Room} {Q' : Option Value → Heap → Prop} {a : Addr} (hd : decode bytes pc = .ok (.invokespecial index, 3)) (pc' : Nat) (hp : pc + 3 = pc') (hy1 : y.name = "<init>") (w1 : (Jvm.Cond.methodLink own index y).before a0 Z = true) (w2 : (Jvm.Cond.instanceMethod y).before a0 Z = true) (w3 : (Jvm.Cond.initialized y.cls).before a0 Z = true) (w4 : (Jvm.Cond.code y bytes' maxL' none).before a0 Z = true) (hy : y.cls ≠ "java/lang/invoke/MethodHandle" ∧ y.cls ≠ "java/lang/invoke/VarHandle")
    (argsL rest : List Value) (hst : St = argsL.reverse ++ .ref a :: rest) (con : OCon l Z n0 y bytes' maxL' none rm (.ref a :: argsL).toArray h Q') (eT : T.heap = h) (hsz : Ls.size = maxL) (hlen : ∀ sig, parseMethodDescriptor y.desc = some sig → argsL.length = sig.parameters.length) (hf : rm.frames + 1 ≤ R.frames) (W : Nat) (hW : (rest.map fun v => v.category).sum ≤ W) (hlo : W + (maxL' + 11) + rm.locals ≤ R.locals) (hc : cells + rm.cells ≤ R.cells) (hs : slots + rm.slots ≤ R.slots) (N : Fr n0 locs)
    (hr : ∀ v T' h' locs', Stand p l e R s m args below meth c T' locs' (cells + rm.cells) (slots + rm.slots) → T'.heap = h' → Q' v h' → Fr n0 locs' → OGo p e below Fn n0 Q (T'.setTop (mkF m pc' Ls (v.toList ++ rest)))) : OGo p e below Fn n0 Q (T.setTop (mkF m pc Ls St)) := by
  subst hp hst
  obtain ⟨v, vm₁, ⟨T', L', k', n'⟩, -, X', ⟨Lc, ⟨hQ, hF⟩, l1, y1, z1⟩, st⟩ := X.specialBack K.hx hy1 K.hown (mvT K.hZ w1) (mvT K.hZ w2) (mvT K.hZ w4) hy (backOf (W := W) (Q := fun v h L => Q' v h ∧ Fr n0 L) (con []) K.hZ w4 w3 hf hlo) (g := mkF m pc Ls (argsL.reverse ++ .ref a :: rest)) rfl (by rw [K.hml]; exact hsz) (Steps.refl _) (argsL := argsL) (rest := rest) hlen rfl (by show 2 * 0 + _ ≤ _; omega) (hb K.hby hd) (fun _ _ => ⟨rfl, eT, hc, hs⟩)
  dsimp only [Pt.U, Pt.locs, Pt.cells, Pt.slots] at X' l1 y1 z1 st hQ
  subst l1 y1 z1
  exact OGo.st (fun t k => st.trans k) (hr v T' _ _ X' rfl hQ (Fr.app N hF))
theorem o_invokevirtual (X : Stand p l e R s m args below meth c T locs cells slots) (K : OCx p s m meth c Z own nm bytes maxL ret) {index : Nat} {y : MethodName} {bytes' : ByteArray} {maxL' : Nat} {ret' : Option FieldType} {rm : Room} {Q' : Option Value → Heap → Prop} {C : String} {a : Addr} (hd : decode bytes pc = .ok (.invokevirtual index, 3)) (pc' : Nat) (hp : pc + 3 = pc') (w1 : (Jvm.Cond.methodLink own index y).before a0 Z = true) (w2 : (Jvm.Cond.declares y).before a0 Z = true) (wsel : (Jvm.Cond.selects C y y).before a0 Z = true) (w5 : (Jvm.Cond.instanceMethod y).before a0 Z = true) (w3 : (Jvm.Cond.initialized y.cls).before a0 Z = true) (w4 : (Jvm.Cond.code y bytes' maxL' ret').before a0 Z = true) (hy : y.cls ≠ "java/lang/invoke/MethodHandle" ∧ y.cls ≠ "java/lang/invoke/VarHandle")
    (E : Exa Z h a C) (argsL rest : List Value) (hst : St = argsL.reverse ++ .ref a :: rest) (con : OCon l Z n0 y bytes' maxL' ret' rm (.ref a :: argsL).toArray h Q') (eT : T.heap = h) (hsz : Ls.size = maxL) (hlen : ∀ sig, parseMethodDescriptor y.desc = some sig → argsL.length = sig.parameters.length) (hf : rm.frames + 1 ≤ R.frames) (W : Nat) (hW : (rest.map fun v => v.category).sum ≤ W) (hlo : W + (maxL' + 11) + rm.locals ≤ R.locals) (hc : cells + rm.cells ≤ R.cells) (hs : slots + rm.slots ≤ R.slots) (N : Fr n0 locs)
    (hr : ∀ v T' h' locs', Stand p l e R s m args below meth c T' locs' (cells + rm.cells) (slots + rm.slots) → T'.heap = h' → Q' v h' → Fr n0 locs' → OGo p e below Fn n0 Q (T'.setTop (mkF m pc' Ls (v.toList ++ rest)))) : OGo p e below Fn n0 Q (T.setTop (mkF m pc Ls St)) := by
  subst hp hst
  obtain ⟨cq, kq, qa, qb, qc⟩ := isOf K.hZ eT E
  obtain ⟨v, vm₁, ⟨T', L', k', n'⟩, -, X', ⟨Lc, ⟨hQ, hF⟩, l1, y1, z1⟩, st⟩ := X.virtualBack K.hx K.hown (mvT K.hZ w1) (mvT K.hZ w2) (notFace_of_selects (args := #[]) (mvT K.hZ wsel)) (mvT K.hZ wsel) (mvT K.hZ w5) hy (backOf (W := W) (Q := fun v h L => Q' v h ∧ Fr n0 L) (con []) K.hZ w4 w3 hf hlo) qa qc (g := mkF m pc Ls (argsL.reverse ++ .ref a :: rest)) rfl (by rw [K.hml]; exact hsz) (Steps.refl _) (argsL := argsL) (rest := rest) hlen rfl (by show 2 * 0 + _ ≤ _; omega) (hb K.hby hd) (fun _ _ => ⟨rfl, eT, hc, hs⟩)
  dsimp only [Pt.U, Pt.locs, Pt.cells, Pt.slots] at X' l1 y1 z1 st hQ
  subst l1 y1 z1
  exact OGo.st (fun t k => st.trans k) (hr v T' _ _ X' rfl hQ (Fr.app N hF))
theorem o_nb (x : Int32) : nar .byte (x.toInt8.toInt32) = x.toInt8.toInt32 := by
  show x.toInt8.toInt32.toInt8.toInt32 = _
  simp
theorem o_join {α : Type} (F : α → State) (P : α → Prop) {S : State} (hgo : (∀ b, P b → OGo p e below Fn n0 Q (F b)) → OGo p e below Fn n0 Q S) (hrest : ∀ b, P b → OGo p e below Fn n0 Q (F b)) : OGo p e below Fn n0 Q S := hgo hrest
theorem o_ind {α : Type} (F : α → State) (Inv : Nat → α → Prop) (hz : ∀ a, Inv 0 a → OGo p e below Fn n0 Q (F a)) (hs : ∀ d, (∀ a, Inv d a → OGo p e below Fn n0 Q (F a)) → ∀ a, Inv (d + 1) a → OGo p e below Fn n0 Q (F a)) (d : Nat) (a : α) (i : Inv d a) : OGo p e below Fn n0 Q (F a) := by
  induction d generalizing a with
  | zero => exact hz a i
  | succ d ih => exact hs d ih a i
theorem o_sta_keep {C n d : String} {v : Value} {ws : List Addr} (F : Sta Z h C n d v) (k : Keep h h' ws) (q : ∀ x ∈ ws, ∀ cell : Cell, h[x]? = some cell → cell.vm.isStatics = false) : Sta Z h' C n d v := by
  obtain ⟨cf, i, kk, f, st, cell, h1, h2, h3, h4, h5, h6, h7⟩ := F
  refine ⟨cf, i, kk, f, st, cell, h1, h2, h3, h4, k.2.1 _ _ h5 (fun z => ?_), h6, h7⟩
  rw [q st z cell h5] at h6
  cases h6
theorem o_nat {n : Nat} (h : n < 2147483648) : (n.toInt32).toNatClampNeg = n := by
  rw [← Int32.toNat_toInt, o_len h]
  rfl
theorem o_getD {n i : Nat} {f : Nat → Value} {d : Value} (h : i < n) : ((List.range n).map f).getD i d = f i := by
  simp [List.getD_eq_getElem?_getD, h]
theorem OAr.arv {a : Addr} {ty : FieldType} {n : Nat} {f : Nat → Value} (A : OAr Z h a ty n f) (dv : Value) : ∃ k, Arv Z h a k ty n.toInt32 ((List.range n).map f) dv := by
  obtain ⟨cl, A, r1, r2, r3, r4⟩ := A
  refine ⟨cl.cls, cl, A, rfl, by rw [r1, o_nat r2], ?_, fun k hk => ?_, fun i hi => ?_⟩
  · rw [Int32.lt_iff_toInt_lt, o_len r2]
    have : (0 : Int32).toInt = 0 := rfl
    omega
  · rw [o_getD (by omega)]
    exact r3 k (by omega)
  · rw [o_getD (by omega)]
    exact r4 i (by omega)
theorem OAr.of_arv {a : Addr} {k : ClassId} {ty : FieldType} {n : Nat} {vs : List Value} {dv : Value} {f : Nat → Value} (hn : n < 2147483648) (A : Arv Z h a k ty n.toInt32 vs dv) (q : ∀ j, j < n → vs.getD j dv = f j) : OAr Z h a ty n f := by
  obtain ⟨cl, A, -, r1, -, r3, r4⟩ := A
  rw [o_nat hn] at r1
  refine ⟨cl, A, r1, hn, fun j hj => ?_, fun j hj => ?_⟩
  · rw [← q j hj]
    exact r3 j (by omega)
  · rw [← q j hj]
    exact r4 j (by omega)
theorem OAr.of_arh {a : Addr} {k : ClassId} {ty : FieldType} {n : Nat} {vs : List Value} {dv : Value} {f : Nat → Value} (hn : n < 2147483648) (A : Arh Z h a k ty n.toInt32 [] vs dv) (q : ∀ j, j < n → vs.getD j dv = f j) : OAr Z h a ty n f := by
  obtain ⟨cl, A, -, r1, -, r3, r4⟩ := A
  rw [o_nat hn] at r1
  refine ⟨cl, A, r1, hn, fun j hj => ?_, fun j hj => ?_⟩
  · rw [← q j hj]
    exact r3 j (by omega)
  · rw [← q j hj]
    exact r4 j (by omega)
theorem o_splice {n' i j k : Nat} {f g : Nat → Value} {dd : Value} (h5 : j + k ≤ n') (q : Nat) (hq : q < n') : (((List.range n').map g).take j ++ (List.range k).map (fun z => f (i + z)) ++ ((List.range n').map g).drop (j + k)).getD q dd = if j ≤ q ∧ q < j + k then f (i + (q - j)) else g q := by
  rw [List.getD_eq_getElem?_getD]
  by_cases h1 : q < j
  · rw [if_neg (by omega), List.append_assoc, List.getElem?_append_left (by simp; omega)]
    simp [List.getElem?_take, h1, hq]
  · by_cases h2 : q < j + k
    · rw [if_pos ⟨by omega, h2⟩, List.append_assoc, List.getElem?_append_right (by simp; omega), List.getElem?_append_left (by simp; omega)]
      have e : min j n' = j := by omega
      have h3 : q - j < k := by omega
      simp [e, h3]
    · rw [if_neg (by omega), List.getElem?_append_right (by simp; omega)]
      have e : min j n' = j := by omega
      have e2 : j + k + (q - (j + k)) = q := by omega
      simp [List.getElem?_drop, e, e2, hq]
theorem o_arraycopy (X : Stand p l e R s m args below meth c T locs cells slots) (K : OCx p s m meth c Z own nm bytes maxL ret) {index : Nat} {a b : Addr} {n n' : Nat} {f g : Nat → Value} {ty : FieldType} {sp dp nn : Int32} {i j k : Nat} (hd : decode bytes pc = .ok (.invokestatic index, 3)) (pc' : Nat) (hp : pc + 3 = pc') (w1 : (Jvm.Cond.methodLink own index Jvm.Stand.acN).before a0 Z = true) (w2 : (Jvm.Cond.native Jvm.Stand.acN).before a0 Z = true) (w3 : (Jvm.Cond.static Jvm.Stand.acN).before a0 Z = true) (w4 : (Jvm.Cond.initialized "java/lang/System").before a0 Z = true) (eT : T.heap = h)
    (A : OAr Z h a ty n f) (B : OAr Z h b ty n' g) (hty : refKind ty = false) (h1 : sp.toInt = (i : Int)) (h2 : dp.toInt = (j : Int)) (h3 : nn.toInt = (k : Int)) (h4 : i + k ≤ n) (h5 : j + k ≤ n') (N : Fr n0 locs) (ge : n0 ≤ b) (hsz : Ls.size = maxL) (hf : 1 ≤ R.frames) (W : Nat) (hW : (St.map fun v => v.category).sum ≤ W) (hlo : W + (nativeFrameWords "java/lang/System" "arraycopy" 5 + 11) ≤ R.locals)
    (hr : ∀ T' h' locs', Stand p l e R s m args below meth c T' locs' cells slots → T'.heap = h' → Keep h h' [b] → OAr Z h' b ty n' (fun q => if j ≤ q ∧ q < j + k then f (i + (q - j)) else g q) → Fr n0 locs' → OGo p e below Fn n0 Q (T'.setTop (mkF m pc' Ls St))) : OGo p e below Fn n0 Q (T.setTop (mkF m pc Ls (.int nn :: .int dp :: .ref b :: .int sp :: .ref a :: St))) := by
  subst hp
  have c1 : sp.toNatClampNeg = i := by rw [← Int32.toNat_toInt, h1]; rfl
  have c2 : dp.toNatClampNeg = j := by rw [← Int32.toNat_toInt, h2]; rfl
  have c3 : nn.toNatClampNeg = k := by rw [← Int32.toNat_toInt, h3]; rfl
  have z0 : (0 : Int32).toInt = 0 := rfl
  have la := A.len
  have lb := B.len
  obtain ⟨ka, A'⟩ := A.arv .null
  obtain ⟨kb, B'⟩ := B.arv .null
  obtain ⟨T', h', L, X', e', N', K', C', st'⟩ := cpA X K.hx K.hZ K.hown w1 w2 w3 w4 eT (sp := sp) (dp := dp) (nn := nn) (us := (List.range k).map (fun z => f (i + z))) A' B' (Or.inl ⟨rfl, hty⟩) (by rw [Int32.lt_iff_toInt_lt, h1]; omega) (by rw [Int32.lt_iff_toInt_lt, h2]; omega) (by rw [Int32.lt_iff_toInt_lt, h3]; omega) (by rw [c1, c3, o_nat la]; exact h4) (by rw [c2, c3, o_nat lb]; exact h5)
    (by rw [c1, c3]; exact List.map_congr_left fun z hz => (o_getD (by have := List.mem_range.mp hz; omega)).symm) (by rw [c2, c3]; simp; exact h5) N ge (g := mkF m pc Ls (.int nn :: .int dp :: .ref b :: .int sp :: .ref a :: St)) rfl (by rw [K.hml]; exact hsz) rfl (hb K.hby hd) hf (W := W) (by show 2 * 0 + _ ≤ _; omega) hlo
  rw [c2, c3] at C'
  exact OGo.st st' (hr T' h' L X' e' K' (OAr.of_arv lb C' (fun q hq => o_splice h5 q hq)) N')
theorem o_clone (X : Stand p l e R s m args below meth c T locs cells slots) (K : OCx p s m meth c Z own nm bytes maxL ret) {index : Nat} {ad : String} {a : Addr} {n : Nat} {f : Nat → Value} {ty : FieldType} (hd : decode bytes pc = .ok (.invokevirtual index, 3)) (pc' : Nat) (hp : pc + 3 = pc') (w1 : (Jvm.Cond.methodLink own index ⟨ad, "clone", "()Ljava/lang/Object;"⟩).before a0 Z = true) (w2 : (Jvm.Cond.sameMethod ad "java/lang/Object" "clone" "()Ljava/lang/Object;").before a0 Z = true) (w3 : (Jvm.Cond.native ⟨"java/lang/Object", "clone", "()Ljava/lang/Object;"⟩).before a0 Z = true)
    (w4 : (Jvm.Cond.instanceMethod ⟨"java/lang/Object", "clone", "()Ljava/lang/Object;"⟩).before a0 Z = true) (w5 : (Jvm.Cond.selects ad ⟨ad, "clone", "()Ljava/lang/Object;"⟩ ⟨"java/lang/Object", "clone", "()Ljava/lang/Object;"⟩).before a0 Z = true) (w6 : (Jvm.Cond.castable ad "java/lang/Cloneable").before a0 Z = true)
    (eT : T.heap = h) (A : OAr Z h a ty n f) (E : Exa Z h a ad) (hsz : Ls.size = maxL) (hf : 1 ≤ R.frames) (W cap : Nat) (hW : (St.map fun v => v.category).sum ≤ W) (hl : W + 14 ≤ R.locals) (hcap : n ≤ cap) (hc : cells + 1 ≤ R.cells) (hsl : slots + cap ≤ R.slots)
    (hr : ∀ T' h' b, b = h.size → Stand p l e R s m args below meth c T' locs (cells + 1) (slots + cap) → T'.heap = h' → Ext h h' → OAr Z h' b ty n f → Exa Z h' b ad → OGo p e below Fn n0 Q (T'.setTop (mkF m pc' Ls (.ref b :: St)))) : OGo p e below Fn n0 Q (T.setTop (mkF m pc Ls (.ref a :: St))) := by
  subst hp
  have la := A.len
  obtain ⟨ka, A'⟩ := A.arv .null
  obtain ⟨T', h', X', e', E', C', D', st'⟩ := cloneH X K.hx K.hZ K.hown w1 w2 w3 w4 w5 w6 eT A'.arh E (g := mkF m pc Ls (.ref a :: St)) rfl (by rw [K.hml]; exact hsz) rfl (hb K.hby hd) hf (W := W) (cap := cap) (by show 2 * 0 + _ ≤ _; omega) hl (by rw [o_nat la]; exact hcap) hc hsl
  exact OGo.st st' (hr T' h' _ rfl X' e' E' (OAr.of_arh la C' (fun q hq => o_getD hq)) D')
theorem o_checkcast (X : Stand p l e R s m args below meth c T locs cells slots) (K : OCx p s m meth c Z own nm bytes maxL ret) {index : Nat} {C : String} {a : Addr} (hd : decode bytes pc = .ok (.checkcast index, 3)) (pc' : Nat) (hp : pc + 3 = pc') (w : (Jvm.Cond.classLink own index C).before a0 Z = true) (eT : T.heap = h) (F : Ins Z h a C true)
    (hr : ∀ T', Stand p l e R s m args below meth c T' locs cells slots → T'.heap = h → OGo p e below Fn n0 Q (T'.setTop (mkF m pc' Ls (.ref a :: St)))) : OGo p e below Fn n0 Q (T.setTop (mkF m pc Ls (.ref a :: St))) := by
  subst hp
  obtain ⟨T', X', e', st'⟩ := castY X K.hx K.hZ K.hown w eT F (g := mkF m pc Ls (.ref a :: St)) rfl rfl (hb K.hby hd)
  exact OGo.st st' (hr T' X' e')
theorem o_invokeprivate (X : Stand p l e R s m args below meth c T locs cells slots) (K : OCx p s m meth c Z own nm bytes maxL ret) {index : Nat} {y : MethodName} {bytes' : ByteArray} {maxL' : Nat} {ret' : Option FieldType} {rm : Room} {Q' : Option Value → Heap → Prop} {a : Addr} {C : String} (hd : decode bytes pc = .ok (.invokevirtual index, 3)) (pc' : Nat) (hp : pc + 3 = pc') (w1 : (Jvm.Cond.methodLink own index y).before a0 Z = true) (w2 : (Jvm.Cond.instanceMethod y).before a0 Z = true) (wp : (Jvm.Cond.privateMethod y).before a0 Z = true) (w3 : (Jvm.Cond.initialized y.cls).before a0 Z = true) (w4 : (Jvm.Cond.code y bytes' maxL' ret').before a0 Z = true) (hy : y.cls ≠ "java/lang/invoke/MethodHandle" ∧ y.cls ≠ "java/lang/invoke/VarHandle") (wi : ∃ k, (Jvm.Cond.instantiable y.cls k).before a0 Z = true)
    (E : Exa Z h a C) (argsL rest : List Value) (hst : St = argsL.reverse ++ .ref a :: rest) (con : OCon l Z n0 y bytes' maxL' ret' rm (.ref a :: argsL).toArray h Q') (eT : T.heap = h) (hsz : Ls.size = maxL) (hlen : ∀ sig, parseMethodDescriptor y.desc = some sig → argsL.length = sig.parameters.length) (hf : rm.frames + 1 ≤ R.frames) (W : Nat) (hW : (rest.map fun v => v.category).sum ≤ W) (hlo : W + (maxL' + 11) + rm.locals ≤ R.locals) (hc : cells + rm.cells ≤ R.cells) (hs : slots + rm.slots ≤ R.slots) (N : Fr n0 locs)
    (hr : ∀ v T' h' locs', Stand p l e R s m args below meth c T' locs' (cells + rm.cells) (slots + rm.slots) → T'.heap = h' → Q' v h' → Fr n0 locs' → OGo p e below Fn n0 Q (T'.setTop (mkF m pc' Ls (v.toList ++ rest)))) : OGo p e below Fn n0 Q (T.setTop (mkF m pc Ls St)) := by
  subst hp hst
  obtain ⟨cell, hcell, hobj⟩ := E.cell
  obtain ⟨kk, wi⟩ := wi
  have hpriv : s.PrivateAt y := Cond.privateMethod_at (mvP K.hZ wp (args := #[]))
  have wi' : (Jvm.Cond.instantiable y.cls kk).before args s = true := mvT K.hZ wi
  obtain ⟨cI, kI, i1, i2, i3, i4⟩ := Cond.instantiable_spec wi'
  have hsel : (Jvm.Cond.selects y.cls y y).before args s = true := selects_self_of_private i1 i2 (Bool.or_eq_false_iff.mp i4.1).1 hpriv (mvT K.hZ w2) hy
  obtain ⟨v, vm₁, ⟨T', L', k', n'⟩, -, X', ⟨Lc, ⟨hQ, hF⟩, l1, y1, z1⟩, st⟩ := X.privateBack K.hx K.hown (mvT K.hZ w1) (mvT K.hZ w2) hsel hpriv (mvT K.hZ w4) hy (backOf (W := W) (Q := fun v h L => Q' v h ∧ Fr n0 L) (con []) K.hZ w4 w3 hf hlo) (g := mkF m pc Ls (argsL.reverse ++ .ref a :: rest)) rfl (by rw [K.hml]; exact hsz) (Steps.refl _) (a := a) (by rw [eT]; exact hcell) hobj (argsL := argsL) (rest := rest) hlen rfl (by show 2 * 0 + _ ≤ _; omega) (hb K.hby hd) (fun _ _ => ⟨rfl, eT, hc, hs⟩)
  dsimp only [Pt.U, Pt.locs, Pt.cells, Pt.slots] at X' l1 y1 z1 st hQ
  subst l1 y1 z1
  exact OGo.st (fun t k => st.trans k) (hr v T' _ _ X' rfl hQ (Fr.app N hF))
theorem o_fieldReady {vm : Vm} (hZ : Z.Warmed39 vm) {cur c : ClassId} {index : Nat} {f : Field} (r : Z.vm.fieldReady cur index c f) : vm.fieldReady cur index c f := by
  obtain ⟨k, i, kc, h1, h2, h3, h4⟩ := r
  obtain ⟨-, -, -, hk⟩ := hZ
  obtain ⟨k', a1, -, -, a3, -⟩ := hk _ _ h1
  obtain ⟨kc', b1, b2, -, -, -⟩ := hk _ _ h3
  refine ⟨k', i, kc', a1, ?_, b1, by rw [b2]; exact h4⟩
  rcases a3 index with q | ⟨q, -⟩
  · rw [q]; exact h2
  · rw [h2] at q; cases q
theorem o_getfieldR (X : Stand p l e R s m args below meth c T locs cells slots) (K : OCx p s m meth c Z own nm bytes maxL ret) {index : Nat} {O n d : String} {a : Addr} {v : Value} (hd : decode bytes pc = .ok (.getfield index, 3)) (pc' : Nat) (hp : pc + 3 = pc') (w : (Jvm.Cond.fieldRef own index O n d).before a0 Z = true) (eT : T.heap = h) (F : Fld Z h a O n d v) (hr : OGo p e below Fn n0 Q (T.setTop (mkF m pc' Ls (v :: St)))) : OGo p e below Fn n0 Q (T.setTop (mkF m pc Ls (.ref a :: St))) := by
  subst hp
  obtain ⟨cell, cf, k, i, f, h1, h2, h3, h4, -, -, h7⟩ := F
  have hZT : Z.Warmed39 T.vm := wtrans K.hZ X.warmed
  have hownZ : Z.vm.findClass own = some m.cls := by
    have q := K.hown
    have q2 := K.hZ.alike.findClass (name := own)
    rw [← q2]
    exact q
  obtain ⟨c', k', i', f', q1, q2⟩ := Cond.fieldRef_spec hownZ w
  cases q1.symm.trans h2
  have q2 := o_fieldReady hZT q2
  exact OGo.st (fun t k => (X.getfieldR K.hx (g := mkF m pc Ls (.ref a :: St)) rfl q2 h3 rfl (by rw [eT]; exact h1) h4 h7 (hb K.hby hd) (Steps.refl _)).trans k) hr
theorem o_invokespecialN (X : Stand p l e R s m args below meth c T locs cells slots) (K : OCx p s m meth c Z own nm bytes maxL ret) {index : Nat} {y : MethodName} {bytes' : ByteArray} {maxL' : Nat} {rm : Room} {Q' : Option Value → Heap → Prop} {a : Addr} {host : String} (hd : decode bytes pc = .ok (.invokespecial index, 3)) (pc' : Nat) (hp : pc + 3 = pc') (hy1 : y.name = "<init>") (w1 : (Jvm.Cond.methodLinkNest own index y host).before a0 Z = true) (w2 : (Jvm.Cond.instanceMethod y).before a0 Z = true) (w3 : (Jvm.Cond.initialized y.cls).before a0 Z = true) (w4 : (Jvm.Cond.code y bytes' maxL' none).before a0 Z = true) (hy : y.cls ≠ "java/lang/invoke/MethodHandle" ∧ y.cls ≠ "java/lang/invoke/VarHandle")
    (argsL rest : List Value) (hst : St = argsL.reverse ++ .ref a :: rest) (con : OCon l Z n0 y bytes' maxL' none rm (.ref a :: argsL).toArray h Q') (eT : T.heap = h) (hsz : Ls.size = maxL) (hlen : ∀ sig, parseMethodDescriptor y.desc = some sig → argsL.length = sig.parameters.length) (hf : rm.frames + 1 ≤ R.frames) (W : Nat) (hW : (rest.map fun v => v.category).sum ≤ W) (hlo : W + (maxL' + 11) + rm.locals ≤ R.locals) (hc : cells + rm.cells ≤ R.cells) (hs : slots + rm.slots ≤ R.slots) (N : Fr n0 locs)
    (hr : ∀ v T' h' locs', Stand p l e R s m args below meth c T' locs' (cells + rm.cells) (slots + rm.slots) → T'.heap = h' → Q' v h' → Fr n0 locs' → OGo p e below Fn n0 Q (T'.setTop (mkF m pc' Ls (v.toList ++ rest)))) : OGo p e below Fn n0 Q (T.setTop (mkF m pc Ls St)) := by
  subst hp hst
  have wn : (Jvm.Cond.methodLinkNest own index y host).before args s = true := Cond.methodLinkNest_wide K.hZ w1
  obtain ⟨v, vm₁, ⟨T', L', k', n'⟩, -, X', ⟨Lc, ⟨hQ, hF⟩, l1, y1, z1⟩, st⟩ := X.specialBackNest K.hx hy1 K.hown wn (mvT K.hZ w2) (mvT K.hZ w4) hy (backOf (W := W) (Q := fun v h L => Q' v h ∧ Fr n0 L) (con []) K.hZ w4 w3 hf hlo) (g := mkF m pc Ls (argsL.reverse ++ .ref a :: rest)) rfl (by rw [K.hml]; exact hsz) (Steps.refl _) (argsL := argsL) (rest := rest) hlen rfl (by show 2 * 0 + _ ≤ _; omega) (hb K.hby hd) (fun _ _ => ⟨rfl, eT, hc, hs⟩)
  dsimp only [Pt.U, Pt.locs, Pt.cells, Pt.slots] at X' l1 y1 z1 st hQ
  subst l1 y1 z1
  exact OGo.st (fun t k => st.trans k) (hr v T' _ _ X' rfl hQ (Fr.app N hF))
theorem o_plain0 : ∀ x ∈ ([] : List Addr), ∀ cell : Cell, h[x]? = some cell → cell.vm.isStatics = false := by
  intro x hx
  cases hx
theorem o_plainS {a : Addr} {C : String} {ws : List Addr} (E : Exa Z h a C) (r : ∀ x ∈ ws, ∀ cell : Cell, h[x]? = some cell → cell.vm.isStatics = false) : ∀ x ∈ a :: ws, ∀ cell : Cell, h[x]? = some cell → cell.vm.isStatics = false := by
  intro x hx cell hc
  rcases List.mem_cons.mp hx with rfl | hx
  · obtain ⟨c1, -, d1, -, -, d4, -⟩ := E
    cases hc.symm.trans d1
    exact d4
  · exact r x hx cell hc
/-- an array of ten Objects -/
def OAo (Z : State) (h : Heap) (a : Addr) : Prop := (∃ f, OAr Z h a (.object "java/lang/Object") 10 f) ∧ ∃ cl : Cell, h[a]? = some cl ∧ Ovr Z cl.cls "java/lang/Object"
theorem OAo.lt {a : Addr} (A : OAo Z h a) : a < h.size := by obtain ⟨⟨f, A⟩, -⟩ := A; exact A.lt
theorem OAo.ext {a : Addr} (A : OAo Z h a) (E : Ext h h') : OAo Z h' a := by obtain ⟨⟨f, A⟩, cl, q, O⟩ := A; exact ⟨⟨f, A.ext E⟩, cl, E.2 _ _ q, O⟩
theorem OAo.keep {a : Addr} {ws : List Addr} (A : OAo Z h a) (E : Keep h h' ws) (q : a ∉ ws) : OAo Z h' a := by obtain ⟨⟨f, A⟩, cl, q', O⟩ := A; exact ⟨⟨f, A.keep E q⟩, cl, E.2.1 _ _ q' q, O⟩
theorem OAo.other {a b : Addr} {sl : Nat} {v : Value} (A : OAo Z h b) (W : Wr h h' a sl v) (q : b ≠ a) : OAo Z h' b := by
  obtain ⟨⟨f, A⟩, cl, q', O⟩ := A
  obtain ⟨d1, a1, a2, -⟩ := wr_at W q'
  exact ⟨⟨f, A.other W q⟩, d1, a1, by rw [a2]; exact O⟩
theorem OAo.same {a : Addr} {i : Nat} {v : Value} (A : OAo Z h a) (W : Wr h h' a i v) (hv : fits (.object "java/lang/Object") v = true) : OAo Z h' a := by
  obtain ⟨⟨f, A⟩, cl, q', O⟩ := A
  obtain ⟨d1, a1, a2, -⟩ := wr_at W q'
  exact ⟨⟨_, A.same W hv⟩, d1, a1, by rw [a2]; exact O⟩
theorem o_plainA {a : Addr} {ws : List Addr} (A : OAo Z h a) (r : ∀ x ∈ ws, ∀ cell : Cell, h[x]? = some cell → cell.vm.isStatics = false) : ∀ x ∈ a :: ws, ∀ cell : Cell, h[x]? = some cell → cell.vm.isStatics = false := by
  intro x hx cell hc
  rcases List.mem_cons.mp hx with rfl | hx
  · obtain ⟨⟨f, c, B, -⟩, -⟩ := A
    cases hc.symm.trans B.1
    exact Arr.plain B
  · exact r x hx cell hc
theorem o_arraylengthO (X : Stand p l e R s m args below meth c T locs cells slots) (K : OCx p s m meth c Z own nm bytes maxL ret) {a : Addr} (hd : decode bytes pc = .ok (.arraylength, 1)) (pc' : Nat) (hp : pc + 1 = pc') (eT : T.heap = h) (A : OAo Z h a) (hr : OGo p e below Fn n0 Q (T.setTop (mkF m pc' Ls (.int (10 : Int32) :: St)))) : OGo p e below Fn n0 Q (T.setTop (mkF m pc Ls (.ref a :: St))) := by
  obtain ⟨⟨f, A⟩, -⟩ := A
  exact o_arraylength X K hd pc' hp eT A (v := (10 : Int32)) rfl hr
theorem o_aastore (X : Stand p l e R s m args below meth c T locs cells slots) (K : OCx p s m meth c Z own nm bytes maxL ret) {a y : Addr} {i : Nat} {j : Int32} (hd : decode bytes pc = .ok (.aastore, 1)) (pc' : Nat) (hp : pc + 1 = pc') (eT : T.heap = h) (A : OAo Z h a) (I : Ins Z h y "java/lang/Object" true) (hj : j.toInt = (i : Int)) (hi : i < 10) (N : Fr n0 locs) (ge : n0 ≤ a)
    (hr : ∀ T' h' locs', Stand p l e R s m args below meth c T' locs' cells slots → T'.heap = h' → Wr h h' a i (.ref y) → OAo Z h' a → Fr n0 locs' → OGo p e below Fn n0 Q (T'.setTop (mkF m pc' Ls St))) : OGo p e below Fn n0 Q (T.setTop (mkF m pc Ls (.ref y :: .int j :: .ref a :: St))) := by
  subst hp
  obtain ⟨⟨f, B⟩, cl0, g1, O⟩ := id A
  obtain ⟨cl, B, r1, r2, r3, -⟩ := B
  obtain ⟨q1, q2⟩ := o_idx (c := cl) hj hi r1
  cases g1.symm.trans B.1
  obtain ⟨T', h', X', e', W', st'⟩ := stR X K.hx K.hZ eT B (v := .ref y) q1 rfl (Sto.of B O I) (g := mkF m pc Ls (.ref y :: .int j :: .ref a :: St)) rfl rfl (hb K.hby hd)
  have N' := Fr.snoc X' N ge
  rw [q2] at W'
  exact OGo.st st' (hr T' h' _ X' e' W' (A.same W' rfl) N')
theorem o_invokeinterface (X : Stand p l e R s m args below meth c T locs cells slots) (K : OCx p s m meth c Z own nm bytes maxL ret) {index : Nat} {y : MethodName} {bytes' : ByteArray} {maxL' : Nat} {ret' : Option FieldType} {rm : Room} {Q' : Option Value → Heap → Prop} {C : String} {a : Addr} {xi : MethodName} {count : Nat} (hd : decode bytes pc = .ok (.invokeinterface index count, 5)) (pc' : Nat) (hp : pc + 5 = pc') (w1 : (Jvm.Cond.methodLink own index xi).before a0 Z = true) (w2 : (Jvm.Cond.declares xi).before a0 Z = true) (wf : (Jvm.Cond.interfaceMethod xi.cls xi.cls xi.name xi.desc).before a0 Z = true) (wsel : (Jvm.Cond.selects C xi y).before a0 Z = true) (w5 : (Jvm.Cond.instanceMethod y).before a0 Z = true) (wp : (Jvm.Cond.publicMethod y).before a0 Z = true) (wu : (Jvm.Cond.unhidden C xi.name xi.desc).before a0 Z = true) (wca : (Jvm.Cond.castable C xi.cls).before a0 Z = true) (w3 : (Jvm.Cond.initialized y.cls).before a0 Z = true) (w4 : (Jvm.Cond.code y bytes' maxL' ret').before a0 Z = true) (hy : xi.cls ≠ "java/lang/invoke/MethodHandle" ∧ xi.cls ≠ "java/lang/invoke/VarHandle")
    (E : Exa Z h a C) (argsL rest : List Value) (hst : St = argsL.reverse ++ .ref a :: rest) (con : OCon l Z n0 y bytes' maxL' ret' rm (.ref a :: argsL).toArray h Q') (eT : T.heap = h) (hsz : Ls.size = maxL) (hlen : ∀ sig, parseMethodDescriptor xi.desc = some sig → argsL.length = sig.parameters.length) (hf : rm.frames + 1 ≤ R.frames) (W : Nat) (hW : (rest.map fun v => v.category).sum ≤ W) (hlo : W + (maxL' + 11) + rm.locals ≤ R.locals) (hc : cells + rm.cells ≤ R.cells) (hs : slots + rm.slots ≤ R.slots) (N : Fr n0 locs)
    (hr : ∀ v T' h' locs', Stand p l e R s m args below meth c T' locs' (cells + rm.cells) (slots + rm.slots) → T'.heap = h' → Q' v h' → Fr n0 locs' → OGo p e below Fn n0 Q (T'.setTop (mkF m pc' Ls (v.toList ++ rest)))) : OGo p e below Fn n0 Q (T.setTop (mkF m pc Ls St)) := by
  subst hp hst
  obtain ⟨cq, kq, qa, qb, qc⟩ := isOf K.hZ eT E
  obtain ⟨v, vm₁, ⟨T', L', k', n'⟩, -, X', ⟨Lc, ⟨hQ, hF⟩, l1, y1, z1⟩, st⟩ := X.interfaceBack K.hx K.hown (mvT K.hZ w1) (mvT K.hZ w2) (mvT K.hZ wf (by simp [Cond.onTables, Cond.keepsFace, Cond.keeps, Cond.steady, Cond.faceAtom, hy.1, hy.2])) (mvT K.hZ wsel) (mvT K.hZ w5) (mvT K.hZ wp) (mvT K.hZ wu) (mvT K.hZ wca) hy (backOf (W := W) (Q := fun v h L => Q' v h ∧ Fr n0 L) (con []) K.hZ w4 w3 hf hlo) qa qb qc (g := mkF m pc Ls (argsL.reverse ++ .ref a :: rest)) rfl (by rw [K.hml]; exact hsz) (Steps.refl _) (argsL := argsL) (rest := rest) hlen rfl (by show 2 * 0 + _ ≤ _; omega) (hb K.hby hd) (fun _ _ => ⟨rfl, eT, hc, hs⟩)
  dsimp only [Pt.U, Pt.locs, Pt.cells, Pt.slots] at X' l1 y1 z1 st hQ
  subst l1 y1 z1
  exact OGo.st (fun t k => st.trans k) (hr v T' _ _ X' rfl hQ (Fr.app N hF))
/-- a body's contract, where it may intern String constants -/
def OConW (l : Launch) (Z : State) (n0 : Nat) (y : MethodName) (bytes : ByteArray) (maxL : Nat) (ret : Option FieldType) (rm : Room) (as : Array Value) (h0 : Heap) (Q : Option Value → Heap → Prop) : Prop :=
  ∀ ws, MetFree l y (head1 (Jvm.Cond.code y bytes maxL ret :: ws) rm) (fun a U => a = as ∧ Z.Warmed39 U.vm ∧ U.heap = h0) (fun _ _ _ _ _ => True) (fun _ U o U' => ∃ v L, o = .returned v ∧ (Q v U'.heap ∧ Fr n0 L) ∧ Jvm.ReturnedEndW U o U' L rm.cells rm.slots)
theorem OConW.of {y : MethodName} {rm : Room} {as : Array Value} {h0 : Heap} {Ls : Array Slot} (hpl : plainFor y = true) (ho : y.cls = own) (hn : y.name = nm) (hen : ∀ m, entryFrame m as maxL = mkF m 0 Ls [])
    (H : ∀ (p : Program) (e : Env) (s : State) (m : MethodId) (below : List Frame) (meth : Method) (c : Code) (T : State) (vm0 : Vm), Stand p l e rm (s.setVm vm0) m as below meth c T [] 0 0 → OCx p (s.setVm vm0) m meth c Z own nm bytes maxL ret → T.heap = h0 → s.Since vm0 h0.size → OGo p e below (OFinW s rm.cells rm.slots) n0 Q (T.setTop (mkF m 0 Ls []))) : OConW l Z n0 y bytes maxL ret rm as h0 Q := by
  intro ws
  refine MetFree.of_bodySF hpl hisR ?_
  intro p e s m args below meth c s₁ Bd hml0 hP hK
  obtain ⟨rfl, hZ, hh⟩ := hP
  subst ho hn
  obtain ⟨U, o, h1, r⟩ := H p e s m below meth c s₁ s.vm (Stand.of_body Bd) ⟨Bd.exec, hZ, Bd.bytes, hml0, findClass_of_methodNamed Bd.named, (name_of_methodNamed Bd.named Bd.method).1, Bd.returns, Bd.notSynchronized⟩ (by rw [← hh, Bd.state]; rfl) ((State.WarmedH.refl s).since _)
  exact ⟨U, o, castTop (hen m) h1, r⟩
theorem o_leaveW {vm0 : Vm} {k0 : Nat} (X : Stand p l e R (s.setVm vm0) m args below meth c T locs cells slots) (hS : s.Since vm0 k0) (eT : T.heap = h) (hk : k0 ≤ h.size) (hlk : meth.locks = false) {v : Option Value} (hv : meth.sig.returnType = none → v = none) {S : State} (hc : cells ≤ kc) (hs : slots ≤ ks) (N : Fr n0 locs) (hQ : Q v T.heap)
    (k : ∀ fs, (∀ (f : JFrame) (acts : List Action), f.method = m → f.locked = none → f.entered = [] → (doReturn e (T.setTop f) acts v).1 = T.setFrames fs) → Steps p.tables e below S (T.setFrames fs)) : OGo p e below (OFinW s kc ks) n0 Q S := by
  obtain ⟨fs, hr, hrun, hended, hW, hsame⟩ := X.leave (v := v) hv
  obtain ⟨a, b, c'⟩ := hS.ended (U := T.setFrames fs) hW (by show k0 ≤ T.heap.size; rw [eT]; exact hk) hsame
  exact ⟨_, _, k fs hr, hrun, hended, v, locs, rfl, ⟨hQ, N⟩, ⟨v, rfl⟩, a, b, c'.mono hc hs⟩
theorem o_ireturnW {vm0 : Vm} {k0 : Nat} (X : Stand p l e R (s.setVm vm0) m args below meth c T locs cells slots) (hS : s.Since vm0 k0) (eT : T.heap = h) (hk : k0 ≤ h.size) (K : OCx p (s.setVm vm0) m meth c Z own nm bytes maxL (some .int)) {z : Int32} (hd : decode bytes pc = .ok (.ireturn, 1)) (hc : cells ≤ kc) (hs : slots ≤ ks) (N : Fr n0 locs) (hQ : Q (some (.int z)) T.heap) : OGo p e below (OFinW s kc ks) n0 Q (T.setTop (mkF m pc Ls (.int z :: St))) :=
  o_leaveW X hS eT hk K.hlk (fun h => by rw [K.hret] at h; cases h) hc hs N hQ (fun fs hr => retI X K.hx K.hret (hb K.hby hd) hr)
theorem o_ireturnNW {t : FieldType} {vm0 : Vm} {k0 : Nat} (X : Stand p l e R (s.setVm vm0) m args below meth c T locs cells slots) (hS : s.Since vm0 k0) (eT : T.heap = h) (hk : k0 ≤ h.size) (K : OCx p (s.setVm vm0) m meth c Z own nm bytes maxL (some t)) (ht : t = .boolean ∨ t = .byte ∨ t = .char ∨ t = .short) {z : Int32} (hd : decode bytes pc = .ok (.ireturn, 1)) (hc : cells ≤ kc) (hs : slots ≤ ks) (N : Fr n0 locs) (hQ : Q (some (.int (nar t z))) T.heap) : OGo p e below (OFinW s kc ks) n0 Q (T.setTop (mkF m pc Ls (.int z :: St))) :=
  o_leaveW X hS eT hk K.hlk (fun h => by rw [K.hret] at h; cases h) hc hs N hQ (fun fs hr => retN X K.hx K.hret ht (hb K.hby hd) hr)
theorem o_areturnW {t : FieldType} {vm0 : Vm} {k0 : Nat} (X : Stand p l e R (s.setVm vm0) m args below meth c T locs cells slots) (hS : s.Since vm0 k0) (eT : T.heap = h) (hk : k0 ≤ h.size) (K : OCx p (s.setVm vm0) m meth c Z own nm bytes maxL (some t)) (ht : t.isReference = true) {z : Value} (hn : narrow t z = z) (hz : z.isRef = true) (hd : decode bytes pc = .ok (.areturn, 1)) (hc : cells ≤ kc) (hs : slots ≤ ks) (N : Fr n0 locs) (hQ : Q (some z) T.heap) : OGo p e below (OFinW s kc ks) n0 Q (T.setTop (mkF m pc Ls (z :: St))) :=
  o_leaveW X hS eT hk K.hlk (fun h => by rw [K.hret] at h; cases h) hc hs N hQ (fun fs hr => retOut X K.hx K.hret hn (Or.inr (Or.inr (Or.inr (Or.inr ⟨rfl, ht, hz⟩)))) (hb K.hby hd) hr)
theorem o_returnW {vm0 : Vm} {k0 : Nat} (X : Stand p l e R (s.setVm vm0) m args below meth c T locs cells slots) (hS : s.Since vm0 k0) (eT : T.heap = h) (hk : k0 ≤ h.size) (K : OCx p (s.setVm vm0) m meth c Z own nm bytes maxL (none)) (hd : decode bytes pc = .ok (.return_, 1)) (hc : cells ≤ kc) (hs : slots ≤ ks) (N : Fr n0 locs) (hQ : Q none T.heap) : OGo p e below (OFinW s kc ks) n0 Q (T.setTop (mkF m pc Ls [])) :=
  o_leaveW X hS eT hk K.hlk (fun _ => rfl) hc hs N hQ (fun fs hr => X.returnOut K.hx K.hret (hb K.hby hd) hr)
theorem o_ldcS {vm0 : Vm} {k0 : Nat} (X : Stand p l e R (s.setVm vm0) m args below meth c T locs cells slots) (K : OCx p (s.setVm vm0) m meth c Z own nm bytes maxL ret) {text : String} {index : Nat} (hS : s.Since vm0 k0) (hd : decode bytes pc = .ok (.ldc index, 2)) (pc' : Nat) (hp : pc + 2 = pc') (w : (Jvm.Cond.stringLink own index text).before a0 Z = true) (wS : ∀ a ∈ Bundle.stringAtoms, a.before a0 Z = true) (eT : T.heap = h) (hk : k0 ≤ h.size) (n : Nat) (hn : 4 * text.toList.length ≤ n) (hbig : n ≤ 536870912) (hc : cells + 2 ≤ R.cells) (hl : slots + (n + 4) ≤ R.slots)
    (hr : ∀ T' h' a k1, Stand p l e R (s.setVm T'.vm) m args below meth c T' locs (cells + 2) (slots + (n + 4)) → OCx p (s.setVm T'.vm) m meth c Z own nm bytes maxL ret → T'.heap = h' → Ext h h' → s.Since T'.vm k1 → k1 ≤ h'.size → OGo p e below Fn n0 Q (T'.setTop (mkF m pc' Ls (.ref a :: St)))) : OGo p e below Fn n0 Q (T.setTop (mkF m pc Ls St)) := by
  subst hp
  obtain ⟨a, T', h', k1, X', e', E', S', q', Z', o', st'⟩ := ldcS X K.hx K.hZ (own := own) (text := text) K.hown w wS eT hS hk (g := mkF m pc Ls St) rfl (hb K.hby hd) hn hbig hc hl
  exact OGo.st st' (hr T' h' a k1 X' ⟨K.hx, Z', K.hby, K.hml, o', K.hnm, K.hret, K.hlk⟩ e' E' S' q')
theorem o_backW {R : Room} {s : State} {y : MethodName} {bytes : ByteArray} {maxL : Nat} {ret : Option FieldType} {rm : Room} {len W : Nat} {as' : Array Value} {Q' : Option Value → Heap → Prop}
    (hM : OConW l Z n0 y bytes maxL ret rm as' h Q') (hZ : Z.Warmed39 s.vm) (wc : (Jvm.Cond.code y bytes maxL ret).before a0 Z = true) (wz : (Jvm.Cond.initialized y.cls).before a0 Z = true) (hf : rm.frames + 1 ≤ R.frames) (hl : W + (maxL + 11) + rm.locals ≤ R.locals) :
    BackS l R p e below s args y len W (fun A a => a = as' ∧ A.U.heap = h ∧ A.cells + rm.cells ≤ R.cells ∧ A.slots + rm.slots ≤ R.slots)
      (fun A _ v B => ∃ L, (Q' v B.U.heap ∧ Fr n0 L) ∧ B.locs = A.locs ++ L ∧ B.cells = A.cells + rm.cells ∧ B.slots = A.slots + rm.slots) :=
  BackS.of_freeW (bytes := bytes) (maxL := maxL) (ret := ret) (E := fun _ _ o t L k n => k = rm.cells ∧ n = rm.slots ∧ ∃ v, o = .returned v ∧ Q' v t.heap ∧ Fr n0 L) (hM []) hf hl
    (fun m meth c A a Y hp => have hU : Z.Warmed39 A.U.vm := wtrans hZ Y.warmed
      ⟨by show (Jvm.Cond.and _ .tt).before a A.U = true; rw [Cond.before_and, mv hU wc]; rfl, mv hU wc, mv hU wz, hp.2.2.1, hp.2.2.2⟩)
    (fun m meth c A a g mk Y hp => ⟨hp.1, wtrans hZ Y.warmed, hp.2.1⟩) (fun _ _ _ _ _ _ _ _ _ => trivial)
    (fun _ _ _ _ ⟨v, L, h1, h2, h3⟩ => ⟨L, _, _, h3, rfl, rfl, v, h1, h2⟩)
    (fun m meth c A a g mk v t L k n Y hp _ _ ⟨e1, e2, v', e3, e4⟩ => by cases e3; subst e1 e2; exact ⟨L, e4, rfl, rfl, rfl⟩)
theorem o_rebase {vm0 : Vm} {k0 k1 : Nat} {vm1 : Vm} (K : OCx p (s.setVm vm0) m meth c Z own nm bytes maxL ret) (hS : (s.setVm vm0).Since vm1 k1) : OCx p (s.setVm vm1) m meth c Z own nm bytes maxL ret :=
  ⟨K.hx, State.Warmed39.trans K.hZ hS.1, K.hby, K.hml, by have q := K.hown; have q2 : (s.setVm vm0).Warmed39 vm1 := hS.1; rw [← q2.alike.findClass] at q; exact q, K.hnm, K.hret, K.hlk⟩
theorem o_invokestaticW {vm0 : Vm} {k0 : Nat} (X : Stand p l e R (s.setVm vm0) m args below meth c T locs cells slots) (K : OCx p (s.setVm vm0) m meth c Z own nm bytes maxL ret) {index : Nat} {y : MethodName} {bytes' : ByteArray} {maxL' : Nat} {ret' : Option FieldType} {rm : Room} {Q' : Option Value → Heap → Prop} (hS : s.Since vm0 k0) (hk : k0 ≤ h.size) (hd : decode bytes pc = .ok (.invokestatic index, 3)) (pc' : Nat) (hp : pc + 3 = pc') (w1 : (Jvm.Cond.methodLink own index y).before a0 Z = true) (w2 : (Jvm.Cond.static y).before a0 Z = true) (w3 : (Jvm.Cond.initialized y.cls).before a0 Z = true) (w4 : (Jvm.Cond.code y bytes' maxL' ret').before a0 Z = true) (hy : y.cls ≠ "java/lang/invoke/MethodHandle" ∧ y.cls ≠ "java/lang/invoke/VarHandle")
    (argsL rest : List Value) (hst : St = argsL.reverse ++ rest) (con : OConW l Z n0 y bytes' maxL' ret' rm argsL.toArray h Q') (eT : T.heap = h) (hsz : Ls.size = maxL) (hlen : ∀ sig, parseMethodDescriptor y.desc = some sig → argsL.length = sig.parameters.length) (hf : rm.frames + 1 ≤ R.frames) (W : Nat) (hW : (rest.map fun v => v.category).sum ≤ W) (hlo : W + (maxL' + 11) + rm.locals ≤ R.locals) (hc : cells + rm.cells ≤ R.cells) (hs : slots + rm.slots ≤ R.slots) (N : Fr n0 locs)
    (hr : ∀ v T' h' locs' k1, Stand p l e R (s.setVm T'.vm) m args below meth c T' locs' (cells + rm.cells) (slots + rm.slots) → OCx p (s.setVm T'.vm) m meth c Z own nm bytes maxL ret → T'.heap = h' → s.Since T'.vm k1 → k1 ≤ h'.size → Q' v h' → Fr n0 locs' → OGo p e below Fn n0 Q (T'.setTop (mkF m pc' Ls (v.toList ++ rest)))) : OGo p e below Fn n0 Q (T.setTop (mkF m pc Ls St)) := by
  subst hp hst
  have w2' : (Jvm.Cond.static y).before args (s.setVm vm0) = true := mvT K.hZ w2
  have w4' : (Jvm.Cond.code y bytes' maxL' ret').before args (s.setVm vm0) = true := mvT K.hZ w4
  obtain ⟨mk, hnamed⟩ := Cond.named_of_code (x := y) w4'
  obtain ⟨methM, cM, hmethM, -, -, -, -, -, -, hsigM⟩ := Cond.code_spec hnamed w4'
  obtain ⟨v, vm₁, ⟨T', L', k', n'⟩, -, X', S', g', ⟨Lc, ⟨hQ, hF⟩, l1, y1, z1⟩, st⟩ := X.staticBackS K.hx K.hown (mvT K.hZ w1) w2' (mvT K.hZ w3) hnamed hmethM hsigM hy (o_backW (W := W) con K.hZ w4 w3 hf hlo) (g := mkF m pc Ls (argsL.reverse ++ rest)) rfl (by rw [K.hml]; exact hsz) (Steps.refl _) (argsL := argsL) (rest := rest) hlen rfl (by show 2 * 0 + _ ≤ _; omega) (hb K.hby hd) (fun _ _ => ⟨rfl, eT, hc, hs⟩)
  dsimp only [Pt.U, Pt.locs, Pt.cells, Pt.slots] at X' l1 y1 z1 st hQ S' g'
  subst l1 y1 z1
  rw [eT] at g'
  exact OGo.st (fun t k => st.trans k) (hr v T' _ _ _ X' (o_rebase K (k0 := k0) S') rfl (State.Since.trans hS S' (Nat.le_trans hk g')) (Nat.le_refl _) hQ (Fr.app N hF))
theorem o_invokevirtualW {vm0 : Vm} {k0 : Nat} (X : Stand p l e R (s.setVm vm0) m args below meth c T locs cells slots) (K : OCx p (s.setVm vm0) m meth c Z own nm bytes maxL ret) {index : Nat} {y : MethodName} {bytes' : ByteArray} {maxL' : Nat} {ret' : Option FieldType} {rm : Room} {Q' : Option Value → Heap → Prop} {C : String} {a : Addr} (hS : s.Since vm0 k0) (hk : k0 ≤ h.size) (hd : decode bytes pc = .ok (.invokevirtual index, 3)) (pc' : Nat) (hp : pc + 3 = pc') (w1 : (Jvm.Cond.methodLink own index y).before a0 Z = true) (w2 : (Jvm.Cond.declares y).before a0 Z = true) (wsel : (Jvm.Cond.selects C y y).before a0 Z = true) (w5 : (Jvm.Cond.instanceMethod y).before a0 Z = true) (w3 : (Jvm.Cond.initialized y.cls).before a0 Z = true) (w4 : (Jvm.Cond.code y bytes' maxL' ret').before a0 Z = true) (hy : y.cls ≠ "java/lang/invoke/MethodHandle" ∧ y.cls ≠ "java/lang/invoke/VarHandle")
    (E : Exa Z h a C) (argsL rest : List Value) (hst : St = argsL.reverse ++ .ref a :: rest) (con : OConW l Z n0 y bytes' maxL' ret' rm (.ref a :: argsL).toArray h Q') (eT : T.heap = h) (hsz : Ls.size = maxL) (hlen : ∀ sig, parseMethodDescriptor y.desc = some sig → argsL.length = sig.parameters.length) (hf : rm.frames + 1 ≤ R.frames) (W : Nat) (hW : (rest.map fun v => v.category).sum ≤ W) (hlo : W + (maxL' + 11) + rm.locals ≤ R.locals) (hc : cells + rm.cells ≤ R.cells) (hs : slots + rm.slots ≤ R.slots) (N : Fr n0 locs)
    (hr : ∀ v T' h' locs' k1, Stand p l e R (s.setVm T'.vm) m args below meth c T' locs' (cells + rm.cells) (slots + rm.slots) → OCx p (s.setVm T'.vm) m meth c Z own nm bytes maxL ret → T'.heap = h' → s.Since T'.vm k1 → k1 ≤ h'.size → Q' v h' → Fr n0 locs' → OGo p e below Fn n0 Q (T'.setTop (mkF m pc' Ls (v.toList ++ rest)))) : OGo p e below Fn n0 Q (T.setTop (mkF m pc Ls St)) := by
  subst hp hst
  obtain ⟨cq, kq, qa, qb, qc⟩ := isOf K.hZ eT E
  obtain ⟨v, vm₁, ⟨T', L', k', n'⟩, -, X', S', g', ⟨Lc, ⟨hQ, hF⟩, l1, y1, z1⟩, st⟩ := X.virtualBackS K.hx K.hown (mvT K.hZ w1) (mvT K.hZ w2) (notFace_of_selects (args := #[]) (mvT K.hZ wsel)) (mvT K.hZ wsel) (mvT K.hZ w5) hy (o_backW (W := W) con K.hZ w4 w3 hf hlo) qa qc (g := mkF m pc Ls (argsL.reverse ++ .ref a :: rest)) rfl (by rw [K.hml]; exact hsz) (Steps.refl _) (argsL := argsL) (rest := rest) hlen rfl (by show 2 * 0 + _ ≤ _; omega) (hb K.hby hd) (fun _ _ => ⟨rfl, eT, hc, hs⟩)
  dsimp only [Pt.U, Pt.locs, Pt.cells, Pt.slots] at X' l1 y1 z1 st hQ S' g'
  subst l1 y1 z1
  rw [eT] at g'
  exact OGo.st (fun t k => st.trans k) (hr v T' _ _ _ X' (o_rebase K (k0 := k0) S') rfl (State.Since.trans hS S' (Nat.le_trans hk g')) (Nat.le_refl _) hQ (Fr.app N hF))
abbrev OW (Z : State) (a0 : Array Value) : Prop := ∀ d ∈ tables_1, d.before a0 Z = true
end Own
section OwnStr
variable {p : Program} {l : Launch} {e : Env} {R : Room} {s : State} {m : MethodId} {args : Array Value} {below : List Frame} {meth : Method} {c : Code} {T : State} {locs : List Loc} {cells slots : Nat} {Z : State} {a0 : Array Value} {h h' : Heap} {n0 : Nat} {Q : Option Value → Heap → Prop} {kc ks : Nat} {Ls : Array Slot} {St : List Value} {pc : Nat} {own nm : String} {bytes : ByteArray} {maxL : Nat} {ret : Option FieldType}
theorem o_nc (x : Int32) : nar .char (x.toUInt32.toUInt16.toUInt32.toInt32) = x.toUInt32.toUInt16.toUInt32.toInt32 := by
  show x.toUInt32.toUInt16.toUInt32.toInt32.toUInt32.toUInt16.toUInt32.toInt32 = _
  rw [← Int32.toInt_inj]
  have q1 := c_i2c x
  have q2 := c_i2c (x.toUInt32.toUInt16.toUInt32.toInt32)
  omega
theorem o_and255 (x : Int32) : ¬ ((x &&& 255).toUInt32.toUInt16.toUInt32.toInt32) < 0 ∧ ¬ (255 : Int32) < ((x &&& 255).toUInt32.toUInt16.toUInt32.toInt32) := by
  have q1 := c_i2c (x &&& 255)
  have q2 : (x &&& 255).toInt = x.toInt % 256 := c_mask x 255 8 (by decide) (by decide)
  rw [Int32.lt_iff_toInt_lt, Int32.lt_iff_toInt_lt]
  have z0 : (0 : Int32).toInt = 0 := rfl
  have z1 : (255 : Int32).toInt = 255 := rfl
  omega
theorem o_chars {n : Nat} {f : Nat → Value} {cs : List Int32} (hn : cs.length = n) (hf : ∀ j, j < n → f j = .int (cs.getD j 0)) : ∀ i, (cs.map Value.int).getD i (.int 0) = ((List.range n).map f).getD i (.int 0) := by
  intro i
  by_cases hi : i < n
  · rw [o_getD hi, hf i hi]
    simp [List.getD_eq_getElem?_getD, List.getElem?_eq_getElem (show i < cs.length by omega)]
  · simp [List.getD_eq_getElem?_getD, List.getElem?_eq_none (show cs.length ≤ i by omega), hi]
theorem o_strinit (X : Stand p l e R s m args below meth c T locs cells slots) (K : OCx p s m meth c Z own nm bytes maxL ret) {index : Nat} {x b : Addr} {n kI : Nat} {f : Nat → Value} {cs : List Int32} {v0 c0 : Value} {z : Int32} (hd : decode bytes pc = .ok (.invokespecial index, 3)) (pc' : Nat) (hp : pc + 3 = pc') (w1 : (Jvm.Cond.methodLink own index ⟨"java/lang/String", "<init>", "([C)V"⟩).before a0 Z = true) (w2 : (Jvm.Cond.instanceMethod ⟨"java/lang/String", "<init>", "([C)V"⟩).before a0 Z = true) (w4 : (Jvm.Cond.code ⟨"java/lang/String", "<init>", "([C)V"⟩ jdk_42_method_3_code 2 none).before a0 Z = true)
    (hws : ∀ d ∈ StrChars.Road.words, d.before a0 Z = true) (wi : (Jvm.Cond.instantiable "java/lang/String" kI).before a0 Z = true) (eT : T.heap = h) (hz0 : n0 ≤ h.size) (gx : n0 ≤ x) (E : Exa Z h x "java/lang/String") (Vf : Fld Z h x "java/lang/String" "value" "[B" v0) (Cf : Fld Z h x "java/lang/String" "coder" "B" c0) (A : OAr Z h b .char n f) (S : Sta Z h "java/lang/String" "COMPACT_STRINGS" "Z" (.int z)) (hz : ¬ z = 0)
    (hn : cs.length = n) (hf : ∀ j, j < n → f j = .int (cs.getD j 0)) (l0 : 0 < n) (l2 : n ≤ 4000) (hcs : ∀ c ∈ cs, ¬ c < 0 ∧ ¬ (255 : Int32) < c) (hsz : Ls.size = maxL) (N : Fr n0 locs) (hfr : 4 ≤ R.frames) (W : Nat) (hW : (St.map fun v => v.category).sum ≤ W) (hlo : W + 65 ≤ R.locals) (hc : cells + 1 ≤ R.cells) (hs : slots + n ≤ R.slots)
    (hr : ∀ T' h' locs' t, Stand p l e R s m args below meth c T' locs' (cells + 1) (slots + n) → T'.heap = h' → Keep h h' [x] → Exa Z h' x "java/lang/String" → Fld Z h' x "java/lang/String" "coder" "B" (.int 0) → n0 ≤ t → h.size ≤ t → ¬ t = x → Fld Z h' x "java/lang/String" "value" "[B" (.ref t) → OAr Z h' t .byte n (fun j => .int ((cs.getD j 0).toInt8.toInt32)) → Fr n0 locs' → OGo p e below Fn n0 Q (T'.setTop (mkF m pc' Ls St))) : OGo p e below Fn n0 Q (T.setTop (mkF m pc Ls (.ref b :: .ref x :: St))) := by
  subst hp
  have la := A.len
  obtain ⟨ka, A'⟩ := A.arv (.int 0)
  have A2 := A'.pad (o_chars hn hf)
  obtain ⟨v, vm₁, ⟨T', L', k', n'⟩, -, X', ⟨Lc, hQ, l1, y1, z1⟩, st⟩ := X.specialBack K.hx (y := (⟨"java/lang/String", "<init>", "([C)V"⟩ : MethodName)) rfl K.hown (mvT K.hZ w1) (mvT K.hZ w2) (mvT K.hZ w4) (by decide) (StrChars.Road.backV (W := W) K.hZ hws wi gx hz0 E Vf Cf A2 S hz hn rfl l0 l2 hcs rfl hfr hlo) (g := mkF m pc Ls (.ref b :: .ref x :: St)) rfl (by rw [K.hml]; exact hsz) (Steps.refl _) (a := x) (argsL := [.ref b]) (rest := St) (lenOf (ps := [.array .char]) (r := none) (by decide +kernel) rfl) rfl (by show 2 * 0 + _ ≤ _; omega) (hb K.hby hd) (fun _ _ => ⟨rfl, eT, hc, hs⟩)
  dsimp only [Pt.U, Pt.locs, Pt.cells, Pt.slots] at X' l1 y1 z1 st hQ
  subst l1 y1 z1
  obtain ⟨rfl, F', K', E', C', t, kb, g1, g2, g3, V', B'⟩ := hQ
  refine OGo.st (fun t k => st.trans k) (hr T' _ _ t X' rfl K' E' C' g1 g2 g3 V' (OAr.of_arv la B' (fun j hj => ?_)) (Fr.app N F'))
  simp [List.getD_eq_getElem?_getD, List.getElem?_eq_getElem (show j < cs.length by omega)]
end OwnStr
set_option maxRecDepth 65536
theorem w_0 {Z : State} {a0 : Array Value} (hw : OW Z a0) : (Jvm.Cond.classLink "com/example/outlet_to_office/outlettooffice/server/ProblemsIsEmptyPinLaw" (7 : Nat) "java/lang/String").before a0 Z = true := hw _ (List.mem_of_getElem? (i := 0) rfl)
theorem w_1 {Z : State} {a0 : Array Value} (hw : OW Z a0) : (Jvm.Cond.instantiable "java/lang/String" (4 : Nat)).before a0 Z = true := hw _ (List.mem_of_getElem? (i := 1) rfl)
theorem w_2 {Z : State} {a0 : Array Value} (hw : OW Z a0) : (Jvm.Cond.initialized "java/lang/String").before a0 Z = true := hw _ (List.mem_of_getElem? (i := 2) rfl)
theorem w_3 {Z : State} {a0 : Array Value} (hw : OW Z a0) : (Jvm.Cond.arrayClass Jvm.ClassFile.FieldType.char).before a0 Z = true := hw _ (List.mem_of_getElem? (i := 3) rfl)
theorem w_4 {Z : State} {a0 : Array Value} (hw : OW Z a0) : (Jvm.Cond.methodLink "com/example/outlet_to_office/outlettooffice/server/ProblemsIsEmptyPinLaw" (9 : Nat) ({ cls := "java/lang/String", name := "<init>", desc := "([C)V" } : Jvm.MethodName)).before a0 Z = true := hw _ (List.mem_of_getElem? (i := 4) rfl)
theorem w_5 {Z : State} {a0 : Array Value} (hw : OW Z a0) : (Jvm.Cond.instanceMethod ({ cls := "java/lang/String", name := "<init>", desc := "([C)V" } : Jvm.MethodName)).before a0 Z = true := hw _ (List.mem_of_getElem? (i := 5) rfl)
theorem w_6 {Z : State} {a0 : Array Value} (hw : OW Z a0) : (Jvm.Cond.code ({ cls := "java/lang/String", name := "<init>", desc := "([C)V" } : Jvm.MethodName) jdk_42_method_3_code (2 : Nat) (Option.none : Option Jvm.ClassFile.FieldType)).before a0 Z = true := hw _ (List.mem_of_getElem? (i := 6) rfl)
theorem w_11 {Z : State} {a0 : Array Value} (hw : OW Z a0) : (Jvm.Cond.methodLink "java/lang/String" (1 : Nat) ({ cls := "java/lang/Object", name := "<init>", desc := "()V" } : Jvm.MethodName)).before a0 Z = true := hw _ (List.mem_of_getElem? (i := 11) rfl)
theorem w_12 {Z : State} {a0 : Array Value} (hw : OW Z a0) : (Jvm.Cond.instanceMethod ({ cls := "java/lang/Object", name := "<init>", desc := "()V" } : Jvm.MethodName)).before a0 Z = true := hw _ (List.mem_of_getElem? (i := 12) rfl)
theorem w_13 {Z : State} {a0 : Array Value} (hw : OW Z a0) : (Jvm.Cond.code ({ cls := "java/lang/Object", name := "<init>", desc := "()V" } : Jvm.MethodName) object_method_1_code (1 : Nat) (Option.none : Option Jvm.ClassFile.FieldType)).before a0 Z = true := hw _ (List.mem_of_getElem? (i := 13) rfl)
theorem w_14 {Z : State} {a0 : Array Value} (hw : OW Z a0) : (Jvm.Cond.fieldLink "java/lang/String" (38 : Nat) "java/lang/String" "COMPACT_STRINGS" "Z").before a0 Z = true := hw _ (List.mem_of_getElem? (i := 14) rfl)
theorem w_19 {Z : State} {a0 : Array Value} (hw : OW Z a0) : (Jvm.Cond.arrayClass Jvm.ClassFile.FieldType.byte).before a0 Z = true := hw _ (List.mem_of_getElem? (i := 19) rfl)
theorem w_26 {Z : State} {a0 : Array Value} (hw : OW Z a0) : (Jvm.Cond.fieldLink "java/lang/String" (15 : Nat) "java/lang/String" "coder" "B").before a0 Z = true := hw _ (List.mem_of_getElem? (i := 26) rfl)
theorem w_27 {Z : State} {a0 : Array Value} (hw : OW Z a0) : (Jvm.Cond.laysFinal "java/lang/String" "java/lang/String" "coder" "B").before a0 Z = true := hw _ (List.mem_of_getElem? (i := 27) rfl)
theorem w_28 {Z : State} {a0 : Array Value} (hw : OW Z a0) : (Jvm.Cond.fieldLink "java/lang/String" (9 : Nat) "java/lang/String" "value" "[B").before a0 Z = true := hw _ (List.mem_of_getElem? (i := 28) rfl)
theorem w_29 {Z : State} {a0 : Array Value} (hw : OW Z a0) : (Jvm.Cond.laysFinal "java/lang/String" "java/lang/String" "value" "[B").before a0 Z = true := hw _ (List.mem_of_getElem? (i := 29) rfl)
theorem w_30 {Z : State} {a0 : Array Value} (hw : OW Z a0) : (Jvm.Cond.methodLink "com/example/outlet_to_office/outlettooffice/server/ProblemsIsEmptyPinLaw" (12 : Nat) ({ cls := "java/lang/String", name := "valueOf", desc := "(C)Ljava/lang/String;" } : Jvm.MethodName)).before a0 Z = true := hw _ (List.mem_of_getElem? (i := 30) rfl)
theorem w_31 {Z : State} {a0 : Array Value} (hw : OW Z a0) : (Jvm.Cond.static ({ cls := "java/lang/String", name := "valueOf", desc := "(C)Ljava/lang/String;" } : Jvm.MethodName)).before a0 Z = true := hw _ (List.mem_of_getElem? (i := 31) rfl)
theorem w_32 {Z : State} {a0 : Array Value} (hw : OW Z a0) : (Jvm.Cond.code ({ cls := "java/lang/String", name := "valueOf", desc := "(C)Ljava/lang/String;" } : Jvm.MethodName) jdk_42_method_139_code (1 : Nat) (Option.some (Jvm.ClassFile.FieldType.object "java/lang/String"))).before a0 Z = true := hw _ (List.mem_of_getElem? (i := 32) rfl)
theorem w_33 {Z : State} {a0 : Array Value} (hw : OW Z a0) : (Jvm.Cond.methodLink "java/lang/String" (1015 : Nat) ({ cls := "java/lang/StringLatin1", name := "canEncode", desc := "(C)Z" } : Jvm.MethodName)).before a0 Z = true := hw _ (List.mem_of_getElem? (i := 33) rfl)
theorem w_34 {Z : State} {a0 : Array Value} (hw : OW Z a0) : (Jvm.Cond.static ({ cls := "java/lang/StringLatin1", name := "canEncode", desc := "(C)Z" } : Jvm.MethodName)).before a0 Z = true := hw _ (List.mem_of_getElem? (i := 34) rfl)
theorem w_35 {Z : State} {a0 : Array Value} (hw : OW Z a0) : (Jvm.Cond.initialized "java/lang/StringLatin1").before a0 Z = true := hw _ (List.mem_of_getElem? (i := 35) rfl)
theorem w_36 {Z : State} {a0 : Array Value} (hw : OW Z a0) : (Jvm.Cond.code ({ cls := "java/lang/StringLatin1", name := "canEncode", desc := "(C)Z" } : Jvm.MethodName) jdk_43_method_3_code (1 : Nat) (Option.some Jvm.ClassFile.FieldType.boolean)).before a0 Z = true := hw _ (List.mem_of_getElem? (i := 36) rfl)
theorem w_37 {Z : State} {a0 : Array Value} (hw : OW Z a0) : (Jvm.Cond.classLink "java/lang/String" (10 : Nat) "java/lang/String").before a0 Z = true := hw _ (List.mem_of_getElem? (i := 37) rfl)
theorem w_38 {Z : State} {a0 : Array Value} (hw : OW Z a0) : (Jvm.Cond.methodLink "java/lang/String" (1018 : Nat) ({ cls := "java/lang/StringLatin1", name := "toBytes", desc := "(C)[B" } : Jvm.MethodName)).before a0 Z = true := hw _ (List.mem_of_getElem? (i := 38) rfl)
theorem w_39 {Z : State} {a0 : Array Value} (hw : OW Z a0) : (Jvm.Cond.static ({ cls := "java/lang/StringLatin1", name := "toBytes", desc := "(C)[B" } : Jvm.MethodName)).before a0 Z = true := hw _ (List.mem_of_getElem? (i := 39) rfl)
theorem w_40 {Z : State} {a0 : Array Value} (hw : OW Z a0) : (Jvm.Cond.code ({ cls := "java/lang/StringLatin1", name := "toBytes", desc := "(C)[B" } : Jvm.MethodName) jdk_43_method_46_code (1 : Nat) (Option.some (Jvm.ClassFile.FieldType.array Jvm.ClassFile.FieldType.byte))).before a0 Z = true := hw _ (List.mem_of_getElem? (i := 40) rfl)
theorem w_41 {Z : State} {a0 : Array Value} (hw : OW Z a0) : (Jvm.Cond.methodLink "java/lang/String" (209 : Nat) ({ cls := "java/lang/String", name := "<init>", desc := "([BB)V" } : Jvm.MethodName)).before a0 Z = true := hw _ (List.mem_of_getElem? (i := 41) rfl)
theorem w_42 {Z : State} {a0 : Array Value} (hw : OW Z a0) : (Jvm.Cond.instanceMethod ({ cls := "java/lang/String", name := "<init>", desc := "([BB)V" } : Jvm.MethodName)).before a0 Z = true := hw _ (List.mem_of_getElem? (i := 42) rfl)
theorem w_43 {Z : State} {a0 : Array Value} (hw : OW Z a0) : (Jvm.Cond.code ({ cls := "java/lang/String", name := "<init>", desc := "([BB)V" } : Jvm.MethodName) jdk_42_method_151_code (3 : Nat) (Option.none : Option Jvm.ClassFile.FieldType)).before a0 Z = true := hw _ (List.mem_of_getElem? (i := 43) rfl)
theorem w_44 {Z : State} {a0 : Array Value} (hw : OW Z a0) : (Jvm.Cond.classLink "com/example/outlet_to_office/outlettooffice/server/ProblemsIsEmptyPinLaw" (16 : Nat) "com/example/outlet_to_office/outlettooffice/server/Problems").before a0 Z = true := hw _ (List.mem_of_getElem? (i := 44) rfl)
theorem w_45 {Z : State} {a0 : Array Value} (hw : OW Z a0) : (Jvm.Cond.instantiable "com/example/outlet_to_office/outlettooffice/server/Problems" (2 : Nat)).before a0 Z = true := hw _ (List.mem_of_getElem? (i := 45) rfl)
theorem w_46 {Z : State} {a0 : Array Value} (hw : OW Z a0) : (Jvm.Cond.initialized "com/example/outlet_to_office/outlettooffice/server/Problems").before a0 Z = true := hw _ (List.mem_of_getElem? (i := 46) rfl)
theorem w_47 {Z : State} {a0 : Array Value} (hw : OW Z a0) : (Jvm.Cond.methodLink "com/example/outlet_to_office/outlettooffice/server/ProblemsIsEmptyPinLaw" (18 : Nat) ({ cls := "com/example/outlet_to_office/outlettooffice/server/Problems", name := "<init>", desc := "()V" } : Jvm.MethodName)).before a0 Z = true := hw _ (List.mem_of_getElem? (i := 47) rfl)
theorem w_48 {Z : State} {a0 : Array Value} (hw : OW Z a0) : (Jvm.Cond.instanceMethod ({ cls := "com/example/outlet_to_office/outlettooffice/server/Problems", name := "<init>", desc := "()V" } : Jvm.MethodName)).before a0 Z = true := hw _ (List.mem_of_getElem? (i := 48) rfl)
theorem w_49 {Z : State} {a0 : Array Value} (hw : OW Z a0) : (Jvm.Cond.code ({ cls := "com/example/outlet_to_office/outlettooffice/server/Problems", name := "<init>", desc := "()V" } : Jvm.MethodName) prog_22_method_1_code (1 : Nat) (Option.none : Option Jvm.ClassFile.FieldType)).before a0 Z = true := hw _ (List.mem_of_getElem? (i := 49) rfl)
theorem w_50 {Z : State} {a0 : Array Value} (hw : OW Z a0) : (Jvm.Cond.methodLink "com/example/outlet_to_office/outlettooffice/server/Problems" (1 : Nat) ({ cls := "java/lang/Object", name := "<init>", desc := "()V" } : Jvm.MethodName)).before a0 Z = true := hw _ (List.mem_of_getElem? (i := 50) rfl)
theorem w_51 {Z : State} {a0 : Array Value} (hw : OW Z a0) : (Jvm.Cond.classLink "com/example/outlet_to_office/outlettooffice/server/Problems" (7 : Nat) "java/util/ArrayList").before a0 Z = true := hw _ (List.mem_of_getElem? (i := 51) rfl)
theorem w_52 {Z : State} {a0 : Array Value} (hw : OW Z a0) : (Jvm.Cond.instantiable "java/util/ArrayList" (3 : Nat)).before a0 Z = true := hw _ (List.mem_of_getElem? (i := 52) rfl)
theorem w_53 {Z : State} {a0 : Array Value} (hw : OW Z a0) : (Jvm.Cond.initialized "java/util/ArrayList").before a0 Z = true := hw _ (List.mem_of_getElem? (i := 53) rfl)
theorem w_54 {Z : State} {a0 : Array Value} (hw : OW Z a0) : (Jvm.Cond.methodLink "com/example/outlet_to_office/outlettooffice/server/Problems" (9 : Nat) ({ cls := "java/util/ArrayList", name := "<init>", desc := "()V" } : Jvm.MethodName)).before a0 Z = true := hw _ (List.mem_of_getElem? (i := 54) rfl)
theorem w_55 {Z : State} {a0 : Array Value} (hw : OW Z a0) : (Jvm.Cond.instanceMethod ({ cls := "java/util/ArrayList", name := "<init>", desc := "()V" } : Jvm.MethodName)).before a0 Z = true := hw _ (List.mem_of_getElem? (i := 55) rfl)
theorem w_56 {Z : State} {a0 : Array Value} (hw : OW Z a0) : (Jvm.Cond.code ({ cls := "java/util/ArrayList", name := "<init>", desc := "()V" } : Jvm.MethodName) jdk_38_method_2_code (1 : Nat) (Option.none : Option Jvm.ClassFile.FieldType)).before a0 Z = true := hw _ (List.mem_of_getElem? (i := 56) rfl)
theorem w_57 {Z : State} {a0 : Array Value} (hw : OW Z a0) : (Jvm.Cond.methodLink "java/util/ArrayList" (1 : Nat) ({ cls := "java/util/AbstractList", name := "<init>", desc := "()V" } : Jvm.MethodName)).before a0 Z = true := hw _ (List.mem_of_getElem? (i := 57) rfl)
theorem w_58 {Z : State} {a0 : Array Value} (hw : OW Z a0) : (Jvm.Cond.instanceMethod ({ cls := "java/util/AbstractList", name := "<init>", desc := "()V" } : Jvm.MethodName)).before a0 Z = true := hw _ (List.mem_of_getElem? (i := 58) rfl)
theorem w_61 {Z : State} {a0 : Array Value} (hw : OW Z a0) : (Jvm.Cond.initialized "java/util/AbstractList").before a0 Z = true := hw _ (List.mem_of_getElem? (i := 61) rfl)
theorem w_62 {Z : State} {a0 : Array Value} (hw : OW Z a0) : (Jvm.Cond.code ({ cls := "java/util/AbstractList", name := "<init>", desc := "()V" } : Jvm.MethodName) jdk_39_method_1_code (1 : Nat) (Option.none : Option Jvm.ClassFile.FieldType)).before a0 Z = true := hw _ (List.mem_of_getElem? (i := 62) rfl)
theorem w_63 {Z : State} {a0 : Array Value} (hw : OW Z a0) : (Jvm.Cond.methodLink "java/util/AbstractList" (1 : Nat) ({ cls := "java/util/AbstractCollection", name := "<init>", desc := "()V" } : Jvm.MethodName)).before a0 Z = true := hw _ (List.mem_of_getElem? (i := 63) rfl)
theorem w_64 {Z : State} {a0 : Array Value} (hw : OW Z a0) : (Jvm.Cond.instanceMethod ({ cls := "java/util/AbstractCollection", name := "<init>", desc := "()V" } : Jvm.MethodName)).before a0 Z = true := hw _ (List.mem_of_getElem? (i := 64) rfl)
theorem w_67 {Z : State} {a0 : Array Value} (hw : OW Z a0) : (Jvm.Cond.initialized "java/util/AbstractCollection").before a0 Z = true := hw _ (List.mem_of_getElem? (i := 67) rfl)
theorem w_68 {Z : State} {a0 : Array Value} (hw : OW Z a0) : (Jvm.Cond.code ({ cls := "java/util/AbstractCollection", name := "<init>", desc := "()V" } : Jvm.MethodName) jdk_22_method_1_code (1 : Nat) (Option.none : Option Jvm.ClassFile.FieldType)).before a0 Z = true := hw _ (List.mem_of_getElem? (i := 68) rfl)
theorem w_69 {Z : State} {a0 : Array Value} (hw : OW Z a0) : (Jvm.Cond.methodLink "java/util/AbstractCollection" (1 : Nat) ({ cls := "java/lang/Object", name := "<init>", desc := "()V" } : Jvm.MethodName)).before a0 Z = true := hw _ (List.mem_of_getElem? (i := 69) rfl)
theorem w_70 {Z : State} {a0 : Array Value} (hw : OW Z a0) : (Jvm.Cond.fieldLink "java/util/AbstractList" (7 : Nat) "java/util/AbstractList" "modCount" "I").before a0 Z = true := hw _ (List.mem_of_getElem? (i := 70) rfl)
theorem w_71 {Z : State} {a0 : Array Value} (hw : OW Z a0) : (Jvm.Cond.lays "java/util/ArrayList" "java/util/AbstractList" "modCount" "I").before a0 Z = true := hw _ (List.mem_of_getElem? (i := 71) rfl)
theorem w_72 {Z : State} {a0 : Array Value} (hw : OW Z a0) : (Jvm.Cond.fieldLink "java/util/ArrayList" (39 : Nat) "java/util/ArrayList" "DEFAULTCAPACITY_EMPTY_ELEMENTDATA" "[Ljava/lang/Object;").before a0 Z = true := hw _ (List.mem_of_getElem? (i := 72) rfl)
theorem w_73 {Z : State} {a0 : Array Value} (hw : OW Z a0) : (Jvm.Cond.fieldLink "java/util/ArrayList" (9 : Nat) "java/util/ArrayList" "elementData" "[Ljava/lang/Object;").before a0 Z = true := hw _ (List.mem_of_getElem? (i := 73) rfl)
theorem w_74 {Z : State} {a0 : Array Value} (hw : OW Z a0) : (Jvm.Cond.lays "java/util/ArrayList" "java/util/ArrayList" "elementData" "[Ljava/lang/Object;").before a0 Z = true := hw _ (List.mem_of_getElem? (i := 74) rfl)
theorem w_75 {Z : State} {a0 : Array Value} (hw : OW Z a0) : (Jvm.Cond.fieldLink "com/example/outlet_to_office/outlettooffice/server/Problems" (10 : Nat) "com/example/outlet_to_office/outlettooffice/server/Problems" "listed" "Ljava/util/List;").before a0 Z = true := hw _ (List.mem_of_getElem? (i := 75) rfl)
theorem w_76 {Z : State} {a0 : Array Value} (hw : OW Z a0) : (Jvm.Cond.laysFinal "com/example/outlet_to_office/outlettooffice/server/Problems" "com/example/outlet_to_office/outlettooffice/server/Problems" "listed" "Ljava/util/List;").before a0 Z = true := hw _ (List.mem_of_getElem? (i := 76) rfl)
theorem w_77 {Z : State} {a0 : Array Value} (hw : OW Z a0) : (Jvm.Cond.methodLink "com/example/outlet_to_office/outlettooffice/server/ProblemsIsEmptyPinLaw" (19 : Nat) ({ cls := "com/example/outlet_to_office/outlettooffice/server/Problems", name := "isEmpty", desc := "()Z" } : Jvm.MethodName)).before a0 Z = true := hw _ (List.mem_of_getElem? (i := 77) rfl)
theorem w_78 {Z : State} {a0 : Array Value} (hw : OW Z a0) : (Jvm.Cond.declares ({ cls := "com/example/outlet_to_office/outlettooffice/server/Problems", name := "isEmpty", desc := "()Z" } : Jvm.MethodName)).before a0 Z = true := hw _ (List.mem_of_getElem? (i := 78) rfl)
theorem w_79 {Z : State} {a0 : Array Value} (hw : OW Z a0) : (Jvm.Cond.instanceMethod ({ cls := "com/example/outlet_to_office/outlettooffice/server/Problems", name := "isEmpty", desc := "()Z" } : Jvm.MethodName)).before a0 Z = true := hw _ (List.mem_of_getElem? (i := 79) rfl)
theorem w_80 {Z : State} {a0 : Array Value} (hw : OW Z a0) : (Jvm.Cond.selects "com/example/outlet_to_office/outlettooffice/server/Problems" ({ cls := "com/example/outlet_to_office/outlettooffice/server/Problems", name := "isEmpty", desc := "()Z" } : Jvm.MethodName) ({ cls := "com/example/outlet_to_office/outlettooffice/server/Problems", name := "isEmpty", desc := "()Z" } : Jvm.MethodName)).before a0 Z = true := hw _ (List.mem_of_getElem? (i := 80) rfl)
theorem w_81 {Z : State} {a0 : Array Value} (hw : OW Z a0) : (Jvm.Cond.code ({ cls := "com/example/outlet_to_office/outlettooffice/server/Problems", name := "isEmpty", desc := "()Z" } : Jvm.MethodName) prog_22_method_5_code (1 : Nat) (Option.some Jvm.ClassFile.FieldType.boolean)).before a0 Z = true := hw _ (List.mem_of_getElem? (i := 81) rfl)
theorem w_82 {Z : State} {a0 : Array Value} (hw : OW Z a0) : (Jvm.Cond.fieldLink "com/example/outlet_to_office/outlettooffice/server/Problems" (43 : Nat) "com/example/outlet_to_office/outlettooffice/server/Problems" "count" "J").before a0 Z = true := hw _ (List.mem_of_getElem? (i := 82) rfl)
theorem w_83 {Z : State} {a0 : Array Value} (hw : OW Z a0) : (Jvm.Cond.lays "com/example/outlet_to_office/outlettooffice/server/Problems" "com/example/outlet_to_office/outlettooffice/server/Problems" "count" "J").before a0 Z = true := hw _ (List.mem_of_getElem? (i := 83) rfl)
theorem w_84 {Z : State} {a0 : Array Value} (hw : OW Z a0) : (Jvm.Cond.methodLink "com/example/outlet_to_office/outlettooffice/server/ProblemsIsEmptyPinLaw" (23 : Nat) ({ cls := "com/example/outlet_to_office/outlettooffice/server/ProblemsIsEmptyPinLaw", name := "add", desc := "(Lcom/example/outlet_to_office/outlettooffice/server/Problems;ILjava/lang/String;Ljava/lang/String;Ljava/lang/String;I)V" } : Jvm.MethodName)).before a0 Z = true := hw _ (List.mem_of_getElem? (i := 84) rfl)
theorem w_85 {Z : State} {a0 : Array Value} (hw : OW Z a0) : (Jvm.Cond.static ({ cls := "com/example/outlet_to_office/outlettooffice/server/ProblemsIsEmptyPinLaw", name := "add", desc := "(Lcom/example/outlet_to_office/outlettooffice/server/Problems;ILjava/lang/String;Ljava/lang/String;Ljava/lang/String;I)V" } : Jvm.MethodName)).before a0 Z = true := hw _ (List.mem_of_getElem? (i := 85) rfl)
theorem w_86 {Z : State} {a0 : Array Value} (hw : OW Z a0) : (Jvm.Cond.initialized "com/example/outlet_to_office/outlettooffice/server/ProblemsIsEmptyPinLaw").before a0 Z = true := hw _ (List.mem_of_getElem? (i := 86) rfl)
theorem w_87 {Z : State} {a0 : Array Value} (hw : OW Z a0) : (Jvm.Cond.code ({ cls := "com/example/outlet_to_office/outlettooffice/server/ProblemsIsEmptyPinLaw", name := "add", desc := "(Lcom/example/outlet_to_office/outlettooffice/server/Problems;ILjava/lang/String;Ljava/lang/String;Ljava/lang/String;I)V" } : Jvm.MethodName) method_3_code (6 : Nat) (Option.none : Option Jvm.ClassFile.FieldType)).before a0 Z = true := hw _ (List.mem_of_getElem? (i := 87) rfl)
theorem w_88 {Z : State} {a0 : Array Value} (hw : OW Z a0) : (Jvm.Cond.methodLink "com/example/outlet_to_office/outlettooffice/server/ProblemsIsEmptyPinLaw" (32 : Nat) ({ cls := "com/example/outlet_to_office/outlettooffice/server/Problems", name := "add", desc := "(Ljava/lang/String;Ljava/lang/String;Ljava/lang/String;I)V" } : Jvm.MethodName)).before a0 Z = true := hw _ (List.mem_of_getElem? (i := 88) rfl)
theorem w_89 {Z : State} {a0 : Array Value} (hw : OW Z a0) : (Jvm.Cond.declares ({ cls := "com/example/outlet_to_office/outlettooffice/server/Problems", name := "add", desc := "(Ljava/lang/String;Ljava/lang/String;Ljava/lang/String;I)V" } : Jvm.MethodName)).before a0 Z = true := hw _ (List.mem_of_getElem? (i := 89) rfl)
theorem w_90 {Z : State} {a0 : Array Value} (hw : OW Z a0) : (Jvm.Cond.instanceMethod ({ cls := "com/example/outlet_to_office/outlettooffice/server/Problems", name := "add", desc := "(Ljava/lang/String;Ljava/lang/String;Ljava/lang/String;I)V" } : Jvm.MethodName)).before a0 Z = true := hw _ (List.mem_of_getElem? (i := 90) rfl)
theorem w_91 {Z : State} {a0 : Array Value} (hw : OW Z a0) : (Jvm.Cond.selects "com/example/outlet_to_office/outlettooffice/server/Problems" ({ cls := "com/example/outlet_to_office/outlettooffice/server/Problems", name := "add", desc := "(Ljava/lang/String;Ljava/lang/String;Ljava/lang/String;I)V" } : Jvm.MethodName) ({ cls := "com/example/outlet_to_office/outlettooffice/server/Problems", name := "add", desc := "(Ljava/lang/String;Ljava/lang/String;Ljava/lang/String;I)V" } : Jvm.MethodName)).before a0 Z = true := hw _ (List.mem_of_getElem? (i := 91) rfl)
theorem w_92 {Z : State} {a0 : Array Value} (hw : OW Z a0) : (Jvm.Cond.code ({ cls := "com/example/outlet_to_office/outlettooffice/server/Problems", name := "add", desc := "(Ljava/lang/String;Ljava/lang/String;Ljava/lang/String;I)V" } : Jvm.MethodName) prog_22_method_3_code (5 : Nat) (Option.none : Option Jvm.ClassFile.FieldType)).before a0 Z = true := hw _ (List.mem_of_getElem? (i := 92) rfl)
theorem w_93 {Z : State} {a0 : Array Value} (hw : OW Z a0) : (Jvm.Cond.classLink "com/example/outlet_to_office/outlettooffice/server/Problems" (16 : Nat) "com/example/outlet_to_office/outlettooffice/server/Problem").before a0 Z = true := hw _ (List.mem_of_getElem? (i := 93) rfl)
theorem w_94 {Z : State} {a0 : Array Value} (hw : OW Z a0) : (Jvm.Cond.instantiable "com/example/outlet_to_office/outlettooffice/server/Problem" (4 : Nat)).before a0 Z = true := hw _ (List.mem_of_getElem? (i := 94) rfl)
theorem w_95 {Z : State} {a0 : Array Value} (hw : OW Z a0) : (Jvm.Cond.initialized "com/example/outlet_to_office/outlettooffice/server/Problem").before a0 Z = true := hw _ (List.mem_of_getElem? (i := 95) rfl)
theorem w_96 {Z : State} {a0 : Array Value} (hw : OW Z a0) : (Jvm.Cond.methodLink "com/example/outlet_to_office/outlettooffice/server/Problems" (25 : Nat) ({ cls := "java/lang/Integer", name := "valueOf", desc := "(I)Ljava/lang/Integer;" } : Jvm.MethodName)).before a0 Z = true := hw _ (List.mem_of_getElem? (i := 96) rfl)
theorem w_97 {Z : State} {a0 : Array Value} (hw : OW Z a0) : (Jvm.Cond.static ({ cls := "java/lang/Integer", name := "valueOf", desc := "(I)Ljava/lang/Integer;" } : Jvm.MethodName)).before a0 Z = true := hw _ (List.mem_of_getElem? (i := 97) rfl)
theorem w_98 {Z : State} {a0 : Array Value} (hw : OW Z a0) : (Jvm.Cond.initialized "java/lang/Integer").before a0 Z = true := hw _ (List.mem_of_getElem? (i := 98) rfl)
theorem w_99 {Z : State} {a0 : Array Value} (hw : OW Z a0) : (Jvm.Cond.code ({ cls := "java/lang/Integer", name := "valueOf", desc := "(I)Ljava/lang/Integer;" } : Jvm.MethodName) jdk_33_method_22_code (1 : Nat) (Option.some (Jvm.ClassFile.FieldType.object "java/lang/Integer"))).before a0 Z = true := hw _ (List.mem_of_getElem? (i := 99) rfl)
theorem w_100 {Z : State} {a0 : Array Value} (hw : OW Z a0) : (Jvm.Cond.fieldLink "java/lang/Integer" (191 : Nat) "java/lang/Integer$IntegerCache" "high" "I").before a0 Z = true := hw _ (List.mem_of_getElem? (i := 100) rfl)
theorem w_101 {Z : State} {a0 : Array Value} (hw : OW Z a0) : (Jvm.Cond.initialized "java/lang/Integer$IntegerCache").before a0 Z = true := hw _ (List.mem_of_getElem? (i := 101) rfl)
theorem w_102 {Z : State} {a0 : Array Value} (hw : OW Z a0) : (Jvm.Cond.classLink "java/lang/Integer" (1 : Nat) "java/lang/Integer").before a0 Z = true := hw _ (List.mem_of_getElem? (i := 102) rfl)
theorem w_103 {Z : State} {a0 : Array Value} (hw : OW Z a0) : (Jvm.Cond.instantiable "java/lang/Integer" (1 : Nat)).before a0 Z = true := hw _ (List.mem_of_getElem? (i := 103) rfl)
theorem w_104 {Z : State} {a0 : Array Value} (hw : OW Z a0) : (Jvm.Cond.methodLink "java/lang/Integer" (199 : Nat) ({ cls := "java/lang/Integer", name := "<init>", desc := "(I)V" } : Jvm.MethodName)).before a0 Z = true := hw _ (List.mem_of_getElem? (i := 104) rfl)
theorem w_105 {Z : State} {a0 : Array Value} (hw : OW Z a0) : (Jvm.Cond.instanceMethod ({ cls := "java/lang/Integer", name := "<init>", desc := "(I)V" } : Jvm.MethodName)).before a0 Z = true := hw _ (List.mem_of_getElem? (i := 105) rfl)
theorem w_107 {Z : State} {a0 : Array Value} (hw : OW Z a0) : (Jvm.Cond.code ({ cls := "java/lang/Integer", name := "<init>", desc := "(I)V" } : Jvm.MethodName) jdk_33_method_23_code (2 : Nat) (Option.none : Option Jvm.ClassFile.FieldType)).before a0 Z = true := hw _ (List.mem_of_getElem? (i := 107) rfl)
theorem w_108 {Z : State} {a0 : Array Value} (hw : OW Z a0) : (Jvm.Cond.methodLink "java/lang/Integer" (202 : Nat) ({ cls := "java/lang/Number", name := "<init>", desc := "()V" } : Jvm.MethodName)).before a0 Z = true := hw _ (List.mem_of_getElem? (i := 108) rfl)
theorem w_109 {Z : State} {a0 : Array Value} (hw : OW Z a0) : (Jvm.Cond.instanceMethod ({ cls := "java/lang/Number", name := "<init>", desc := "()V" } : Jvm.MethodName)).before a0 Z = true := hw _ (List.mem_of_getElem? (i := 109) rfl)
theorem w_112 {Z : State} {a0 : Array Value} (hw : OW Z a0) : (Jvm.Cond.initialized "java/lang/Number").before a0 Z = true := hw _ (List.mem_of_getElem? (i := 112) rfl)
theorem w_113 {Z : State} {a0 : Array Value} (hw : OW Z a0) : (Jvm.Cond.code ({ cls := "java/lang/Number", name := "<init>", desc := "()V" } : Jvm.MethodName) jdk_18_method_1_code (1 : Nat) (Option.none : Option Jvm.ClassFile.FieldType)).before a0 Z = true := hw _ (List.mem_of_getElem? (i := 113) rfl)
theorem w_114 {Z : State} {a0 : Array Value} (hw : OW Z a0) : (Jvm.Cond.methodLink "java/lang/Number" (1 : Nat) ({ cls := "java/lang/Object", name := "<init>", desc := "()V" } : Jvm.MethodName)).before a0 Z = true := hw _ (List.mem_of_getElem? (i := 114) rfl)
theorem w_115 {Z : State} {a0 : Array Value} (hw : OW Z a0) : (Jvm.Cond.fieldLink "java/lang/Integer" (205 : Nat) "java/lang/Integer" "value" "I").before a0 Z = true := hw _ (List.mem_of_getElem? (i := 115) rfl)
theorem w_116 {Z : State} {a0 : Array Value} (hw : OW Z a0) : (Jvm.Cond.laysFinal "java/lang/Integer" "java/lang/Integer" "value" "I").before a0 Z = true := hw _ (List.mem_of_getElem? (i := 116) rfl)
theorem w_117 {Z : State} {a0 : Array Value} (hw : OW Z a0) : (Jvm.Cond.methodLink "com/example/outlet_to_office/outlettooffice/server/Problems" (31 : Nat) ({ cls := "com/example/outlet_to_office/outlettooffice/server/Problem", name := "<init>", desc := "(Ljava/lang/String;Ljava/lang/String;Ljava/lang/String;Ljava/lang/Integer;)V" } : Jvm.MethodName)).before a0 Z = true := hw _ (List.mem_of_getElem? (i := 117) rfl)
theorem w_118 {Z : State} {a0 : Array Value} (hw : OW Z a0) : (Jvm.Cond.instanceMethod ({ cls := "com/example/outlet_to_office/outlettooffice/server/Problem", name := "<init>", desc := "(Ljava/lang/String;Ljava/lang/String;Ljava/lang/String;Ljava/lang/Integer;)V" } : Jvm.MethodName)).before a0 Z = true := hw _ (List.mem_of_getElem? (i := 118) rfl)
theorem w_119 {Z : State} {a0 : Array Value} (hw : OW Z a0) : (Jvm.Cond.code ({ cls := "com/example/outlet_to_office/outlettooffice/server/Problem", name := "<init>", desc := "(Ljava/lang/String;Ljava/lang/String;Ljava/lang/String;Ljava/lang/Integer;)V" } : Jvm.MethodName) prog_21_method_2_code (5 : Nat) (Option.none : Option Jvm.ClassFile.FieldType)).before a0 Z = true := hw _ (List.mem_of_getElem? (i := 119) rfl)
theorem w_120 {Z : State} {a0 : Array Value} (hw : OW Z a0) : (Jvm.Cond.methodLink "com/example/outlet_to_office/outlettooffice/server/Problem" (1 : Nat) ({ cls := "java/lang/Record", name := "<init>", desc := "()V" } : Jvm.MethodName)).before a0 Z = true := hw _ (List.mem_of_getElem? (i := 120) rfl)
theorem w_121 {Z : State} {a0 : Array Value} (hw : OW Z a0) : (Jvm.Cond.instanceMethod ({ cls := "java/lang/Record", name := "<init>", desc := "()V" } : Jvm.MethodName)).before a0 Z = true := hw _ (List.mem_of_getElem? (i := 121) rfl)
theorem w_123 {Z : State} {a0 : Array Value} (hw : OW Z a0) : (Jvm.Cond.initialized "java/lang/Record").before a0 Z = true := hw _ (List.mem_of_getElem? (i := 123) rfl)
theorem w_124 {Z : State} {a0 : Array Value} (hw : OW Z a0) : (Jvm.Cond.code ({ cls := "java/lang/Record", name := "<init>", desc := "()V" } : Jvm.MethodName) jdk_30_method_1_code (1 : Nat) (Option.none : Option Jvm.ClassFile.FieldType)).before a0 Z = true := hw _ (List.mem_of_getElem? (i := 124) rfl)
theorem w_125 {Z : State} {a0 : Array Value} (hw : OW Z a0) : (Jvm.Cond.methodLink "java/lang/Record" (1 : Nat) ({ cls := "java/lang/Object", name := "<init>", desc := "()V" } : Jvm.MethodName)).before a0 Z = true := hw _ (List.mem_of_getElem? (i := 125) rfl)
theorem w_126 {Z : State} {a0 : Array Value} (hw : OW Z a0) : (Jvm.Cond.fieldLink "com/example/outlet_to_office/outlettooffice/server/Problem" (7 : Nat) "com/example/outlet_to_office/outlettooffice/server/Problem" "field" "Ljava/lang/String;").before a0 Z = true := hw _ (List.mem_of_getElem? (i := 126) rfl)
theorem w_127 {Z : State} {a0 : Array Value} (hw : OW Z a0) : (Jvm.Cond.laysFinal "com/example/outlet_to_office/outlettooffice/server/Problem" "com/example/outlet_to_office/outlettooffice/server/Problem" "field" "Ljava/lang/String;").before a0 Z = true := hw _ (List.mem_of_getElem? (i := 127) rfl)
theorem w_128 {Z : State} {a0 : Array Value} (hw : OW Z a0) : (Jvm.Cond.fieldLink "com/example/outlet_to_office/outlettooffice/server/Problem" (13 : Nat) "com/example/outlet_to_office/outlettooffice/server/Problem" "type" "Ljava/lang/String;").before a0 Z = true := hw _ (List.mem_of_getElem? (i := 128) rfl)
theorem w_129 {Z : State} {a0 : Array Value} (hw : OW Z a0) : (Jvm.Cond.laysFinal "com/example/outlet_to_office/outlettooffice/server/Problem" "com/example/outlet_to_office/outlettooffice/server/Problem" "type" "Ljava/lang/String;").before a0 Z = true := hw _ (List.mem_of_getElem? (i := 129) rfl)
theorem w_130 {Z : State} {a0 : Array Value} (hw : OW Z a0) : (Jvm.Cond.fieldLink "com/example/outlet_to_office/outlettooffice/server/Problem" (16 : Nat) "com/example/outlet_to_office/outlettooffice/server/Problem" "message" "Ljava/lang/String;").before a0 Z = true := hw _ (List.mem_of_getElem? (i := 130) rfl)
theorem w_131 {Z : State} {a0 : Array Value} (hw : OW Z a0) : (Jvm.Cond.laysFinal "com/example/outlet_to_office/outlettooffice/server/Problem" "com/example/outlet_to_office/outlettooffice/server/Problem" "message" "Ljava/lang/String;").before a0 Z = true := hw _ (List.mem_of_getElem? (i := 131) rfl)
theorem w_132 {Z : State} {a0 : Array Value} (hw : OW Z a0) : (Jvm.Cond.fieldLink "com/example/outlet_to_office/outlettooffice/server/Problem" (19 : Nat) "com/example/outlet_to_office/outlettooffice/server/Problem" "line" "Ljava/lang/Integer;").before a0 Z = true := hw _ (List.mem_of_getElem? (i := 132) rfl)
theorem w_133 {Z : State} {a0 : Array Value} (hw : OW Z a0) : (Jvm.Cond.laysFinal "com/example/outlet_to_office/outlettooffice/server/Problem" "com/example/outlet_to_office/outlettooffice/server/Problem" "line" "Ljava/lang/Integer;").before a0 Z = true := hw _ (List.mem_of_getElem? (i := 133) rfl)
theorem w_134 {Z : State} {a0 : Array Value} (hw : OW Z a0) : (Jvm.Cond.methodLink "com/example/outlet_to_office/outlettooffice/server/Problems" (21 : Nat) ({ cls := "com/example/outlet_to_office/outlettooffice/server/Problems", name := "add", desc := "(Lcom/example/outlet_to_office/outlettooffice/server/Problem;)V" } : Jvm.MethodName)).before a0 Z = true := hw _ (List.mem_of_getElem? (i := 134) rfl)
theorem w_135 {Z : State} {a0 : Array Value} (hw : OW Z a0) : (Jvm.Cond.instanceMethod ({ cls := "com/example/outlet_to_office/outlettooffice/server/Problems", name := "add", desc := "(Lcom/example/outlet_to_office/outlettooffice/server/Problem;)V" } : Jvm.MethodName)).before a0 Z = true := hw _ (List.mem_of_getElem? (i := 135) rfl)
theorem w_136 {Z : State} {a0 : Array Value} (hw : OW Z a0) : (Jvm.Cond.privateMethod ({ cls := "com/example/outlet_to_office/outlettooffice/server/Problems", name := "add", desc := "(Lcom/example/outlet_to_office/outlettooffice/server/Problem;)V" } : Jvm.MethodName)).before a0 Z = true := hw _ (List.mem_of_getElem? (i := 136) rfl)
theorem w_137 {Z : State} {a0 : Array Value} (hw : OW Z a0) : (Jvm.Cond.code ({ cls := "com/example/outlet_to_office/outlettooffice/server/Problems", name := "add", desc := "(Lcom/example/outlet_to_office/outlettooffice/server/Problem;)V" } : Jvm.MethodName) prog_22_method_4_code (2 : Nat) (Option.none : Option Jvm.ClassFile.FieldType)).before a0 Z = true := hw _ (List.mem_of_getElem? (i := 137) rfl)
theorem w_138 {Z : State} {a0 : Array Value} (hw : OW Z a0) : (Jvm.Cond.methodLink "com/example/outlet_to_office/outlettooffice/server/Problems" (34 : Nat) ({ cls := "java/util/List", name := "size", desc := "()I" } : Jvm.MethodName)).before a0 Z = true := hw _ (List.mem_of_getElem? (i := 138) rfl)
theorem w_139 {Z : State} {a0 : Array Value} (hw : OW Z a0) : (Jvm.Cond.declares ({ cls := "java/util/List", name := "size", desc := "()I" } : Jvm.MethodName)).before a0 Z = true := hw _ (List.mem_of_getElem? (i := 139) rfl)
theorem w_140 {Z : State} {a0 : Array Value} (hw : OW Z a0) : (Jvm.Cond.interfaceMethod "java/util/List" "java/util/List" "size" "()I").before a0 Z = true := hw _ (List.mem_of_getElem? (i := 140) rfl)
theorem w_141 {Z : State} {a0 : Array Value} (hw : OW Z a0) : (Jvm.Cond.selects "java/util/ArrayList" ({ cls := "java/util/List", name := "size", desc := "()I" } : Jvm.MethodName) ({ cls := "java/util/ArrayList", name := "size", desc := "()I" } : Jvm.MethodName)).before a0 Z = true := hw _ (List.mem_of_getElem? (i := 141) rfl)
theorem w_142 {Z : State} {a0 : Array Value} (hw : OW Z a0) : (Jvm.Cond.instanceMethod ({ cls := "java/util/ArrayList", name := "size", desc := "()I" } : Jvm.MethodName)).before a0 Z = true := hw _ (List.mem_of_getElem? (i := 142) rfl)
theorem w_143 {Z : State} {a0 : Array Value} (hw : OW Z a0) : (Jvm.Cond.publicMethod ({ cls := "java/util/ArrayList", name := "size", desc := "()I" } : Jvm.MethodName)).before a0 Z = true := hw _ (List.mem_of_getElem? (i := 143) rfl)
theorem w_144 {Z : State} {a0 : Array Value} (hw : OW Z a0) : (Jvm.Cond.unhidden "java/util/ArrayList" "size" "()I").before a0 Z = true := hw _ (List.mem_of_getElem? (i := 144) rfl)
theorem w_145 {Z : State} {a0 : Array Value} (hw : OW Z a0) : (Jvm.Cond.castable "java/util/ArrayList" "java/util/List").before a0 Z = true := hw _ (List.mem_of_getElem? (i := 145) rfl)
theorem w_146 {Z : State} {a0 : Array Value} (hw : OW Z a0) : (Jvm.Cond.code ({ cls := "java/util/ArrayList", name := "size", desc := "()I" } : Jvm.MethodName) jdk_38_method_8_code (1 : Nat) (Option.some Jvm.ClassFile.FieldType.int)).before a0 Z = true := hw _ (List.mem_of_getElem? (i := 146) rfl)
theorem w_147 {Z : State} {a0 : Array Value} (hw : OW Z a0) : (Jvm.Cond.fieldLink "java/util/ArrayList" (48 : Nat) "java/util/ArrayList" "size" "I").before a0 Z = true := hw _ (List.mem_of_getElem? (i := 147) rfl)
theorem w_148 {Z : State} {a0 : Array Value} (hw : OW Z a0) : (Jvm.Cond.lays "java/util/ArrayList" "java/util/ArrayList" "size" "I").before a0 Z = true := hw _ (List.mem_of_getElem? (i := 148) rfl)
theorem w_149 {Z : State} {a0 : Array Value} (hw : OW Z a0) : (Jvm.Cond.methodLink "com/example/outlet_to_office/outlettooffice/server/Problems" (40 : Nat) ({ cls := "java/util/List", name := "add", desc := "(Ljava/lang/Object;)Z" } : Jvm.MethodName)).before a0 Z = true := hw _ (List.mem_of_getElem? (i := 149) rfl)
theorem w_150 {Z : State} {a0 : Array Value} (hw : OW Z a0) : (Jvm.Cond.declares ({ cls := "java/util/List", name := "add", desc := "(Ljava/lang/Object;)Z" } : Jvm.MethodName)).before a0 Z = true := hw _ (List.mem_of_getElem? (i := 150) rfl)
theorem w_151 {Z : State} {a0 : Array Value} (hw : OW Z a0) : (Jvm.Cond.interfaceMethod "java/util/List" "java/util/List" "add" "(Ljava/lang/Object;)Z").before a0 Z = true := hw _ (List.mem_of_getElem? (i := 151) rfl)
theorem w_152 {Z : State} {a0 : Array Value} (hw : OW Z a0) : (Jvm.Cond.selects "java/util/ArrayList" ({ cls := "java/util/List", name := "add", desc := "(Ljava/lang/Object;)Z" } : Jvm.MethodName) ({ cls := "java/util/ArrayList", name := "add", desc := "(Ljava/lang/Object;)Z" } : Jvm.MethodName)).before a0 Z = true := hw _ (List.mem_of_getElem? (i := 152) rfl)
theorem w_153 {Z : State} {a0 : Array Value} (hw : OW Z a0) : (Jvm.Cond.instanceMethod ({ cls := "java/util/ArrayList", name := "add", desc := "(Ljava/lang/Object;)Z" } : Jvm.MethodName)).before a0 Z = true := hw _ (List.mem_of_getElem? (i := 153) rfl)
theorem w_154 {Z : State} {a0 : Array Value} (hw : OW Z a0) : (Jvm.Cond.publicMethod ({ cls := "java/util/ArrayList", name := "add", desc := "(Ljava/lang/Object;)Z" } : Jvm.MethodName)).before a0 Z = true := hw _ (List.mem_of_getElem? (i := 154) rfl)
theorem w_155 {Z : State} {a0 : Array Value} (hw : OW Z a0) : (Jvm.Cond.unhidden "java/util/ArrayList" "add" "(Ljava/lang/Object;)Z").before a0 Z = true := hw _ (List.mem_of_getElem? (i := 155) rfl)
theorem w_156 {Z : State} {a0 : Array Value} (hw : OW Z a0) : (Jvm.Cond.code ({ cls := "java/util/ArrayList", name := "add", desc := "(Ljava/lang/Object;)Z" } : Jvm.MethodName) jdk_38_method_25_code (2 : Nat) (Option.some Jvm.ClassFile.FieldType.boolean)).before a0 Z = true := hw _ (List.mem_of_getElem? (i := 156) rfl)
theorem w_157 {Z : State} {a0 : Array Value} (hw : OW Z a0) : (Jvm.Cond.fieldLink "java/util/ArrayList" (63 : Nat) "java/util/ArrayList" "modCount" "I").before a0 Z = true := hw _ (List.mem_of_getElem? (i := 157) rfl)
theorem w_158 {Z : State} {a0 : Array Value} (hw : OW Z a0) : (Jvm.Cond.sameField "java/util/ArrayList" "java/util/AbstractList" "modCount" "I").before a0 Z = true := hw _ (List.mem_of_getElem? (i := 158) rfl)
theorem w_159 {Z : State} {a0 : Array Value} (hw : OW Z a0) : (Jvm.Cond.methodLink "java/util/ArrayList" (131 : Nat) ({ cls := "java/util/ArrayList", name := "add", desc := "(Ljava/lang/Object;[Ljava/lang/Object;I)V" } : Jvm.MethodName)).before a0 Z = true := hw _ (List.mem_of_getElem? (i := 159) rfl)
theorem w_160 {Z : State} {a0 : Array Value} (hw : OW Z a0) : (Jvm.Cond.instanceMethod ({ cls := "java/util/ArrayList", name := "add", desc := "(Ljava/lang/Object;[Ljava/lang/Object;I)V" } : Jvm.MethodName)).before a0 Z = true := hw _ (List.mem_of_getElem? (i := 160) rfl)
theorem w_161 {Z : State} {a0 : Array Value} (hw : OW Z a0) : (Jvm.Cond.privateMethod ({ cls := "java/util/ArrayList", name := "add", desc := "(Ljava/lang/Object;[Ljava/lang/Object;I)V" } : Jvm.MethodName)).before a0 Z = true := hw _ (List.mem_of_getElem? (i := 161) rfl)
theorem w_163 {Z : State} {a0 : Array Value} (hw : OW Z a0) : (Jvm.Cond.code ({ cls := "java/util/ArrayList", name := "add", desc := "(Ljava/lang/Object;[Ljava/lang/Object;I)V" } : Jvm.MethodName) jdk_38_method_24_code (4 : Nat) (Option.none : Option Jvm.ClassFile.FieldType)).before a0 Z = true := hw _ (List.mem_of_getElem? (i := 163) rfl)
theorem w_164 {Z : State} {a0 : Array Value} (hw : OW Z a0) : (Jvm.Cond.methodLink "java/util/ArrayList" (129 : Nat) ({ cls := "java/util/ArrayList", name := "grow", desc := "()[Ljava/lang/Object;" } : Jvm.MethodName)).before a0 Z = true := hw _ (List.mem_of_getElem? (i := 164) rfl)
theorem w_165 {Z : State} {a0 : Array Value} (hw : OW Z a0) : (Jvm.Cond.instanceMethod ({ cls := "java/util/ArrayList", name := "grow", desc := "()[Ljava/lang/Object;" } : Jvm.MethodName)).before a0 Z = true := hw _ (List.mem_of_getElem? (i := 165) rfl)
theorem w_166 {Z : State} {a0 : Array Value} (hw : OW Z a0) : (Jvm.Cond.privateMethod ({ cls := "java/util/ArrayList", name := "grow", desc := "()[Ljava/lang/Object;" } : Jvm.MethodName)).before a0 Z = true := hw _ (List.mem_of_getElem? (i := 166) rfl)
theorem w_168 {Z : State} {a0 : Array Value} (hw : OW Z a0) : (Jvm.Cond.code ({ cls := "java/util/ArrayList", name := "grow", desc := "()[Ljava/lang/Object;" } : Jvm.MethodName) jdk_38_method_7_code (1 : Nat) (Option.some (Jvm.ClassFile.FieldType.array (Jvm.ClassFile.FieldType.object "java/lang/Object")))).before a0 Z = true := hw _ (List.mem_of_getElem? (i := 168) rfl)
theorem w_169 {Z : State} {a0 : Array Value} (hw : OW Z a0) : (Jvm.Cond.methodLink "java/util/ArrayList" (69 : Nat) ({ cls := "java/util/ArrayList", name := "grow", desc := "(I)[Ljava/lang/Object;" } : Jvm.MethodName)).before a0 Z = true := hw _ (List.mem_of_getElem? (i := 169) rfl)
theorem w_170 {Z : State} {a0 : Array Value} (hw : OW Z a0) : (Jvm.Cond.instanceMethod ({ cls := "java/util/ArrayList", name := "grow", desc := "(I)[Ljava/lang/Object;" } : Jvm.MethodName)).before a0 Z = true := hw _ (List.mem_of_getElem? (i := 170) rfl)
theorem w_171 {Z : State} {a0 : Array Value} (hw : OW Z a0) : (Jvm.Cond.privateMethod ({ cls := "java/util/ArrayList", name := "grow", desc := "(I)[Ljava/lang/Object;" } : Jvm.MethodName)).before a0 Z = true := hw _ (List.mem_of_getElem? (i := 171) rfl)
theorem w_173 {Z : State} {a0 : Array Value} (hw : OW Z a0) : (Jvm.Cond.code ({ cls := "java/util/ArrayList", name := "grow", desc := "(I)[Ljava/lang/Object;" } : Jvm.MethodName) jdk_38_method_6_code (4 : Nat) (Option.some (Jvm.ClassFile.FieldType.array (Jvm.ClassFile.FieldType.object "java/lang/Object")))).before a0 Z = true := hw _ (List.mem_of_getElem? (i := 173) rfl)
theorem w_174 {Z : State} {a0 : Array Value} (hw : OW Z a0) : (Jvm.Cond.methodLink "java/util/ArrayList" (79 : Nat) ({ cls := "java/lang/Math", name := "max", desc := "(II)I" } : Jvm.MethodName)).before a0 Z = true := hw _ (List.mem_of_getElem? (i := 174) rfl)
theorem w_175 {Z : State} {a0 : Array Value} (hw : OW Z a0) : (Jvm.Cond.static ({ cls := "java/lang/Math", name := "max", desc := "(II)I" } : Jvm.MethodName)).before a0 Z = true := hw _ (List.mem_of_getElem? (i := 175) rfl)
theorem w_176 {Z : State} {a0 : Array Value} (hw : OW Z a0) : (Jvm.Cond.initialized "java/lang/Math").before a0 Z = true := hw _ (List.mem_of_getElem? (i := 176) rfl)
theorem w_177 {Z : State} {a0 : Array Value} (hw : OW Z a0) : (Jvm.Cond.code ({ cls := "java/lang/Math", name := "max", desc := "(II)I" } : Jvm.MethodName) jdk_29_method_65_code (2 : Nat) (Option.some Jvm.ClassFile.FieldType.int)).before a0 Z = true := hw _ (List.mem_of_getElem? (i := 177) rfl)
theorem w_178 {Z : State} {a0 : Array Value} (hw : OW Z a0) : (Jvm.Cond.classLink "java/util/ArrayList" (7 : Nat) "java/lang/Object").before a0 Z = true := hw _ (List.mem_of_getElem? (i := 178) rfl)
theorem w_179 {Z : State} {a0 : Array Value} (hw : OW Z a0) : (Jvm.Cond.arrayOver (Jvm.ClassFile.FieldType.object "java/lang/Object")).before a0 Z = true := hw _ (List.mem_of_getElem? (i := 179) rfl)
theorem w_180 {Z : State} {a0 : Array Value} (hw : OW Z a0) : (Jvm.Cond.castable "com/example/outlet_to_office/outlettooffice/server/Problem" "java/lang/Object").before a0 Z = true := hw _ (List.mem_of_getElem? (i := 180) rfl)
theorem w_181 {Z : State} {a0 : Array Value} (hw : OW Z a0) : (Jvm.Cond.methodLink "com/example/outlet_to_office/outlettooffice/server/ProblemsIsEmptyPinLaw" (29 : Nat) ({ cls := "com/example/outlet_to_office/outlettooffice/server/Problems", name := "add", desc := "(Ljava/lang/String;Ljava/lang/String;Ljava/lang/String;)V" } : Jvm.MethodName)).before a0 Z = true := hw _ (List.mem_of_getElem? (i := 181) rfl)
theorem w_182 {Z : State} {a0 : Array Value} (hw : OW Z a0) : (Jvm.Cond.declares ({ cls := "com/example/outlet_to_office/outlettooffice/server/Problems", name := "add", desc := "(Ljava/lang/String;Ljava/lang/String;Ljava/lang/String;)V" } : Jvm.MethodName)).before a0 Z = true := hw _ (List.mem_of_getElem? (i := 182) rfl)
theorem w_183 {Z : State} {a0 : Array Value} (hw : OW Z a0) : (Jvm.Cond.instanceMethod ({ cls := "com/example/outlet_to_office/outlettooffice/server/Problems", name := "add", desc := "(Ljava/lang/String;Ljava/lang/String;Ljava/lang/String;)V" } : Jvm.MethodName)).before a0 Z = true := hw _ (List.mem_of_getElem? (i := 183) rfl)
theorem w_184 {Z : State} {a0 : Array Value} (hw : OW Z a0) : (Jvm.Cond.selects "com/example/outlet_to_office/outlettooffice/server/Problems" ({ cls := "com/example/outlet_to_office/outlettooffice/server/Problems", name := "add", desc := "(Ljava/lang/String;Ljava/lang/String;Ljava/lang/String;)V" } : Jvm.MethodName) ({ cls := "com/example/outlet_to_office/outlettooffice/server/Problems", name := "add", desc := "(Ljava/lang/String;Ljava/lang/String;Ljava/lang/String;)V" } : Jvm.MethodName)).before a0 Z = true := hw _ (List.mem_of_getElem? (i := 184) rfl)
theorem w_185 {Z : State} {a0 : Array Value} (hw : OW Z a0) : (Jvm.Cond.code ({ cls := "com/example/outlet_to_office/outlettooffice/server/Problems", name := "add", desc := "(Ljava/lang/String;Ljava/lang/String;Ljava/lang/String;)V" } : Jvm.MethodName) prog_22_method_2_code (4 : Nat) (Option.none : Option Jvm.ClassFile.FieldType)).before a0 Z = true := hw _ (List.mem_of_getElem? (i := 185) rfl)
theorem w_186 {Z : State} {a0 : Array Value} (hw : OW Z a0) : (Jvm.Cond.methodLink "com/example/outlet_to_office/outlettooffice/server/Problems" (18 : Nat) ({ cls := "com/example/outlet_to_office/outlettooffice/server/Problem", name := "<init>", desc := "(Ljava/lang/String;Ljava/lang/String;Ljava/lang/String;)V" } : Jvm.MethodName)).before a0 Z = true := hw _ (List.mem_of_getElem? (i := 186) rfl)
theorem w_187 {Z : State} {a0 : Array Value} (hw : OW Z a0) : (Jvm.Cond.instanceMethod ({ cls := "com/example/outlet_to_office/outlettooffice/server/Problem", name := "<init>", desc := "(Ljava/lang/String;Ljava/lang/String;Ljava/lang/String;)V" } : Jvm.MethodName)).before a0 Z = true := hw _ (List.mem_of_getElem? (i := 187) rfl)
theorem w_188 {Z : State} {a0 : Array Value} (hw : OW Z a0) : (Jvm.Cond.code ({ cls := "com/example/outlet_to_office/outlettooffice/server/Problem", name := "<init>", desc := "(Ljava/lang/String;Ljava/lang/String;Ljava/lang/String;)V" } : Jvm.MethodName) prog_21_method_1_code (4 : Nat) (Option.none : Option Jvm.ClassFile.FieldType)).before a0 Z = true := hw _ (List.mem_of_getElem? (i := 188) rfl)
theorem w_189 {Z : State} {a0 : Array Value} (hw : OW Z a0) : (Jvm.Cond.methodLink "com/example/outlet_to_office/outlettooffice/server/Problem" (23 : Nat) ({ cls := "com/example/outlet_to_office/outlettooffice/server/Problem", name := "<init>", desc := "(Ljava/lang/String;Ljava/lang/String;Ljava/lang/String;Ljava/lang/Integer;)V" } : Jvm.MethodName)).before a0 Z = true := hw _ (List.mem_of_getElem? (i := 189) rfl)
theorem w_190 {Z : State} {a0 : Array Value} (hw : OW Z a0) : (Jvm.Cond.fieldLink "java/lang/Integer" (195 : Nat) "java/lang/Integer$IntegerCache" "cache" "[Ljava/lang/Integer;").before a0 Z = true := hw _ (List.mem_of_getElem? (i := 190) rfl)
theorem hws_ {Z : State} {a0 : Array Value} (hw : OW Z a0) : ∀ d ∈ StrChars.Road.words, d.before a0 Z = true := fun d hd => hw d ((by decide +kernel : ∀ d ∈ StrChars.Road.words, d ∈ tables_1) d hd)
theorem own_idx {z : Int32} (h1 : (-128 : Int32).toInt ≤ z.toInt) (h2 : z.toInt ≤ (127 : Int32).toInt) : (z + (128 : Int32)).toInt = (((z.toInt + 128).toNat : Nat) : Int) ∧ (z.toInt + 128).toNat < 256 := by
  have q1 : (-128 : Int32).toInt = -128 := rfl
  have q2 : (127 : Int32).toInt = 127 := rfl
  have q3 : (128 : Int32).toInt = 128 := rfl
  have q4 := c_iadd z 128
  have q5 := rng32 (z + 128)
  omega
theorem own_isref {C : String} {v : Value} (h : fits (.object C) v = true) : v = .null ∨ ∃ q, v = .ref q := by
  cases v <;> first | exact Or.inl rfl | exact Or.inr ⟨_, rfl⟩ | (simp [fits] at h)
theorem own_255 {z : Int32} (h : ¬ (255 : Int32) < z) : z.toInt ≤ (255 : Int32).toInt := by
  rw [Int32.lt_iff_toInt_lt] at h
  omega
theorem o_all1 {P : Int32 → Prop} {a : Int32} (h1 : P a) : ∀ c ∈ [a], P c := by
  intro c hc
  rw [List.mem_singleton] at hc
  subst hc
  exact h1
theorem o_all2 {P : Int32 → Prop} {a b : Int32} (h1 : P a) (h2 : P b) : ∀ c ∈ [a, b], P c := by
  intro c hc
  rcases List.mem_cons.mp hc with rfl | hc
  · exact h1
  · rw [List.mem_singleton] at hc; subst hc; exact h2
theorem d8_0 : decode jdk_43_method_3_code 0 = .ok (.iload_n 0, 1) := by decide +kernel
theorem d8_1 : decode jdk_43_method_3_code 1 = .ok (.sipush 255, 3) := by decide +kernel
theorem d8_4 : decode jdk_43_method_3_code 4 = .ok (.if_icmp .gt 7, 3) := by decide +kernel
theorem d8_7 : decode jdk_43_method_3_code 7 = .ok (.iconst 1, 1) := by decide +kernel
theorem d8_8 : decode jdk_43_method_3_code 8 = .ok (.goto 4, 3) := by decide +kernel
theorem d8_12 : decode jdk_43_method_3_code 12 = .ok (.ireturn, 1) := by decide +kernel
theorem pn_8 : plainFor (⟨"java/lang/StringLatin1", "canEncode", "(C)Z"⟩ : MethodName) = true := plainFor_of_name (by first | (simp [plainName, overriddenIn]; done) | decide +kernel)
set_option maxHeartbeats 4000000 in
theorem c_can (l : Launch) (Z : State) (a0 : Array Value) (hw : OW Z a0) (n0 : Nat) (z : Int32) (h0 : Heap) (Z0 : n0 ≤ h0.size) (hz : z.toInt ≤ (255 : Int32).toInt) :
    OCon l Z n0 (⟨"java/lang/StringLatin1", "canEncode", "(C)Z"⟩ : MethodName) jdk_43_method_3_code 1 (some .boolean) ({ frames := 0, cells := 0, slots := 0, locals := 0 } : Room) #[(.int z)] h0 (fun v h => v = some (.int (1 : Int32)) ∧ h = h0) := by
  refine OCon.of (Ls := #[.val (.int z)]) pn_8 rfl rfl (fun m => by first | (simp [entryFrame, mkF, argsToLocals, Value.category]; done) | rfl) ?_
  intro p e s m below meth c T0 X0 K e0
  have N0 := Fr.nil n0
  refine o_iloadN X0 K d8_0 1 rfl rfl ?_
  refine o_sipush X0 K (255 : Int32) d8_1 4 rfl rfl ?_
  refine o_icmp_gt_f X0 K d8_4 7 rfl (hz) ?_
  refine o_iconst X0 K (1 : Int32) d8_7 8 rfl rfl ?_
  refine o_goto X0 K d8_8 12 (by decide) (by decide) ?_
  refine o_ireturnN X0 K (by decide) d8_12 (by decide) (by decide) N0 ?_
  exact ⟨rfl, e0⟩
theorem d9_0 : decode jdk_43_method_46_code 0 = .ok (.iconst 1, 1) := by decide +kernel
theorem d9_1 : decode jdk_43_method_46_code 1 = .ok (.newarray .byte, 2) := by decide +kernel
theorem d9_3 : decode jdk_43_method_46_code 3 = .ok (.dup, 1) := by decide +kernel
theorem d9_4 : decode jdk_43_method_46_code 4 = .ok (.iconst 0, 1) := by decide +kernel
theorem d9_5 : decode jdk_43_method_46_code 5 = .ok (.iload_n 0, 1) := by decide +kernel
theorem d9_6 : decode jdk_43_method_46_code 6 = .ok (.i2b, 1) := by decide +kernel
theorem d9_7 : decode jdk_43_method_46_code 7 = .ok (.bastore, 1) := by decide +kernel
theorem d9_8 : decode jdk_43_method_46_code 8 = .ok (.areturn, 1) := by decide +kernel
theorem pn_9 : plainFor (⟨"java/lang/StringLatin1", "toBytes", "(C)[B"⟩ : MethodName) = true := plainFor_of_name (by first | (simp [plainName, overriddenIn]; done) | decide +kernel)
set_option maxHeartbeats 4000000 in
theorem c_tob (l : Launch) (Z : State) (a0 : Array Value) (hw : OW Z a0) (n0 : Nat) (z : Int32) (h0 : Heap) (Z0 : n0 ≤ h0.size) :
    OCon l Z n0 (⟨"java/lang/StringLatin1", "toBytes", "(C)[B"⟩ : MethodName) jdk_43_method_46_code 1 (some (.array .byte)) ({ frames := 0, cells := 1, slots := 1, locals := 0 } : Room) #[(.int z)] h0 (fun v h => ∃ tb : Addr, v = some (.ref tb) ∧ Keep h0 h [] ∧ n0 ≤ tb ∧ h0.size ≤ tb) := by
  refine OCon.of (Ls := #[.val (.int z)]) pn_9 rfl rfl (fun m => by first | (simp [entryFrame, mkF, argsToLocals, Value.category]; done) | rfl) ?_
  intro p e s m below meth c T0 X0 K e0
  have N0 := Fr.nil n0
  have KK0 := Keep.refl h0 []
  refine o_iconst X0 K (1 : Int32) d9_0 1 rfl rfl ?_
  refine o_newarray X0 K (n := 1) d9_1 3 rfl (w_19 hw) e0 (by decide) 1 (by decide) (by decide) (by decide) (by decide) rfl ?_
  intro T_1 h_1 tb g_1 X_1 e_1 E_1 A_1
  dsimp only [newarray.typeOf, defaultValue] at A_1
  have Z_1 : n0 ≤ h_1.size := Nat.le_trans Z0 E_1.1
  have K_1 := KK0.ext E_1
  have g_tb : n0 ≤ tb := by rw [g_1]; exact Z0
  have sz_tb : h0.size ≤ tb := by rw [g_1]; exact KK0.1
  refine o_dup X_1 K d9_3 4 rfl rfl ?_
  refine o_iconst X_1 K (0 : Int32) d9_4 5 rfl rfl ?_
  refine o_iloadN X_1 K d9_5 6 rfl rfl ?_
  refine o_i2b X_1 K d9_6 7 rfl ?_
  refine o_bastore X_1 K (i := 0) (x' := (z.toInt8.toInt32)) d9_7 8 rfl e_1 A_1 (by decide) (by decide) (o_nb _) N0 g_tb ?_
  intro T_2 h_2 locs_2 X_2 e_2 W_2 A_2 N_2
  have Z_2 : n0 ≤ h_2.size := by rw [Wr.size W_2]; exact Z_1
  have K_2 := K_1.wr W_2 (Or.inr sz_tb)
  refine o_areturn X_2 K rfl rfl rfl d9_8 (by decide) (by decide) N_2 ?_
  rw [e_2]
  exact ⟨tb, rfl, K_2, g_tb, sz_tb⟩
theorem d10_0 : decode jdk_42_method_151_code 0 = .ok (.aload_n 0, 1) := by decide +kernel
theorem d10_1 : decode jdk_42_method_151_code 1 = .ok (.invokespecial 1, 3) := by decide +kernel
theorem d10_4 : decode jdk_42_method_151_code 4 = .ok (.aload_n 0, 1) := by decide +kernel
theorem d10_5 : decode jdk_42_method_151_code 5 = .ok (.aload_n 1, 1) := by decide +kernel
theorem d10_6 : decode jdk_42_method_151_code 6 = .ok (.putfield 9, 3) := by decide +kernel
theorem d10_9 : decode jdk_42_method_151_code 9 = .ok (.aload_n 0, 1) := by decide +kernel
theorem d10_10 : decode jdk_42_method_151_code 10 = .ok (.iload_n 2, 1) := by decide +kernel
theorem d10_11 : decode jdk_42_method_151_code 11 = .ok (.putfield 15, 3) := by decide +kernel
theorem d10_14 : decode jdk_42_method_151_code 14 = .ok (.return_, 1) := by decide +kernel
theorem pn_10 : plainFor (⟨"java/lang/String", "<init>", "([BB)V"⟩ : MethodName) = true := plainFor_of_name (by first | (simp [plainName, overriddenIn]; done) | decide +kernel)
set_option maxHeartbeats 4000000 in
theorem c_sinit (l : Launch) (Z : State) (a0 : Array Value) (hw : OW Z a0) (n0 : Nat) (a tb : Addr) (h0 : Heap) (Z0 : n0 ≤ h0.size) (E_a : Exa Z h0 a "java/lang/String") (F_a_value : Fld Z h0 a "java/lang/String" "value" "[B" .null) (F_a_coder : Fld Z h0 a "java/lang/String" "coder" "B" (.int (0 : Int32))) (g_a : n0 ≤ a) :
    OCon l Z n0 (⟨"java/lang/String", "<init>", "([BB)V"⟩ : MethodName) jdk_42_method_151_code 3 none ({ frames := 1, cells := 0, slots := 0, locals := 12 } : Room) #[(.ref a), (.ref tb), (.int (0 : Int32))] h0 (fun v h => v = none ∧ Keep h0 h [a]) := by
  refine OCon.of (Ls := #[.val (.ref a), .val (.ref tb), .val (.int (0 : Int32))]) pn_10 rfl rfl (fun m => by first | (simp [entryFrame, mkF, argsToLocals, Value.category]; done) | rfl) ?_
  intro p e s m below meth c T0 X0 K e0
  have N0 := Fr.nil n0
  have KK0 := Keep.refl h0 [a]
  refine o_aloadN X0 K d10_0 1 rfl rfl rfl ?_
  refine o_initO X0 K d10_1 4 rfl (w_11 hw) (w_12 hw) (w_13 hw) e0 rfl (by decide) 0 (Nat.le_of_eq rfl) (by decide) ?_
  intro T_3 X_3 e_3
  refine o_aloadN X_3 K d10_4 5 rfl rfl rfl ?_
  refine o_aloadN X_3 K d10_5 6 rfl rfl rfl ?_
  refine o_putfield X_3 K (host := "") (ty := (.array .byte)) d10_6 9 rfl (Or.inl (w_28 hw)) Via.refl e_3 F_a_value E_a (Or.inr ⟨(w_29 hw), rfl, rfl⟩) (w_1 hw) (by decide) rfl rfl N0 g_a ?_
  intro T_4 h_4 locs_4 X_4 e_4 W_4 N_4
  have Z_4 : n0 ≤ h_4.size := by rw [Wr.size W_4]; exact Z0
  have K_4 := KK0.wr W_4 (Or.inl (by simp))
  have f_5 := Exa.wr W_4 E_a
  have f_6 := Fld.same W_4 F_a_value
  have f_7 := Fld.other W_4 F_a_coder (Or.inr (slot_ne (Or.inr (w_27 hw)) (Or.inr (w_29 hw)) (by decide) (t := .byte) (t' := (.array .byte)) (by decide) (by decide)))
  refine o_aloadN X_4 K d10_9 10 rfl rfl rfl ?_
  refine o_iloadN X_4 K d10_10 11 rfl rfl ?_
  refine o_putfieldN X_4 K (v' := (.int (0 : Int32))) (ty := .byte) d10_11 14 rfl (w_26 hw) Via.refl e_4 f_7 f_5 (Or.inr ⟨(w_27 hw), rfl, rfl⟩) (w_1 hw) (by decide) (rfl) (by decide) N_4 g_a ?_
  intro T_8 h_8 locs_8 X_8 e_8 W_8 N_8
  have Z_8 : n0 ≤ h_8.size := by rw [Wr.size W_8]; exact Z_4
  have K_8 := K_4.wr W_8 (Or.inl (by simp))
  have f_9 := Exa.wr W_8 f_5
  have f_10 := Fld.other W_8 f_6 (Or.inr (slot_ne (Or.inr (w_29 hw)) (Or.inr (w_27 hw)) (by decide) (t := (.array .byte)) (t' := .byte) (by decide) (by decide)))
  have f_11 := Fld.same W_8 f_7
  refine o_return X_8 K d10_14 (by decide) (by decide) N_8 ?_
  rw [e_8]
  exact ⟨rfl, K_8⟩
theorem d7_0 : decode jdk_42_method_139_code 0 = .ok (.getstatic 38, 3) := by decide +kernel
theorem d7_3 : decode jdk_42_method_139_code 3 = .ok (.ifCond .eq 23, 3) := by decide +kernel
theorem d7_6 : decode jdk_42_method_139_code 6 = .ok (.iload_n 0, 1) := by decide +kernel
theorem d7_7 : decode jdk_42_method_139_code 7 = .ok (.invokestatic 1015, 3) := by decide +kernel
theorem pd__C_Z : parseMethodDescriptor "(C)Z" = some ⟨[.char], some .boolean⟩ := by decide +kernel
theorem d7_10 : decode jdk_42_method_139_code 10 = .ok (.ifCond .eq 16, 3) := by decide +kernel
theorem d7_13 : decode jdk_42_method_139_code 13 = .ok (.new 10, 3) := by decide +kernel
theorem d7_16 : decode jdk_42_method_139_code 16 = .ok (.dup, 1) := by decide +kernel
theorem d7_17 : decode jdk_42_method_139_code 17 = .ok (.iload_n 0, 1) := by decide +kernel
theorem d7_18 : decode jdk_42_method_139_code 18 = .ok (.invokestatic 1018, 3) := by decide +kernel
theorem pd__C__B : parseMethodDescriptor "(C)[B" = some ⟨[.char], some (.array .byte)⟩ := by decide +kernel
theorem d7_21 : decode jdk_42_method_139_code 21 = .ok (.iconst 0, 1) := by decide +kernel
theorem d7_22 : decode jdk_42_method_139_code 22 = .ok (.invokespecial 209, 3) := by decide +kernel
theorem pd___BB_V : parseMethodDescriptor "([BB)V" = some ⟨[(.array .byte), .byte], none⟩ := by decide +kernel
theorem d7_25 : decode jdk_42_method_139_code 25 = .ok (.areturn, 1) := by decide +kernel
theorem pn_7 : plainFor (⟨"java/lang/String", "valueOf", "(C)Ljava/lang/String;"⟩ : MethodName) = true := plainFor_of_name (by first | (simp [plainName, overriddenIn]; done) | decide +kernel)
set_option maxHeartbeats 4000000 in
theorem c_sval (l : Launch) (Z : State) (a0 : Array Value) (hw : OW Z a0) (n0 : Nat) (z zcs : Int32) (h0 : Heap) (Z0 : n0 ≤ h0.size) (S_COMPACT_STRINGS : Sta Z h0 "java/lang/String" "COMPACT_STRINGS" "Z" (.int zcs)) (hcs : ¬ zcs = 0) (hz : z.toInt ≤ (255 : Int32).toInt) :
    OCon l Z n0 (⟨"java/lang/String", "valueOf", "(C)Ljava/lang/String;"⟩ : MethodName) jdk_42_method_139_code 1 (some (.object "java/lang/String")) ({ frames := 2, cells := 2, slots := 5, locals := 30 } : Room) #[(.int z)] h0 (fun v h => ∃ sx : Addr, v = some (.ref sx) ∧ Keep h0 h [] ∧ n0 ≤ sx ∧ h0.size ≤ sx) := by
  refine OCon.of (Ls := #[.val (.int z)]) pn_7 rfl rfl (fun m => by first | (simp [entryFrame, mkF, argsToLocals, Value.category]; done) | rfl) ?_
  intro p e s m below meth c T0 X0 K e0
  have N0 := Fr.nil n0
  have KK0 := Keep.refl h0 []
  refine o_getstatic X0 K (host := "") d7_0 3 rfl (Or.inl (w_14 hw)) Via.refl e0 S_COMPACT_STRINGS ?_
  intro T_12 X_12 e_12
  refine o_if_eq_f X_12 K d7_3 6 rfl (hcs) ?_
  refine o_iloadN X_12 K d7_6 7 rfl rfl ?_
  refine o_invokestatic X_12 K d7_7 10 rfl (w_33 hw) (w_34 hw) (w_35 hw) (w_36 hw) (by decide) [(.int z)] [] rfl  (c_can l Z a0 hw n0 z h0 Z0 (hz)) e_12 rfl (lenOf pd__C_Z rfl) (by decide) 0 (Nat.le_of_eq rfl) (by decide) (by decide) (by decide) N0 ?_
  rintro _ T_13 h_13 locs_13 X_13 q_13 ⟨rfl, r_13⟩ N_13
  have e_13 := q_13.trans r_13
  show OGo p e below _ n0 _ (T_13.setTop (mkF m 10 #[.val (.int z)] [(.int (1 : Int32))]))
  refine o_if_eq_f X_13 K d7_10 13 rfl (by decide) ?_
  refine o_new X_13 K d7_13 16 rfl (w_37 hw) (w_1 hw) (w_2 hw) e_13 (by decide) (by decide) ?_
  intro T_14 h_14 sx g_14 X_14 e_14 E_14 B_14 D_14
  have Z_14 : n0 ≤ h_14.size := Nat.le_trans Z0 E_14.1
  have K_14 := KK0.ext E_14
  have f_15 := Sta.ext E_14 S_COMPACT_STRINGS
  have g_sx : n0 ≤ sx := by rw [g_14]; exact Z0
  have sz_sx : h0.size ≤ sx := by rw [g_14]; exact KK0.1
  have F_coder__14 : Fld Z h_14 sx "java/lang/String" "coder" "B" (.int (0 : Int32)) := D_14 (Or.inr (w_27 hw)) (ty := .byte) (by decide)
  have F_value__14 : Fld Z h_14 sx "java/lang/String" "value" "[B" .null := D_14 (Or.inr (w_29 hw)) (ty := (.array .byte)) (by decide)
  refine o_dup X_14 K d7_16 17 rfl rfl ?_
  refine o_iloadN X_14 K d7_17 18 rfl rfl ?_
  refine o_invokestatic X_14 K d7_18 21 rfl (w_38 hw) (w_39 hw) (w_35 hw) (w_40 hw) (by decide) [(.int z)] [(.ref sx), (.ref sx)] rfl  (c_tob l Z a0 hw n0 z h_14 Z_14 ) e_14 rfl (lenOf pd__C__B rfl) (by decide) 2 (Nat.le_of_eq rfl) (by decide) (by decide) (by decide) N_13 ?_
  rintro _ T_16 h_16 locs_16 X_16 e_16 ⟨tb, rfl, k_16, gg_16_tb, sz_16_tb⟩ N_16
  have Z_16 : n0 ≤ h_16.size := Nat.le_trans Z_14 k_16.1
  have K_16 := K_14.trans k_16 (all0)
  have f_17 := o_sta_keep f_15 k_16 (o_plain0)
  have f_18 := Exa.keep B_14 k_16
  have f_19 := Fld.keep F_coder__14 k_16 (nin0)
  have f_20 := Fld.keep F_value__14 k_16 (nin0)
  have ne_sx_tb : sx ≠ tb := Nat.ne_of_lt (Nat.lt_of_lt_of_le B_14.lt sz_16_tb)
  have sz_tb : h0.size ≤ tb := Nat.le_trans K_14.1 sz_16_tb
  show OGo p e below _ n0 _ (T_16.setTop (mkF m 21 #[.val (.int z)] [(.ref tb), (.ref sx), (.ref sx)]))
  refine o_iconst X_16 K (0 : Int32) d7_21 22 rfl rfl ?_
  refine o_invokespecial X_16 K d7_22 25 rfl rfl (w_41 hw) (w_42 hw) (w_2 hw) (w_43 hw) (by decide) [(.ref tb), (.int (0 : Int32))] [(.ref sx)] rfl  (c_sinit l Z a0 hw n0 sx tb h_16 Z_16 f_18 f_20 f_19 g_sx) e_16 rfl (lenOf pd___BB_V rfl) (by decide) 1 (Nat.le_of_eq rfl) (by decide) (by decide) (by decide) N_16 ?_
  rintro _ T_21 h_21 locs_21 X_21 e_21 ⟨rfl, k_21⟩ N_21
  have Z_21 : n0 ≤ h_21.size := Nat.le_trans Z_16 k_21.1
  have K_21 := K_16.trans k_21 (allS (Or.inr sz_sx) (all0))
  have f_22 := o_sta_keep f_17 k_21 (o_plainS f_18 (o_plain0))
  have f_23 := Exa.keep f_18 k_21
  show OGo p e below _ n0 _ (T_21.setTop (mkF m 25 #[.val (.int z)] [(.ref sx)]))
  refine o_areturn X_21 K rfl rfl rfl d7_25 (by decide) (by decide) N_21 ?_
  rw [e_21]
  exact ⟨sx, rfl, K_21, g_sx, sz_sx⟩
theorem d14_0 : decode jdk_22_method_1_code 0 = .ok (.aload_n 0, 1) := by decide +kernel
theorem d14_1 : decode jdk_22_method_1_code 1 = .ok (.invokespecial 1, 3) := by decide +kernel
theorem d14_4 : decode jdk_22_method_1_code 4 = .ok (.return_, 1) := by decide +kernel
theorem pn_14 : plainFor (⟨"java/util/AbstractCollection", "<init>", "()V"⟩ : MethodName) = true := plainFor_of_name (by first | (simp [plainName, overriddenIn]; done) | decide +kernel)
set_option maxHeartbeats 4000000 in
theorem c_aci (l : Launch) (Z : State) (a0 : Array Value) (hw : OW Z a0) (n0 : Nat) (a : Addr) (h0 : Heap) (Z0 : n0 ≤ h0.size) :
    OCon l Z n0 (⟨"java/util/AbstractCollection", "<init>", "()V"⟩ : MethodName) jdk_22_method_1_code 1 none ({ frames := 1, cells := 0, slots := 0, locals := 12 } : Room) #[(.ref a)] h0 (fun v h => v = none ∧ h = h0) := by
  refine OCon.of (Ls := #[.val (.ref a)]) pn_14 rfl rfl (fun m => by first | (simp [entryFrame, mkF, argsToLocals, Value.category]; done) | rfl) ?_
  intro p e s m below meth c T0 X0 K e0
  have N0 := Fr.nil n0
  refine o_aloadN X0 K d14_0 1 rfl rfl rfl ?_
  refine o_initO X0 K d14_1 4 rfl (w_69 hw) (w_12 hw) (w_13 hw) e0 rfl (by decide) 0 (Nat.le_of_eq rfl) (by decide) ?_
  intro T_24 X_24 e_24
  refine o_return X_24 K d14_4 (by decide) (by decide) N0 ?_
  exact ⟨rfl, e_24⟩
theorem d20_0 : decode jdk_18_method_1_code 0 = .ok (.aload_n 0, 1) := by decide +kernel
theorem d20_1 : decode jdk_18_method_1_code 1 = .ok (.invokespecial 1, 3) := by decide +kernel
theorem d20_4 : decode jdk_18_method_1_code 4 = .ok (.return_, 1) := by decide +kernel
theorem pn_20 : plainFor (⟨"java/lang/Number", "<init>", "()V"⟩ : MethodName) = true := plainFor_of_name (by first | (simp [plainName, overriddenIn]; done) | decide +kernel)
set_option maxHeartbeats 4000000 in
theorem c_num (l : Launch) (Z : State) (a0 : Array Value) (hw : OW Z a0) (n0 : Nat) (a : Addr) (h0 : Heap) (Z0 : n0 ≤ h0.size) :
    OCon l Z n0 (⟨"java/lang/Number", "<init>", "()V"⟩ : MethodName) jdk_18_method_1_code 1 none ({ frames := 1, cells := 0, slots := 0, locals := 12 } : Room) #[(.ref a)] h0 (fun v h => v = none ∧ h = h0) := by
  refine OCon.of (Ls := #[.val (.ref a)]) pn_20 rfl rfl (fun m => by first | (simp [entryFrame, mkF, argsToLocals, Value.category]; done) | rfl) ?_
  intro p e s m below meth c T0 X0 K e0
  have N0 := Fr.nil n0
  refine o_aloadN X0 K d20_0 1 rfl rfl rfl ?_
  refine o_initO X0 K d20_1 4 rfl (w_114 hw) (w_12 hw) (w_13 hw) e0 rfl (by decide) 0 (Nat.le_of_eq rfl) (by decide) ?_
  intro T_25 X_25 e_25
  refine o_return X_25 K d20_4 (by decide) (by decide) N0 ?_
  exact ⟨rfl, e_25⟩
theorem d22_0 : decode jdk_30_method_1_code 0 = .ok (.aload_n 0, 1) := by decide +kernel
theorem d22_1 : decode jdk_30_method_1_code 1 = .ok (.invokespecial 1, 3) := by decide +kernel
theorem d22_4 : decode jdk_30_method_1_code 4 = .ok (.return_, 1) := by decide +kernel
theorem pn_22 : plainFor (⟨"java/lang/Record", "<init>", "()V"⟩ : MethodName) = true := plainFor_of_name (by first | (simp [plainName, overriddenIn]; done) | decide +kernel)
set_option maxHeartbeats 4000000 in
theorem c_rec (l : Launch) (Z : State) (a0 : Array Value) (hw : OW Z a0) (n0 : Nat) (a : Addr) (h0 : Heap) (Z0 : n0 ≤ h0.size) :
    OCon l Z n0 (⟨"java/lang/Record", "<init>", "()V"⟩ : MethodName) jdk_30_method_1_code 1 none ({ frames := 1, cells := 0, slots := 0, locals := 12 } : Room) #[(.ref a)] h0 (fun v h => v = none ∧ h = h0) := by
  refine OCon.of (Ls := #[.val (.ref a)]) pn_22 rfl rfl (fun m => by first | (simp [entryFrame, mkF, argsToLocals, Value.category]; done) | rfl) ?_
  intro p e s m below meth c T0 X0 K e0
  have N0 := Fr.nil n0
  refine o_aloadN X0 K d22_0 1 rfl rfl rfl ?_
  refine o_initO X0 K d22_1 4 rfl (w_125 hw) (w_12 hw) (w_13 hw) e0 rfl (by decide) 0 (Nat.le_of_eq rfl) (by decide) ?_
  intro T_26 X_26 e_26
  refine o_return X_26 K d22_4 (by decide) (by decide) N0 ?_
  exact ⟨rfl, e_26⟩
theorem d13_0 : decode jdk_39_method_1_code 0 = .ok (.aload_n 0, 1) := by decide +kernel
theorem d13_1 : decode jdk_39_method_1_code 1 = .ok (.invokespecial 1, 3) := by decide +kernel
theorem pd___V : parseMethodDescriptor "()V" = some ⟨[], none⟩ := by decide +kernel
theorem d13_4 : decode jdk_39_method_1_code 4 = .ok (.aload_n 0, 1) := by decide +kernel
theorem d13_5 : decode jdk_39_method_1_code 5 = .ok (.iconst 0, 1) := by decide +kernel
theorem d13_6 : decode jdk_39_method_1_code 6 = .ok (.putfield 7, 3) := by decide +kernel
theorem d13_9 : decode jdk_39_method_1_code 9 = .ok (.return_, 1) := by decide +kernel
theorem pn_13 : plainFor (⟨"java/util/AbstractList", "<init>", "()V"⟩ : MethodName) = true := plainFor_of_name (by first | (simp [plainName, overriddenIn]; done) | decide +kernel)
set_option maxHeartbeats 4000000 in
theorem c_abl (l : Launch) (Z : State) (a0 : Array Value) (hw : OW Z a0) (n0 : Nat) (li : Addr) (h0 : Heap) (Z0 : n0 ≤ h0.size) (E_li : Exa Z h0 li "java/util/ArrayList") (F_li_modCount : Fld Z h0 li "java/util/AbstractList" "modCount" "I" (.int (0 : Int32))) (F_li_elementData : Fld Z h0 li "java/util/ArrayList" "elementData" "[Ljava/lang/Object;" .null) (F_li_size : Fld Z h0 li "java/util/ArrayList" "size" "I" (.int (0 : Int32))) (g_li : n0 ≤ li) :
    OCon l Z n0 (⟨"java/util/AbstractList", "<init>", "()V"⟩ : MethodName) jdk_39_method_1_code 1 none ({ frames := 2, cells := 0, slots := 0, locals := 24 } : Room) #[(.ref li)] h0 (fun v h => v = none ∧ Keep h0 h [li] ∧ Exa Z h li "java/util/ArrayList" ∧ Fld Z h li "java/util/AbstractList" "modCount" "I" (.int (0 : Int32)) ∧ Fld Z h li "java/util/ArrayList" "elementData" "[Ljava/lang/Object;" .null ∧ Fld Z h li "java/util/ArrayList" "size" "I" (.int (0 : Int32))) := by
  refine OCon.of (Ls := #[.val (.ref li)]) pn_13 rfl rfl (fun m => by first | (simp [entryFrame, mkF, argsToLocals, Value.category]; done) | rfl) ?_
  intro p e s m below meth c T0 X0 K e0
  have N0 := Fr.nil n0
  have KK0 := Keep.refl h0 [li]
  refine o_aloadN X0 K d13_0 1 rfl rfl rfl ?_
  refine o_invokespecial X0 K d13_1 4 rfl rfl (w_63 hw) (w_64 hw) (w_67 hw) (w_68 hw) (by decide) [] [] rfl  (c_aci l Z a0 hw n0 li h0 Z0 ) e0 rfl (lenOf pd___V rfl) (by decide) 0 (Nat.le_of_eq rfl) (by decide) (by decide) (by decide) N0 ?_
  rintro _ T_27 h_27 locs_27 X_27 q_27 ⟨rfl, r_27⟩ N_27
  have e_27 := q_27.trans r_27
  show OGo p e below _ n0 _ (T_27.setTop (mkF m 4 #[.val (.ref li)] []))
  refine o_aloadN X_27 K d13_4 5 rfl rfl rfl ?_
  refine o_iconst X_27 K (0 : Int32) d13_5 6 rfl rfl ?_
  refine o_putfield X_27 K (host := "") (ty := .int) d13_6 9 rfl (Or.inl (w_70 hw)) Via.refl e_27 F_li_modCount E_li (Or.inl (w_71 hw)) (w_52 hw) (by decide) rfl rfl N_27 g_li ?_
  intro T_28 h_28 locs_28 X_28 e_28 W_28 N_28
  have Z_28 : n0 ≤ h_28.size := by rw [Wr.size W_28]; exact Z0
  have K_28 := KK0.wr W_28 (Or.inl (by simp))
  have f_29 := Exa.wr W_28 E_li
  have f_30 := Fld.same W_28 F_li_modCount
  have f_31 := Fld.other W_28 F_li_elementData (Or.inr (slot_ne (Or.inl (w_74 hw)) (Or.inl (w_71 hw)) (by decide) (t := (.array (.object "java/lang/Object"))) (t' := .int) (by decide) (by decide)))
  have f_32 := Fld.other W_28 F_li_size (Or.inr (slot_ne (Or.inl (w_148 hw)) (Or.inl (w_71 hw)) (by decide) (t := .int) (t' := .int) (by decide) (by decide)))
  refine o_return X_28 K d13_9 (by decide) (by decide) N_28 ?_
  rw [e_28]
  exact ⟨rfl, K_28, f_29, f_30, f_31, f_32⟩
theorem d12_0 : decode jdk_38_method_2_code 0 = .ok (.aload_n 0, 1) := by decide +kernel
theorem d12_1 : decode jdk_38_method_2_code 1 = .ok (.invokespecial 1, 3) := by decide +kernel
theorem d12_4 : decode jdk_38_method_2_code 4 = .ok (.aload_n 0, 1) := by decide +kernel
theorem d12_5 : decode jdk_38_method_2_code 5 = .ok (.getstatic 39, 3) := by decide +kernel
theorem d12_8 : decode jdk_38_method_2_code 8 = .ok (.putfield 9, 3) := by decide +kernel
theorem d12_11 : decode jdk_38_method_2_code 11 = .ok (.return_, 1) := by decide +kernel
theorem pn_12 : plainFor (⟨"java/util/ArrayList", "<init>", "()V"⟩ : MethodName) = true := plainFor_of_name (by first | (simp [plainName, overriddenIn]; done) | decide +kernel)
set_option maxHeartbeats 4000000 in
theorem c_ali (l : Launch) (Z : State) (a0 : Array Value) (hw : OW Z a0) (n0 : Nat) (li de : Addr) (h0 : Heap) (Z0 : n0 ≤ h0.size) (S_DEFAULTCAPACITY_EMPTY_ELEMENTDATA : Sta Z h0 "java/util/ArrayList" "DEFAULTCAPACITY_EMPTY_ELEMENTDATA" "[Ljava/lang/Object;" (.ref de)) (E_li : Exa Z h0 li "java/util/ArrayList") (F_li_modCount : Fld Z h0 li "java/util/AbstractList" "modCount" "I" (.int (0 : Int32))) (F_li_elementData : Fld Z h0 li "java/util/ArrayList" "elementData" "[Ljava/lang/Object;" .null) (F_li_size : Fld Z h0 li "java/util/ArrayList" "size" "I" (.int (0 : Int32))) (g_li : n0 ≤ li) :
    OCon l Z n0 (⟨"java/util/ArrayList", "<init>", "()V"⟩ : MethodName) jdk_38_method_2_code 1 none ({ frames := 3, cells := 0, slots := 0, locals := 36 } : Room) #[(.ref li)] h0 (fun v h => v = none ∧ Keep h0 h [li] ∧ Exa Z h li "java/util/ArrayList" ∧ Fld Z h li "java/util/AbstractList" "modCount" "I" (.int (0 : Int32)) ∧ Fld Z h li "java/util/ArrayList" "elementData" "[Ljava/lang/Object;" (.ref de) ∧ Fld Z h li "java/util/ArrayList" "size" "I" (.int (0 : Int32))) := by
  refine OCon.of (Ls := #[.val (.ref li)]) pn_12 rfl rfl (fun m => by first | (simp [entryFrame, mkF, argsToLocals, Value.category]; done) | rfl) ?_
  intro p e s m below meth c T0 X0 K e0
  have N0 := Fr.nil n0
  have KK0 := Keep.refl h0 [li]
  refine o_aloadN X0 K d12_0 1 rfl rfl rfl ?_
  refine o_invokespecial X0 K d12_1 4 rfl rfl (w_57 hw) (w_58 hw) (w_61 hw) (w_62 hw) (by decide) [] [] rfl  (c_abl l Z a0 hw n0 li h0 Z0 E_li F_li_modCount F_li_elementData F_li_size g_li) e0 rfl (lenOf pd___V rfl) (by decide) 0 (Nat.le_of_eq rfl) (by decide) (by decide) (by decide) N0 ?_
  rintro _ T_33 h_33 locs_33 X_33 e_33 ⟨rfl, k_33, p_33f0, p_33f1, p_33f2, p_33f3⟩ N_33
  have Z_33 : n0 ≤ h_33.size := Nat.le_trans Z0 k_33.1
  have K_33 := KK0.trans k_33 (allS (Or.inl (by simp)) (all0))
  have f_34 := o_sta_keep S_DEFAULTCAPACITY_EMPTY_ELEMENTDATA k_33 (o_plainS E_li (o_plain0))
  have f_35 := Exa.keep E_li k_33
  show OGo p e below _ n0 _ (T_33.setTop (mkF m 4 #[.val (.ref li)] []))
  refine o_aloadN X_33 K d12_4 5 rfl rfl rfl ?_
  refine o_getstatic X_33 K (host := "") d12_5 8 rfl (Or.inl (w_72 hw)) Via.refl e_33 f_34 ?_
  intro T_36 X_36 e_36
  refine o_putfield X_36 K (host := "") (ty := (.array (.object "java/lang/Object"))) d12_8 11 rfl (Or.inl (w_73 hw)) Via.refl e_36 p_33f2 p_33f0 (Or.inl (w_74 hw)) (w_52 hw) (by decide) rfl rfl N_33 g_li ?_
  intro T_37 h_37 locs_37 X_37 e_37 W_37 N_37
  have Z_37 : n0 ≤ h_37.size := by rw [Wr.size W_37]; exact Z_33
  have K_37 := K_33.wr W_37 (Or.inl (by simp))
  have f_38 := Sta.wr W_37 f_34
  have f_39 := Exa.wr W_37 p_33f0
  have f_40 := Fld.other W_37 p_33f1 (Or.inr (slot_ne (Or.inl (w_71 hw)) (Or.inl (w_74 hw)) (by decide) (t := .int) (t' := (.array (.object "java/lang/Object"))) (by decide) (by decide)))
  have f_41 := Fld.same W_37 p_33f2
  have f_42 := Fld.other W_37 p_33f3 (Or.inr (slot_ne (Or.inl (w_148 hw)) (Or.inl (w_74 hw)) (by decide) (t := .int) (t' := (.array (.object "java/lang/Object"))) (by decide) (by decide)))
  refine o_return X_37 K d12_11 (by decide) (by decide) N_37 ?_
  rw [e_37]
  exact ⟨rfl, K_37, f_39, f_40, f_41, f_42⟩
theorem d11_0 : decode prog_22_method_1_code 0 = .ok (.aload_n 0, 1) := by decide +kernel
theorem d11_1 : decode prog_22_method_1_code 1 = .ok (.invokespecial 1, 3) := by decide +kernel
theorem d11_4 : decode prog_22_method_1_code 4 = .ok (.aload_n 0, 1) := by decide +kernel
theorem d11_5 : decode prog_22_method_1_code 5 = .ok (.new 7, 3) := by decide +kernel
theorem d11_8 : decode prog_22_method_1_code 8 = .ok (.dup, 1) := by decide +kernel
theorem d11_9 : decode prog_22_method_1_code 9 = .ok (.invokespecial 9, 3) := by decide +kernel
theorem d11_12 : decode prog_22_method_1_code 12 = .ok (.putfield 10, 3) := by decide +kernel
theorem d11_15 : decode prog_22_method_1_code 15 = .ok (.return_, 1) := by decide +kernel
theorem pn_11 : plainFor (⟨"com/example/outlet_to_office/outlettooffice/server/Problems", "<init>", "()V"⟩ : MethodName) = true := plainFor_of_name (by first | (simp [plainName, overriddenIn]; done) | decide +kernel)
set_option maxHeartbeats 4000000 in
theorem c_prinit (l : Launch) (Z : State) (a0 : Array Value) (hw : OW Z a0) (n0 : Nat) (a de : Addr) (h0 : Heap) (Z0 : n0 ≤ h0.size) (S_DEFAULTCAPACITY_EMPTY_ELEMENTDATA : Sta Z h0 "java/util/ArrayList" "DEFAULTCAPACITY_EMPTY_ELEMENTDATA" "[Ljava/lang/Object;" (.ref de)) (E_a : Exa Z h0 a "com/example/outlet_to_office/outlettooffice/server/Problems") (F_a_listed : Fld Z h0 a "com/example/outlet_to_office/outlettooffice/server/Problems" "listed" "Ljava/util/List;" .null) (F_a_count : Fld Z h0 a "com/example/outlet_to_office/outlettooffice/server/Problems" "count" "J" (.long (0 : Int64))) (g_a : n0 ≤ a) :
    OCon l Z n0 (⟨"com/example/outlet_to_office/outlettooffice/server/Problems", "<init>", "()V"⟩ : MethodName) prog_22_method_1_code 1 none ({ frames := 4, cells := 1, slots := 3, locals := 50 } : Room) #[(.ref a)] h0 (fun v h => ∃ li : Addr, v = none ∧ Keep h0 h [a] ∧ n0 ≤ li ∧ h0.size ≤ li ∧ Exa Z h a "com/example/outlet_to_office/outlettooffice/server/Problems" ∧ Fld Z h a "com/example/outlet_to_office/outlettooffice/server/Problems" "listed" "Ljava/util/List;" (.ref li) ∧ Fld Z h a "com/example/outlet_to_office/outlettooffice/server/Problems" "count" "J" (.long (0 : Int64)) ∧ Exa Z h li "java/util/ArrayList" ∧ Fld Z h li "java/util/AbstractList" "modCount" "I" (.int (0 : Int32)) ∧ Fld Z h li "java/util/ArrayList" "elementData" "[Ljava/lang/Object;" (.ref de) ∧ Fld Z h li "java/util/ArrayList" "size" "I" (.int (0 : Int32))) := by
  refine OCon.of (Ls := #[.val (.ref a)]) pn_11 rfl rfl (fun m => by first | (simp [entryFrame, mkF, argsToLocals, Value.category]; done) | rfl) ?_
  intro p e s m below meth c T0 X0 K e0
  have N0 := Fr.nil n0
  have KK0 := Keep.refl h0 [a]
  refine o_aloadN X0 K d11_0 1 rfl rfl rfl ?_
  refine o_initO X0 K d11_1 4 rfl (w_50 hw) (w_12 hw) (w_13 hw) e0 rfl (by decide) 0 (Nat.le_of_eq rfl) (by decide) ?_
  intro T_43 X_43 e_43
  refine o_aloadN X_43 K d11_4 5 rfl rfl rfl ?_
  refine o_new X_43 K d11_5 8 rfl (w_51 hw) (w_52 hw) (w_53 hw) e_43 (by decide) (by decide) ?_
  intro T_44 h_44 li g_44 X_44 e_44 E_44 B_44 D_44
  have Z_44 : n0 ≤ h_44.size := Nat.le_trans Z0 E_44.1
  have K_44 := KK0.ext E_44
  have f_45 := Sta.ext E_44 S_DEFAULTCAPACITY_EMPTY_ELEMENTDATA
  have f_46 := Exa.ext E_44 E_a
  have f_47 := Fld.ext E_44 F_a_listed
  have f_48 := Fld.ext E_44 F_a_count
  have g_li : n0 ≤ li := by rw [g_44]; exact Z0
  have ne_a_li : a ≠ li := by rw [g_44]; exact Nat.ne_of_lt E_a.lt
  have sz_li : h0.size ≤ li := by rw [g_44]; exact KK0.1
  have F_modCount__44 : Fld Z h_44 li "java/util/AbstractList" "modCount" "I" (.int (0 : Int32)) := D_44 (Or.inl (w_71 hw)) (ty := .int) (by decide)
  have F_elementData__44 : Fld Z h_44 li "java/util/ArrayList" "elementData" "[Ljava/lang/Object;" .null := D_44 (Or.inl (w_74 hw)) (ty := (.array (.object "java/lang/Object"))) (by decide)
  have F_size__44 : Fld Z h_44 li "java/util/ArrayList" "size" "I" (.int (0 : Int32)) := D_44 (Or.inl (w_148 hw)) (ty := .int) (by decide)
  refine o_dup X_44 K d11_8 9 rfl rfl ?_
  refine o_invokespecial X_44 K d11_9 12 rfl rfl (w_54 hw) (w_55 hw) (w_53 hw) (w_56 hw) (by decide) [] [(.ref li), (.ref a)] rfl  (c_ali l Z a0 hw n0 li de h_44 Z_44 f_45 B_44 F_modCount__44 F_elementData__44 F_size__44 g_li) e_44 rfl (lenOf pd___V rfl) (by decide) 2 (Nat.le_of_eq rfl) (by decide) (by decide) (by decide) N0 ?_
  rintro _ T_49 h_49 locs_49 X_49 e_49 ⟨rfl, k_49, p_49f0, p_49f1, p_49f2, p_49f3⟩ N_49
  have Z_49 : n0 ≤ h_49.size := Nat.le_trans Z_44 k_49.1
  have K_49 := K_44.trans k_49 (allS (Or.inr sz_li) (all0))
  have f_50 := o_sta_keep f_45 k_49 (o_plainS B_44 (o_plain0))
  have f_51 := Exa.keep f_46 k_49
  have f_52 := Fld.keep f_47 k_49 (ninS ne_a_li (nin0))
  have f_53 := Fld.keep f_48 k_49 (ninS ne_a_li (nin0))
  have f_54 := Exa.keep B_44 k_49
  show OGo p e below _ n0 _ (T_49.setTop (mkF m 12 #[.val (.ref a)] [(.ref li), (.ref a)]))
  refine o_putfield X_49 K (host := "") (ty := (.object "java/util/List")) d11_12 15 rfl (Or.inl (w_75 hw)) Via.refl e_49 f_52 f_51 (Or.inr ⟨(w_76 hw), rfl, rfl⟩) (w_45 hw) (by decide) rfl rfl N_49 g_a ?_
  intro T_55 h_55 locs_55 X_55 e_55 W_55 N_55
  have Z_55 : n0 ≤ h_55.size := by rw [Wr.size W_55]; exact Z_49
  have K_55 := K_49.wr W_55 (Or.inl (by simp))
  have f_56 := Sta.wr W_55 f_50
  have f_57 := Exa.wr W_55 f_51
  have f_58 := Fld.same W_55 f_52
  have f_59 := Fld.other W_55 f_53 (Or.inr (slot_ne (Or.inl (w_83 hw)) (Or.inr (w_76 hw)) (by decide) (t := .long) (t' := (.object "java/util/List")) (by decide) (by decide)))
  have f_60 := Exa.wr W_55 p_49f0
  have f_61 := Fld.other W_55 p_49f1 (Or.inl (Ne.symm ne_a_li))
  have f_62 := Fld.other W_55 p_49f2 (Or.inl (Ne.symm ne_a_li))
  have f_63 := Fld.other W_55 p_49f3 (Or.inl (Ne.symm ne_a_li))
  refine o_return X_55 K d11_15 (by decide) (by decide) N_55 ?_
  rw [e_55]
  exact ⟨li, rfl, K_55, g_li, sz_li, f_57, f_58, f_59, f_60, f_61, f_62, f_63⟩
theorem d15_0 : decode prog_22_method_5_code 0 = .ok (.aload_n 0, 1) := by decide +kernel
theorem d15_1 : decode prog_22_method_5_code 1 = .ok (.getfield 43, 3) := by decide +kernel
theorem d15_4 : decode prog_22_method_5_code 4 = .ok (.lconst 0, 1) := by decide +kernel
theorem d15_5 : decode prog_22_method_5_code 5 = .ok (.lcmp, 1) := by decide +kernel
theorem d15_6 : decode prog_22_method_5_code 6 = .ok (.ifCond .ne 7, 3) := by decide +kernel
theorem d15_9 : decode prog_22_method_5_code 9 = .ok (.iconst 1, 1) := by decide +kernel
theorem d15_10 : decode prog_22_method_5_code 10 = .ok (.goto 4, 3) := by decide +kernel
theorem d15_14 : decode prog_22_method_5_code 14 = .ok (.ireturn, 1) := by decide +kernel
theorem pn_15 : plainFor (⟨"com/example/outlet_to_office/outlettooffice/server/Problems", "isEmpty", "()Z"⟩ : MethodName) = true := plainFor_of_name (by first | (simp [plainName, overriddenIn]; done) | decide +kernel)
set_option maxHeartbeats 4000000 in
theorem c_isE (l : Launch) (Z : State) (a0 : Array Value) (hw : OW Z a0) (n0 : Nat) (a : Addr) (n : Int64) (h0 : Heap) (Z0 : n0 ≤ h0.size) (F_a_count : Fld Z h0 a "com/example/outlet_to_office/outlettooffice/server/Problems" "count" "J" (.long n)) (hn : n = 0) :
    OCon l Z n0 (⟨"com/example/outlet_to_office/outlettooffice/server/Problems", "isEmpty", "()Z"⟩ : MethodName) prog_22_method_5_code 1 (some .boolean) ({ frames := 0, cells := 0, slots := 0, locals := 0 } : Room) #[(.ref a)] h0 (fun v h => v = some (.int (1 : Int32)) ∧ h = h0) := by
  refine OCon.of (Ls := #[.val (.ref a)]) pn_15 rfl rfl (fun m => by first | (simp [entryFrame, mkF, argsToLocals, Value.category]; done) | rfl) ?_
  intro p e s m below meth c T0 X0 K e0
  have N0 := Fr.nil n0
  refine o_aloadN X0 K d15_0 1 rfl rfl rfl ?_
  refine o_getfield X0 K (host := "") d15_1 4 rfl (Or.inl (w_82 hw)) Via.refl e0 F_a_count ?_
  intro T_64 X_64 e_64
  refine o_lconst X_64 K (0 : Int64) d15_4 5 rfl rfl ?_
  refine o_lcmp X_64 K d15_5 6 rfl ?_
  refine o_if_ne_f X_64 K d15_6 9 rfl (o_lw_eq.mpr hn) ?_
  refine o_iconst X_64 K (1 : Int32) d15_9 10 rfl rfl ?_
  refine o_goto X_64 K d15_10 14 (by decide) (by decide) ?_
  refine o_ireturnN X_64 K (by decide) d15_14 (by decide) (by decide) N0 ?_
  exact ⟨rfl, e_64⟩
theorem d15_13 : decode prog_22_method_5_code 13 = .ok (.iconst 0, 1) := by decide +kernel
set_option maxHeartbeats 4000000 in
theorem c_isN (l : Launch) (Z : State) (a0 : Array Value) (hw : OW Z a0) (n0 : Nat) (a : Addr) (n : Int64) (h0 : Heap) (Z0 : n0 ≤ h0.size) (F_a_count : Fld Z h0 a "com/example/outlet_to_office/outlettooffice/server/Problems" "count" "J" (.long n)) (hn : ¬ n = 0) :
    OCon l Z n0 (⟨"com/example/outlet_to_office/outlettooffice/server/Problems", "isEmpty", "()Z"⟩ : MethodName) prog_22_method_5_code 1 (some .boolean) ({ frames := 0, cells := 0, slots := 0, locals := 0 } : Room) #[(.ref a)] h0 (fun v h => v = some (.int (0 : Int32)) ∧ h = h0) := by
  refine OCon.of (Ls := #[.val (.ref a)]) pn_15 rfl rfl (fun m => by first | (simp [entryFrame, mkF, argsToLocals, Value.category]; done) | rfl) ?_
  intro p e s m below meth c T0 X0 K e0
  have N0 := Fr.nil n0
  refine o_aloadN X0 K d15_0 1 rfl rfl rfl ?_
  refine o_getfield X0 K (host := "") d15_1 4 rfl (Or.inl (w_82 hw)) Via.refl e0 F_a_count ?_
  intro T_65 X_65 e_65
  refine o_lconst X_65 K (0 : Int64) d15_4 5 rfl rfl ?_
  refine o_lcmp X_65 K d15_5 6 rfl ?_
  refine o_if_ne_t X_65 K d15_6 13 (by decide) (by decide) (fun q => hn (o_lw_eq.mp q)) ?_
  refine o_iconst X_65 K (0 : Int32) d15_13 14 rfl rfl ?_
  refine o_ireturnN X_65 K (by decide) d15_14 (by decide) (by decide) N0 ?_
  exact ⟨rfl, e_65⟩
theorem d29_0 : decode jdk_29_method_65_code 0 = .ok (.iload_n 0, 1) := by decide +kernel
theorem d29_1 : decode jdk_29_method_65_code 1 = .ok (.iload_n 1, 1) := by decide +kernel
theorem d29_2 : decode jdk_29_method_65_code 2 = .ok (.if_icmp .lt 7, 3) := by decide +kernel
theorem d29_5 : decode jdk_29_method_65_code 5 = .ok (.iload_n 0, 1) := by decide +kernel
theorem d29_6 : decode jdk_29_method_65_code 6 = .ok (.goto 4, 3) := by decide +kernel
theorem d29_10 : decode jdk_29_method_65_code 10 = .ok (.ireturn, 1) := by decide +kernel
theorem pn_29 : plainFor (⟨"java/lang/Math", "max", "(II)I"⟩ : MethodName) = true := Jvm.Free.JP.mathPlain rfl (by decide +kernel)
set_option maxHeartbeats 4000000 in
theorem c_max (l : Launch) (Z : State) (a0 : Array Value) (hw : OW Z a0) (n0 : Nat) (x1 x2 : Int32) (h0 : Heap) (Z0 : n0 ≤ h0.size) (hx : x2.toInt ≤ x1.toInt) :
    OCon l Z n0 (⟨"java/lang/Math", "max", "(II)I"⟩ : MethodName) jdk_29_method_65_code 2 (some .int) ({ frames := 0, cells := 0, slots := 0, locals := 0 } : Room) #[(.int x1), (.int x2)] h0 (fun v h => v = some (.int x1) ∧ h = h0) := by
  refine OCon.of (Ls := #[.val (.int x1), .val (.int x2)]) pn_29 rfl rfl (fun m => by first | (simp [entryFrame, mkF, argsToLocals, Value.category]; done) | rfl) ?_
  intro p e s m below meth c T0 X0 K e0
  have N0 := Fr.nil n0
  refine o_iloadN X0 K d29_0 1 rfl rfl ?_
  refine o_iloadN X0 K d29_1 2 rfl rfl ?_
  refine o_icmp_lt_f X0 K d29_2 5 rfl (hx) ?_
  refine o_iloadN X0 K d29_5 6 rfl rfl ?_
  refine o_goto X0 K d29_6 10 (by decide) (by decide) ?_
  refine o_ireturn X0 K d29_10 (by decide) (by decide) N0 ?_
  exact ⟨rfl, e0⟩
theorem d28_0 : decode jdk_38_method_6_code 0 = .ok (.aload_n 0, 1) := by decide +kernel
theorem d28_1 : decode jdk_38_method_6_code 1 = .ok (.getfield 9, 3) := by decide +kernel
theorem d28_4 : decode jdk_38_method_6_code 4 = .ok (.arraylength, 1) := by decide +kernel
theorem d28_5 : decode jdk_38_method_6_code 5 = .ok (.istore_n 2, 1) := by decide +kernel
theorem d28_6 : decode jdk_38_method_6_code 6 = .ok (.iload_n 2, 1) := by decide +kernel
theorem d28_7 : decode jdk_38_method_6_code 7 = .ok (.ifCond .gt 13, 3) := by decide +kernel
theorem d28_10 : decode jdk_38_method_6_code 10 = .ok (.aload_n 0, 1) := by decide +kernel
theorem d28_11 : decode jdk_38_method_6_code 11 = .ok (.getfield 9, 3) := by decide +kernel
theorem d28_14 : decode jdk_38_method_6_code 14 = .ok (.getstatic 39, 3) := by decide +kernel
theorem d28_17 : decode jdk_38_method_6_code 17 = .ok (.if_acmp .eq 28, 3) := by decide +kernel
theorem d28_45 : decode jdk_38_method_6_code 45 = .ok (.aload_n 0, 1) := by decide +kernel
theorem d28_46 : decode jdk_38_method_6_code 46 = .ok (.bipush 10, 2) := by decide +kernel
theorem d28_48 : decode jdk_38_method_6_code 48 = .ok (.iload_n 1, 1) := by decide +kernel
theorem d28_49 : decode jdk_38_method_6_code 49 = .ok (.invokestatic 79, 3) := by decide +kernel
theorem pd__II_I : parseMethodDescriptor "(II)I" = some ⟨[.int, .int], some .int⟩ := by decide +kernel
theorem d28_52 : decode jdk_38_method_6_code 52 = .ok (.anewarray 7, 3) := by decide +kernel
theorem d28_55 : decode jdk_38_method_6_code 55 = .ok (.dup_x1, 1) := by decide +kernel
theorem d28_56 : decode jdk_38_method_6_code 56 = .ok (.putfield 9, 3) := by decide +kernel
theorem d28_59 : decode jdk_38_method_6_code 59 = .ok (.areturn, 1) := by decide +kernel
theorem pn_28 : plainFor (⟨"java/util/ArrayList", "grow", "(I)[Ljava/lang/Object;"⟩ : MethodName) = true := plainFor_of_name (by first | (simp [plainName, overriddenIn]; done) | decide +kernel)
set_option maxHeartbeats 4000000 in
theorem c_grow1 (l : Launch) (Z : State) (a0 : Array Value) (hw : OW Z a0) (n0 : Nat) (li de : Addr) (z mc : Int32) (h0 : Heap) (Z0 : n0 ≤ h0.size) (S_DEFAULTCAPACITY_EMPTY_ELEMENTDATA : Sta Z h0 "java/util/ArrayList" "DEFAULTCAPACITY_EMPTY_ELEMENTDATA" "[Ljava/lang/Object;" (.ref de)) (A_de : OAr Z h0 de (.object "java/lang/Object") 0 (fun _ => .null)) (E_li : Exa Z h0 li "java/util/ArrayList") (F_li_modCount : Fld Z h0 li "java/util/AbstractList" "modCount" "I" (.int mc)) (F_li_elementData : Fld Z h0 li "java/util/ArrayList" "elementData" "[Ljava/lang/Object;" (.ref de)) (F_li_size : Fld Z h0 li "java/util/ArrayList" "size" "I" (.int (0 : Int32))) (g_li : n0 ≤ li) (ne_de_li : de ≠ li) (hz : z.toInt ≤ (10 : Int32).toInt) :
    OCon l Z n0 (⟨"java/util/ArrayList", "grow", "(I)[Ljava/lang/Object;"⟩ : MethodName) jdk_38_method_6_code 4 (some (.array (.object "java/lang/Object"))) ({ frames := 1, cells := 1, slots := 10, locals := 14 } : Room) #[(.ref li), (.int z)] h0 (fun v h => ∃ nd : Addr, v = some (.ref nd) ∧ Keep h0 h [li] ∧ n0 ≤ nd ∧ h0.size ≤ nd ∧ Exa Z h li "java/util/ArrayList" ∧ Fld Z h li "java/util/AbstractList" "modCount" "I" (.int mc) ∧ Fld Z h li "java/util/ArrayList" "elementData" "[Ljava/lang/Object;" (.ref nd) ∧ Fld Z h li "java/util/ArrayList" "size" "I" (.int (0 : Int32)) ∧ OAo Z h nd) := by
  refine OCon.of (Ls := #[.val (.ref li), .val (.int z), .unset, .unset]) pn_28 rfl rfl (fun m => by first | (simp [entryFrame, mkF, argsToLocals, Value.category]; done) | rfl) ?_
  intro p e s m below meth c T0 X0 K e0
  have N0 := Fr.nil n0
  have KK0 := Keep.refl h0 [li]
  refine o_aloadN X0 K d28_0 1 rfl rfl rfl ?_
  refine o_getfield X0 K (host := "") d28_1 4 rfl (Or.inl (w_73 hw)) Via.refl e0 F_li_elementData ?_
  intro T_66 X_66 e_66
  refine o_arraylength X_66 K d28_4 5 rfl e_66 A_de (v := (0 : Int32)) (rfl) ?_
  refine o_istoreN X_66 K d28_5 6 rfl #[.val (.ref li), .val (.int z), .val (.int (0 : Int32)), .unset] rfl rfl ?_
  refine o_iloadN X_66 K d28_6 7 rfl rfl ?_
  refine o_if_gt_f X_66 K d28_7 10 rfl (by decide) ?_
  refine o_aloadN X_66 K d28_10 11 rfl rfl rfl ?_
  refine o_getfield X_66 K (host := "") d28_11 14 rfl (Or.inl (w_73 hw)) Via.refl e_66 F_li_elementData ?_
  intro T_67 X_67 e_67
  refine o_getstatic X_67 K (host := "") d28_14 17 rfl (Or.inl (w_72 hw)) Via.refl e_67 S_DEFAULTCAPACITY_EMPTY_ELEMENTDATA ?_
  intro T_68 X_68 e_68
  refine o_acmp X_68 K d28_17 45 rfl rfl true (decide_eq_true rfl) (by decide) (by decide) ?_
  refine o_aloadN X_68 K d28_45 46 rfl rfl rfl ?_
  refine o_bipush X_68 K (10 : Int32) d28_46 48 rfl rfl ?_
  refine o_iloadN X_68 K d28_48 49 rfl rfl ?_
  refine o_invokestatic X_68 K d28_49 52 rfl (w_174 hw) (w_175 hw) (w_176 hw) (w_177 hw) (by decide) [(.int (10 : Int32)), (.int z)] [(.ref li)] rfl  (c_max l Z a0 hw n0 (10 : Int32) z h0 Z0 (hz)) e_68 rfl (lenOf pd__II_I rfl) (by decide) 1 (Nat.le_of_eq rfl) (by decide) (by decide) (by decide) N0 ?_
  rintro _ T_69 h_69 locs_69 X_69 q_69 ⟨rfl, r_69⟩ N_69
  have e_69 := q_69.trans r_69
  show OGo p e below _ n0 _ (T_69.setTop (mkF m 52 #[.val (.ref li), .val (.int z), .val (.int (0 : Int32)), .unset] [(.int (10 : Int32)), (.ref li)]))
  refine o_anewarray X_69 K (n := 10) d28_52 55 rfl (w_178 hw) (w_179 hw) e_69 (by decide) 10 (by decide) (by decide) (by decide) (by decide) ?_
  intro T_70 h_70 nd g_70 X_70 e_70 E_70 A_70 O_70
  have Z_70 : n0 ≤ h_70.size := Nat.le_trans Z0 E_70.1
  have K_70 := KK0.ext E_70
  have f_71 := Sta.ext E_70 S_DEFAULTCAPACITY_EMPTY_ELEMENTDATA
  have f_72 := A_de.ext E_70
  have f_73 := Exa.ext E_70 E_li
  have f_74 := Fld.ext E_70 F_li_modCount
  have f_75 := Fld.ext E_70 F_li_elementData
  have f_76 := Fld.ext E_70 F_li_size
  have g_nd : n0 ≤ nd := by rw [g_70]; exact Z0
  have ne_de_nd : de ≠ nd := by rw [g_70]; exact Nat.ne_of_lt A_de.lt
  have ne_li_nd : li ≠ nd := by rw [g_70]; exact Nat.ne_of_lt E_li.lt
  have sz_nd : h0.size ≤ nd := by rw [g_70]; exact KK0.1
  have AO_70 : OAo Z h_70 nd := ⟨⟨_, A_70⟩, O_70⟩
  refine o_dupX1 X_70 K d28_55 56 rfl rfl rfl ?_
  refine o_putfield X_70 K (host := "") (ty := (.array (.object "java/lang/Object"))) d28_56 59 rfl (Or.inl (w_73 hw)) Via.refl e_70 f_75 f_73 (Or.inl (w_74 hw)) (w_52 hw) (by decide) rfl rfl N_69 g_li ?_
  intro T_77 h_77 locs_77 X_77 e_77 W_77 N_77
  have Z_77 : n0 ≤ h_77.size := by rw [Wr.size W_77]; exact Z_70
  have K_77 := K_70.wr W_77 (Or.inl (by simp))
  have f_78 := Sta.wr W_77 f_71
  have f_79 := f_72.other W_77 ne_de_li
  have f_80 := Exa.wr W_77 f_73
  have f_81 := Fld.other W_77 f_74 (Or.inr (slot_ne (Or.inl (w_71 hw)) (Or.inl (w_74 hw)) (by decide) (t := .int) (t' := (.array (.object "java/lang/Object"))) (by decide) (by decide)))
  have f_82 := Fld.same W_77 f_75
  have f_83 := Fld.other W_77 f_76 (Or.inr (slot_ne (Or.inl (w_148 hw)) (Or.inl (w_74 hw)) (by decide) (t := .int) (t' := (.array (.object "java/lang/Object"))) (by decide) (by decide)))
  have f_84 := AO_70.other W_77 (Ne.symm ne_li_nd)
  refine o_areturn X_77 K rfl rfl rfl d28_59 (by decide) (by decide) N_77 ?_
  rw [e_77]
  exact ⟨nd, rfl, K_77, g_nd, sz_nd, f_80, f_81, f_82, f_83, f_84⟩
theorem d27_0 : decode jdk_38_method_7_code 0 = .ok (.aload_n 0, 1) := by decide +kernel
theorem d27_1 : decode jdk_38_method_7_code 1 = .ok (.aload_n 0, 1) := by decide +kernel
theorem d27_2 : decode jdk_38_method_7_code 2 = .ok (.getfield 48, 3) := by decide +kernel
theorem d27_5 : decode jdk_38_method_7_code 5 = .ok (.iconst 1, 1) := by decide +kernel
theorem d27_6 : decode jdk_38_method_7_code 6 = .ok (.iadd, 1) := by decide +kernel
theorem d27_7 : decode jdk_38_method_7_code 7 = .ok (.invokevirtual 69, 3) := by decide +kernel
theorem pd__I__Ljava_lang_Object_ : parseMethodDescriptor "(I)[Ljava/lang/Object;" = some ⟨[.int], some (.array (.object "java/lang/Object"))⟩ := by decide +kernel
theorem d27_10 : decode jdk_38_method_7_code 10 = .ok (.areturn, 1) := by decide +kernel
theorem pn_27 : plainFor (⟨"java/util/ArrayList", "grow", "()[Ljava/lang/Object;"⟩ : MethodName) = true := plainFor_of_name (by first | (simp [plainName, overriddenIn]; done) | decide +kernel)
set_option maxHeartbeats 4000000 in
theorem c_grow0 (l : Launch) (Z : State) (a0 : Array Value) (hw : OW Z a0) (n0 : Nat) (li de : Addr) (mc : Int32) (h0 : Heap) (Z0 : n0 ≤ h0.size) (S_DEFAULTCAPACITY_EMPTY_ELEMENTDATA : Sta Z h0 "java/util/ArrayList" "DEFAULTCAPACITY_EMPTY_ELEMENTDATA" "[Ljava/lang/Object;" (.ref de)) (A_de : OAr Z h0 de (.object "java/lang/Object") 0 (fun _ => .null)) (E_li : Exa Z h0 li "java/util/ArrayList") (F_li_modCount : Fld Z h0 li "java/util/AbstractList" "modCount" "I" (.int mc)) (F_li_elementData : Fld Z h0 li "java/util/ArrayList" "elementData" "[Ljava/lang/Object;" (.ref de)) (F_li_size : Fld Z h0 li "java/util/ArrayList" "size" "I" (.int (0 : Int32))) (g_li : n0 ≤ li) (ne_de_li : de ≠ li) :
    OCon l Z n0 (⟨"java/util/ArrayList", "grow", "()[Ljava/lang/Object;"⟩ : MethodName) jdk_38_method_7_code 1 (some (.array (.object "java/lang/Object"))) ({ frames := 2, cells := 1, slots := 10, locals := 30 } : Room) #[(.ref li)] h0 (fun v h => ∃ nd : Addr, v = some (.ref nd) ∧ Keep h0 h [li] ∧ n0 ≤ nd ∧ h0.size ≤ nd ∧ Exa Z h li "java/util/ArrayList" ∧ Fld Z h li "java/util/AbstractList" "modCount" "I" (.int mc) ∧ Fld Z h li "java/util/ArrayList" "elementData" "[Ljava/lang/Object;" (.ref nd) ∧ Fld Z h li "java/util/ArrayList" "size" "I" (.int (0 : Int32)) ∧ OAo Z h nd) := by
  refine OCon.of (Ls := #[.val (.ref li)]) pn_27 rfl rfl (fun m => by first | (simp [entryFrame, mkF, argsToLocals, Value.category]; done) | rfl) ?_
  intro p e s m below meth c T0 X0 K e0
  have N0 := Fr.nil n0
  have KK0 := Keep.refl h0 [li]
  refine o_aloadN X0 K d27_0 1 rfl rfl rfl ?_
  refine o_aloadN X0 K d27_1 2 rfl rfl rfl ?_
  refine o_getfield X0 K (host := "") d27_2 5 rfl (Or.inl (w_147 hw)) Via.refl e0 F_li_size ?_
  intro T_85 X_85 e_85
  refine o_iconst X_85 K (1 : Int32) d27_5 6 rfl rfl ?_
  refine o_iadd X_85 K d27_6 7 rfl ?_
  refine o_invokeprivate X_85 K d27_7 10 rfl (w_169 hw) (w_170 hw) (w_171 hw) (w_53 hw) (w_173 hw) (by decide) ⟨3, (w_52 hw)⟩ E_li [(.int ((0 : Int32) + (1 : Int32)))] [] rfl  (c_grow1 l Z a0 hw n0 li de ((0 : Int32) + (1 : Int32)) mc h0 Z0 S_DEFAULTCAPACITY_EMPTY_ELEMENTDATA A_de E_li F_li_modCount F_li_elementData F_li_size g_li ne_de_li (by decide)) e_85 rfl (lenOf pd__I__Ljava_lang_Object_ rfl) (by decide) 0 (Nat.le_of_eq rfl) (by decide) (by decide) (by decide) N0 ?_
  rintro _ T_86 h_86 locs_86 X_86 e_86 ⟨nd, rfl, k_86, gg_86_nd, sz_86_nd, p_86f0, p_86f1, p_86f2, p_86f3, p_86f4⟩ N_86
  have Z_86 : n0 ≤ h_86.size := Nat.le_trans Z0 k_86.1
  have K_86 := KK0.trans k_86 (allS (Or.inl (by simp)) (all0))
  have f_87 := o_sta_keep S_DEFAULTCAPACITY_EMPTY_ELEMENTDATA k_86 (o_plainS E_li (o_plain0))
  have f_88 := A_de.keep k_86 (ninS ne_de_li (nin0))
  have f_89 := Exa.keep E_li k_86
  have ne_de_nd : de ≠ nd := Nat.ne_of_lt (Nat.lt_of_lt_of_le A_de.lt sz_86_nd)
  have ne_li_nd : li ≠ nd := Nat.ne_of_lt (Nat.lt_of_lt_of_le E_li.lt sz_86_nd)
  have sz_nd : h0.size ≤ nd := Nat.le_trans KK0.1 sz_86_nd
  show OGo p e below _ n0 _ (T_86.setTop (mkF m 10 #[.val (.ref li)] [(.ref nd)]))
  refine o_areturn X_86 K rfl rfl rfl d27_10 (by decide) (by decide) N_86 ?_
  rw [e_86]
  exact ⟨nd, rfl, K_86, gg_86_nd, sz_nd, p_86f0, p_86f1, p_86f2, p_86f3, p_86f4⟩
theorem d26_0 : decode jdk_38_method_24_code 0 = .ok (.iload_n 3, 1) := by decide +kernel
theorem d26_1 : decode jdk_38_method_24_code 1 = .ok (.aload_n 2, 1) := by decide +kernel
theorem d26_2 : decode jdk_38_method_24_code 2 = .ok (.arraylength, 1) := by decide +kernel
theorem d26_3 : decode jdk_38_method_24_code 3 = .ok (.if_icmp .ne 8, 3) := by decide +kernel
theorem d26_6 : decode jdk_38_method_24_code 6 = .ok (.aload_n 0, 1) := by decide +kernel
theorem d26_7 : decode jdk_38_method_24_code 7 = .ok (.invokevirtual 129, 3) := by decide +kernel
theorem pd____Ljava_lang_Object_ : parseMethodDescriptor "()[Ljava/lang/Object;" = some ⟨[], some (.array (.object "java/lang/Object"))⟩ := by decide +kernel
theorem d26_10 : decode jdk_38_method_24_code 10 = .ok (.astore_n 2, 1) := by decide +kernel
theorem d26_11 : decode jdk_38_method_24_code 11 = .ok (.aload_n 2, 1) := by decide +kernel
theorem d26_12 : decode jdk_38_method_24_code 12 = .ok (.iload_n 3, 1) := by decide +kernel
theorem d26_13 : decode jdk_38_method_24_code 13 = .ok (.aload_n 1, 1) := by decide +kernel
theorem d26_14 : decode jdk_38_method_24_code 14 = .ok (.aastore, 1) := by decide +kernel
theorem d26_15 : decode jdk_38_method_24_code 15 = .ok (.aload_n 0, 1) := by decide +kernel
theorem d26_16 : decode jdk_38_method_24_code 16 = .ok (.iload_n 3, 1) := by decide +kernel
theorem d26_17 : decode jdk_38_method_24_code 17 = .ok (.iconst 1, 1) := by decide +kernel
theorem d26_18 : decode jdk_38_method_24_code 18 = .ok (.iadd, 1) := by decide +kernel
theorem d26_19 : decode jdk_38_method_24_code 19 = .ok (.putfield 48, 3) := by decide +kernel
theorem d26_22 : decode jdk_38_method_24_code 22 = .ok (.return_, 1) := by decide +kernel
theorem pn_26 : plainFor (⟨"java/util/ArrayList", "add", "(Ljava/lang/Object;[Ljava/lang/Object;I)V"⟩ : MethodName) = true := plainFor_of_name (by first | (simp [plainName, overriddenIn]; done) | decide +kernel)
set_option maxHeartbeats 4000000 in
theorem c_add3A (l : Launch) (Z : State) (a0 : Array Value) (hw : OW Z a0) (n0 : Nat) (li x de : Addr) (mc : Int32) (h0 : Heap) (Z0 : n0 ≤ h0.size) (S_DEFAULTCAPACITY_EMPTY_ELEMENTDATA : Sta Z h0 "java/util/ArrayList" "DEFAULTCAPACITY_EMPTY_ELEMENTDATA" "[Ljava/lang/Object;" (.ref de)) (A_de : OAr Z h0 de (.object "java/lang/Object") 0 (fun _ => .null)) (E_li : Exa Z h0 li "java/util/ArrayList") (F_li_modCount : Fld Z h0 li "java/util/AbstractList" "modCount" "I" (.int mc)) (F_li_elementData : Fld Z h0 li "java/util/ArrayList" "elementData" "[Ljava/lang/Object;" (.ref de)) (F_li_size : Fld Z h0 li "java/util/ArrayList" "size" "I" (.int (0 : Int32))) (g_li : n0 ≤ li) (ne_de_li : de ≠ li) (E_x : Exa Z h0 x "com/example/outlet_to_office/outlettooffice/server/Problem") :
    OCon l Z n0 (⟨"java/util/ArrayList", "add", "(Ljava/lang/Object;[Ljava/lang/Object;I)V"⟩ : MethodName) jdk_38_method_24_code 4 none ({ frames := 3, cells := 1, slots := 10, locals := 43 } : Room) #[(.ref li), (.ref x), (.ref de), (.int (0 : Int32))] h0 (fun v h => ∃ nd : Addr, v = none ∧ Keep h0 h [li] ∧ n0 ≤ nd ∧ h0.size ≤ nd ∧ Exa Z h li "java/util/ArrayList" ∧ Fld Z h li "java/util/AbstractList" "modCount" "I" (.int mc) ∧ Fld Z h li "java/util/ArrayList" "elementData" "[Ljava/lang/Object;" (.ref nd) ∧ Fld Z h li "java/util/ArrayList" "size" "I" (.int ((0 : Int32) + (1 : Int32))) ∧ OAo Z h nd) := by
  refine OCon.of (Ls := #[.val (.ref li), .val (.ref x), .val (.ref de), .val (.int (0 : Int32))]) pn_26 rfl rfl (fun m => by first | (simp [entryFrame, mkF, argsToLocals, Value.category]; done) | rfl) ?_
  intro p e s m below meth c T0 X0 K e0
  have N0 := Fr.nil n0
  have KK0 := Keep.refl h0 [li]
  refine o_iloadN X0 K d26_0 1 rfl rfl ?_
  refine o_aloadN X0 K d26_1 2 rfl rfl rfl ?_
  refine o_arraylength X0 K d26_2 3 rfl e0 A_de (v := (0 : Int32)) (rfl) ?_
  refine o_icmp_ne_f X0 K d26_3 6 rfl (by decide) ?_
  refine o_aloadN X0 K d26_6 7 rfl rfl rfl ?_
  refine o_invokeprivate X0 K d26_7 10 rfl (w_164 hw) (w_165 hw) (w_166 hw) (w_53 hw) (w_168 hw) (by decide) ⟨3, (w_52 hw)⟩ E_li [] [] rfl  (c_grow0 l Z a0 hw n0 li de mc h0 Z0 S_DEFAULTCAPACITY_EMPTY_ELEMENTDATA A_de E_li F_li_modCount F_li_elementData F_li_size g_li ne_de_li) e0 rfl (lenOf pd____Ljava_lang_Object_ rfl) (by decide) 0 (Nat.le_of_eq rfl) (by decide) (by decide) (by decide) N0 ?_
  rintro _ T_90 h_90 locs_90 X_90 e_90 ⟨nd, rfl, k_90, gg_90_nd, sz_90_nd, p_90f0, p_90f1, p_90f2, p_90f3, p_90f4⟩ N_90
  have Z_90 : n0 ≤ h_90.size := Nat.le_trans Z0 k_90.1
  have K_90 := KK0.trans k_90 (allS (Or.inl (by simp)) (all0))
  have f_91 := o_sta_keep S_DEFAULTCAPACITY_EMPTY_ELEMENTDATA k_90 (o_plainS E_li (o_plain0))
  have f_92 := A_de.keep k_90 (ninS ne_de_li (nin0))
  have f_93 := Exa.keep E_li k_90
  have f_94 := Exa.keep E_x k_90
  have ne_de_nd : de ≠ nd := Nat.ne_of_lt (Nat.lt_of_lt_of_le A_de.lt sz_90_nd)
  have ne_li_nd : li ≠ nd := Nat.ne_of_lt (Nat.lt_of_lt_of_le E_li.lt sz_90_nd)
  have ne_x_nd : x ≠ nd := Nat.ne_of_lt (Nat.lt_of_lt_of_le E_x.lt sz_90_nd)
  have sz_nd : h0.size ≤ nd := Nat.le_trans KK0.1 sz_90_nd
  show OGo p e below _ n0 _ (T_90.setTop (mkF m 10 #[.val (.ref li), .val (.ref x), .val (.ref de), .val (.int (0 : Int32))] [(.ref nd)]))
  refine o_astoreN X_90 K d26_10 11 rfl #[.val (.ref li), .val (.ref x), .val (.ref nd), .val (.int (0 : Int32))] rfl rfl ?_
  refine o_aloadN X_90 K d26_11 12 rfl rfl rfl ?_
  refine o_iloadN X_90 K d26_12 13 rfl rfl ?_
  refine o_aloadN X_90 K d26_13 14 rfl rfl rfl ?_
  refine o_aastore X_90 K (i := 0) d26_14 15 rfl e_90 p_90f4 (Ins.of_exa f_94 (w_180 hw)) (by decide) (by decide) N_90 gg_90_nd ?_
  intro T_95 h_95 locs_95 X_95 e_95 W_95 A_95 N_95
  have Z_95 : n0 ≤ h_95.size := by rw [Wr.size W_95]; exact Z_90
  have K_95 := K_90.wr W_95 (Or.inr sz_nd)
  have f_96 := Sta.wr W_95 f_91
  have f_97 := f_92.other W_95 ne_de_nd
  have f_98 := Exa.wr W_95 p_90f0
  have f_99 := Exa.wr W_95 f_94
  have f_100 := Fld.other W_95 p_90f1 (Or.inl ne_li_nd)
  have f_101 := Fld.other W_95 p_90f2 (Or.inl ne_li_nd)
  have f_102 := Fld.other W_95 p_90f3 (Or.inl ne_li_nd)
  refine o_aloadN X_95 K d26_15 16 rfl rfl rfl ?_
  refine o_iloadN X_95 K d26_16 17 rfl rfl ?_
  refine o_iconst X_95 K (1 : Int32) d26_17 18 rfl rfl ?_
  refine o_iadd X_95 K d26_18 19 rfl ?_
  refine o_putfield X_95 K (host := "") (ty := .int) d26_19 22 rfl (Or.inl (w_147 hw)) Via.refl e_95 f_102 f_98 (Or.inl (w_148 hw)) (w_52 hw) (by decide) rfl rfl N_95 g_li ?_
  intro T_103 h_103 locs_103 X_103 e_103 W_103 N_103
  have Z_103 : n0 ≤ h_103.size := by rw [Wr.size W_103]; exact Z_95
  have K_103 := K_95.wr W_103 (Or.inl (by simp))
  have f_104 := Sta.wr W_103 f_96
  have f_105 := f_97.other W_103 ne_de_li
  have f_106 := Exa.wr W_103 f_98
  have f_107 := Exa.wr W_103 f_99
  have f_108 := Fld.other W_103 f_100 (Or.inr (slot_ne (Or.inl (w_71 hw)) (Or.inl (w_148 hw)) (by decide) (t := .int) (t' := .int) (by decide) (by decide)))
  have f_109 := Fld.other W_103 f_101 (Or.inr (slot_ne (Or.inl (w_74 hw)) (Or.inl (w_148 hw)) (by decide) (t := (.array (.object "java/lang/Object"))) (t' := .int) (by decide) (by decide)))
  have f_110 := Fld.same W_103 f_102
  have f_111 := A_95.other W_103 (Ne.symm ne_li_nd)
  refine o_return X_103 K d26_22 (by decide) (by decide) N_103 ?_
  rw [e_103]
  exact ⟨nd, rfl, K_103, gg_90_nd, sz_nd, f_106, f_108, f_109, f_110, f_111⟩
set_option maxHeartbeats 4000000 in
theorem c_add3B (l : Launch) (Z : State) (a0 : Array Value) (hw : OW Z a0) (n0 : Nat) (li x nd : Addr) (sz mc : Int32) (h0 : Heap) (Z0 : n0 ≤ h0.size) (E_li : Exa Z h0 li "java/util/ArrayList") (F_li_modCount : Fld Z h0 li "java/util/AbstractList" "modCount" "I" (.int mc)) (F_li_elementData : Fld Z h0 li "java/util/ArrayList" "elementData" "[Ljava/lang/Object;" (.ref nd)) (F_li_size : Fld Z h0 li "java/util/ArrayList" "size" "I" (.int sz)) (g_li : n0 ≤ li) (A_nd : OAo Z h0 nd) (g_nd : n0 ≤ nd) (ne_nd_li : nd ≠ li) (E_x : Exa Z h0 x "com/example/outlet_to_office/outlettooffice/server/Problem") (hsz : 0 ≤ sz.toInt ∧ sz.toInt < 10) :
    OCon l Z n0 (⟨"java/util/ArrayList", "add", "(Ljava/lang/Object;[Ljava/lang/Object;I)V"⟩ : MethodName) jdk_38_method_24_code 4 none ({ frames := 0, cells := 0, slots := 0, locals := 0 } : Room) #[(.ref li), (.ref x), (.ref nd), (.int sz)] h0 (fun v h => v = none ∧ Keep h0 h [li, nd] ∧ Exa Z h li "java/util/ArrayList" ∧ Fld Z h li "java/util/AbstractList" "modCount" "I" (.int mc) ∧ Fld Z h li "java/util/ArrayList" "elementData" "[Ljava/lang/Object;" (.ref nd) ∧ Fld Z h li "java/util/ArrayList" "size" "I" (.int (sz + (1 : Int32))) ∧ OAo Z h nd) := by
  refine OCon.of (Ls := #[.val (.ref li), .val (.ref x), .val (.ref nd), .val (.int sz)]) pn_26 rfl rfl (fun m => by first | (simp [entryFrame, mkF, argsToLocals, Value.category]; done) | rfl) ?_
  intro p e s m below meth c T0 X0 K e0
  have N0 := Fr.nil n0
  have KK0 := Keep.refl h0 [li, nd]
  refine o_iloadN X0 K d26_0 1 rfl rfl ?_
  refine o_aloadN X0 K d26_1 2 rfl rfl rfl ?_
  refine o_arraylengthO X0 K d26_2 3 rfl e0 A_nd ?_
  refine o_icmp_ne_t X0 K d26_3 11 (by decide) (by decide) (fun q => absurd hsz.2 (by rw [q]; decide)) ?_
  refine o_aloadN X0 K d26_11 12 rfl rfl rfl ?_
  refine o_iloadN X0 K d26_12 13 rfl rfl ?_
  refine o_aloadN X0 K d26_13 14 rfl rfl rfl ?_
  refine o_aastore X0 K (i := sz.toInt.toNat) d26_14 15 rfl e0 A_nd (Ins.of_exa E_x (w_180 hw)) (by omega) (by omega) N0 g_nd ?_
  intro T_112 h_112 locs_112 X_112 e_112 W_112 A_112 N_112
  have Z_112 : n0 ≤ h_112.size := by rw [Wr.size W_112]; exact Z0
  have K_112 := KK0.wr W_112 (Or.inl (by simp))
  have f_113 := Exa.wr W_112 E_li
  have f_114 := Fld.other W_112 F_li_modCount (Or.inl (Ne.symm ne_nd_li))
  have f_115 := Fld.other W_112 F_li_elementData (Or.inl (Ne.symm ne_nd_li))
  have f_116 := Fld.other W_112 F_li_size (Or.inl (Ne.symm ne_nd_li))
  have f_117 := Exa.wr W_112 E_x
  refine o_aloadN X_112 K d26_15 16 rfl rfl rfl ?_
  refine o_iloadN X_112 K d26_16 17 rfl rfl ?_
  refine o_iconst X_112 K (1 : Int32) d26_17 18 rfl rfl ?_
  refine o_iadd X_112 K d26_18 19 rfl ?_
  refine o_putfield X_112 K (host := "") (ty := .int) d26_19 22 rfl (Or.inl (w_147 hw)) Via.refl e_112 f_116 f_113 (Or.inl (w_148 hw)) (w_52 hw) (by decide) rfl rfl N_112 g_li ?_
  intro T_118 h_118 locs_118 X_118 e_118 W_118 N_118
  have Z_118 : n0 ≤ h_118.size := by rw [Wr.size W_118]; exact Z_112
  have K_118 := K_112.wr W_118 (Or.inl (by simp))
  have f_119 := Exa.wr W_118 f_113
  have f_120 := Fld.other W_118 f_114 (Or.inr (slot_ne (Or.inl (w_71 hw)) (Or.inl (w_148 hw)) (by decide) (t := .int) (t' := .int) (by decide) (by decide)))
  have f_121 := Fld.other W_118 f_115 (Or.inr (slot_ne (Or.inl (w_74 hw)) (Or.inl (w_148 hw)) (by decide) (t := (.array (.object "java/lang/Object"))) (t' := .int) (by decide) (by decide)))
  have f_122 := Fld.same W_118 f_116
  have f_123 := Exa.wr W_118 f_117
  have f_124 := A_112.other W_118 ne_nd_li
  refine o_return X_118 K d26_22 (by decide) (by decide) N_118 ?_
  rw [e_118]
  exact ⟨rfl, K_118, f_119, f_120, f_121, f_122, f_124⟩
theorem d25_0 : decode jdk_38_method_25_code 0 = .ok (.aload_n 0, 1) := by decide +kernel
theorem d25_1 : decode jdk_38_method_25_code 1 = .ok (.dup, 1) := by decide +kernel
theorem d25_2 : decode jdk_38_method_25_code 2 = .ok (.getfield 63, 3) := by decide +kernel
theorem d25_5 : decode jdk_38_method_25_code 5 = .ok (.iconst 1, 1) := by decide +kernel
theorem d25_6 : decode jdk_38_method_25_code 6 = .ok (.iadd, 1) := by decide +kernel
theorem d25_7 : decode jdk_38_method_25_code 7 = .ok (.putfield 63, 3) := by decide +kernel
theorem d25_10 : decode jdk_38_method_25_code 10 = .ok (.aload_n 0, 1) := by decide +kernel
theorem d25_11 : decode jdk_38_method_25_code 11 = .ok (.aload_n 1, 1) := by decide +kernel
theorem d25_12 : decode jdk_38_method_25_code 12 = .ok (.aload_n 0, 1) := by decide +kernel
theorem d25_13 : decode jdk_38_method_25_code 13 = .ok (.getfield 9, 3) := by decide +kernel
theorem d25_16 : decode jdk_38_method_25_code 16 = .ok (.aload_n 0, 1) := by decide +kernel
theorem d25_17 : decode jdk_38_method_25_code 17 = .ok (.getfield 48, 3) := by decide +kernel
theorem d25_20 : decode jdk_38_method_25_code 20 = .ok (.invokevirtual 131, 3) := by decide +kernel
theorem pd__Ljava_lang_Object__Ljava_lang_Object_I_V : parseMethodDescriptor "(Ljava/lang/Object;[Ljava/lang/Object;I)V" = some ⟨[(.object "java/lang/Object"), (.array (.object "java/lang/Object")), .int], none⟩ := by decide +kernel
theorem d25_23 : decode jdk_38_method_25_code 23 = .ok (.iconst 1, 1) := by decide +kernel
theorem d25_24 : decode jdk_38_method_25_code 24 = .ok (.ireturn, 1) := by decide +kernel
theorem pn_25 : plainFor (⟨"java/util/ArrayList", "add", "(Ljava/lang/Object;)Z"⟩ : MethodName) = true := plainFor_of_name (by first | (simp [plainName, overriddenIn]; done) | decide +kernel)
set_option maxHeartbeats 4000000 in
theorem c_addA (l : Launch) (Z : State) (a0 : Array Value) (hw : OW Z a0) (n0 : Nat) (li x de : Addr) (mc : Int32) (h0 : Heap) (Z0 : n0 ≤ h0.size) (S_DEFAULTCAPACITY_EMPTY_ELEMENTDATA : Sta Z h0 "java/util/ArrayList" "DEFAULTCAPACITY_EMPTY_ELEMENTDATA" "[Ljava/lang/Object;" (.ref de)) (A_de : OAr Z h0 de (.object "java/lang/Object") 0 (fun _ => .null)) (E_li : Exa Z h0 li "java/util/ArrayList") (F_li_modCount : Fld Z h0 li "java/util/AbstractList" "modCount" "I" (.int mc)) (F_li_elementData : Fld Z h0 li "java/util/ArrayList" "elementData" "[Ljava/lang/Object;" (.ref de)) (F_li_size : Fld Z h0 li "java/util/ArrayList" "size" "I" (.int (0 : Int32))) (g_li : n0 ≤ li) (ne_de_li : de ≠ li) (E_x : Exa Z h0 x "com/example/outlet_to_office/outlettooffice/server/Problem") :
    OCon l Z n0 (⟨"java/util/ArrayList", "add", "(Ljava/lang/Object;)Z"⟩ : MethodName) jdk_38_method_25_code 2 (some .boolean) ({ frames := 4, cells := 1, slots := 10, locals := 58 } : Room) #[(.ref li), (.ref x)] h0 (fun v h => ∃ nd : Addr, v = some (.int (1 : Int32)) ∧ Keep h0 h [li] ∧ n0 ≤ nd ∧ h0.size ≤ nd ∧ Exa Z h li "java/util/ArrayList" ∧ Fld Z h li "java/util/AbstractList" "modCount" "I" (.int (mc + (1 : Int32))) ∧ Fld Z h li "java/util/ArrayList" "elementData" "[Ljava/lang/Object;" (.ref nd) ∧ Fld Z h li "java/util/ArrayList" "size" "I" (.int ((0 : Int32) + (1 : Int32))) ∧ OAo Z h nd) := by
  refine OCon.of (Ls := #[.val (.ref li), .val (.ref x)]) pn_25 rfl rfl (fun m => by first | (simp [entryFrame, mkF, argsToLocals, Value.category]; done) | rfl) ?_
  intro p e s m below meth c T0 X0 K e0
  have N0 := Fr.nil n0
  have KK0 := Keep.refl h0 [li]
  refine o_aloadN X0 K d25_0 1 rfl rfl rfl ?_
  refine o_dup X0 K d25_1 2 rfl rfl ?_
  refine o_getfield X0 K (host := "") d25_2 5 rfl (Or.inl (w_157 hw)) (Via.of (w_158 hw)) e0 F_li_modCount ?_
  intro T_125 X_125 e_125
  refine o_iconst X_125 K (1 : Int32) d25_5 6 rfl rfl ?_
  refine o_iadd X_125 K d25_6 7 rfl ?_
  refine o_putfield X_125 K (host := "") (ty := .int) d25_7 10 rfl (Or.inl (w_157 hw)) (Via.of (w_158 hw)) e_125 F_li_modCount E_li (Or.inl (w_71 hw)) (w_52 hw) (by decide) rfl rfl N0 g_li ?_
  intro T_126 h_126 locs_126 X_126 e_126 W_126 N_126
  have Z_126 : n0 ≤ h_126.size := by rw [Wr.size W_126]; exact Z0
  have K_126 := KK0.wr W_126 (Or.inl (by simp))
  have f_127 := Sta.wr W_126 S_DEFAULTCAPACITY_EMPTY_ELEMENTDATA
  have f_128 := A_de.other W_126 ne_de_li
  have f_129 := Exa.wr W_126 E_li
  have f_130 := Fld.same W_126 F_li_modCount
  have f_131 := Fld.other W_126 F_li_elementData (Or.inr (slot_ne (Or.inl (w_74 hw)) (Or.inl (w_71 hw)) (by decide) (t := (.array (.object "java/lang/Object"))) (t' := .int) (by decide) (by decide)))
  have f_132 := Fld.other W_126 F_li_size (Or.inr (slot_ne (Or.inl (w_148 hw)) (Or.inl (w_71 hw)) (by decide) (t := .int) (t' := .int) (by decide) (by decide)))
  have f_133 := Exa.wr W_126 E_x
  refine o_aloadN X_126 K d25_10 11 rfl rfl rfl ?_
  refine o_aloadN X_126 K d25_11 12 rfl rfl rfl ?_
  refine o_aloadN X_126 K d25_12 13 rfl rfl rfl ?_
  refine o_getfield X_126 K (host := "") d25_13 16 rfl (Or.inl (w_73 hw)) Via.refl e_126 f_131 ?_
  intro T_134 X_134 e_134
  refine o_aloadN X_134 K d25_16 17 rfl rfl rfl ?_
  refine o_getfield X_134 K (host := "") d25_17 20 rfl (Or.inl (w_147 hw)) Via.refl e_134 f_132 ?_
  intro T_135 X_135 e_135
  refine o_invokeprivate X_135 K d25_20 23 rfl (w_159 hw) (w_160 hw) (w_161 hw) (w_53 hw) (w_163 hw) (by decide) ⟨3, (w_52 hw)⟩ f_129 [(.ref x), (.ref de), (.int (0 : Int32))] [] rfl  (c_add3A l Z a0 hw n0 li x de (mc + (1 : Int32)) h_126 Z_126 f_127 f_128 f_129 f_130 f_131 f_132 g_li ne_de_li f_133) e_135 rfl (lenOf pd__Ljava_lang_Object__Ljava_lang_Object_I_V rfl) (by decide) 0 (Nat.le_of_eq rfl) (by decide) (by decide) (by decide) N_126 ?_
  rintro _ T_136 h_136 locs_136 X_136 e_136 ⟨nd, rfl, k_136, gg_136_nd, sz_136_nd, p_136f0, p_136f1, p_136f2, p_136f3, p_136f4⟩ N_136
  have Z_136 : n0 ≤ h_136.size := Nat.le_trans Z_126 k_136.1
  have K_136 := K_126.trans k_136 (allS (Or.inl (by simp)) (all0))
  have f_137 := o_sta_keep f_127 k_136 (o_plainS f_129 (o_plain0))
  have f_138 := f_128.keep k_136 (ninS ne_de_li (nin0))
  have f_139 := Exa.keep f_129 k_136
  have f_140 := Exa.keep f_133 k_136
  have ne_de_nd : de ≠ nd := Nat.ne_of_lt (Nat.lt_of_lt_of_le f_128.lt sz_136_nd)
  have ne_li_nd : li ≠ nd := Nat.ne_of_lt (Nat.lt_of_lt_of_le f_129.lt sz_136_nd)
  have ne_x_nd : x ≠ nd := Nat.ne_of_lt (Nat.lt_of_lt_of_le f_133.lt sz_136_nd)
  have sz_nd : h0.size ≤ nd := Nat.le_trans K_126.1 sz_136_nd
  show OGo p e below _ n0 _ (T_136.setTop (mkF m 23 #[.val (.ref li), .val (.ref x)] []))
  refine o_iconst X_136 K (1 : Int32) d25_23 24 rfl rfl ?_
  refine o_ireturnN X_136 K (by decide) d25_24 (by decide) (by decide) N_136 ?_
  rw [e_136]
  exact ⟨nd, rfl, K_136, gg_136_nd, sz_nd, p_136f0, p_136f1, p_136f2, p_136f3, p_136f4⟩
set_option maxHeartbeats 4000000 in
theorem c_addB (l : Launch) (Z : State) (a0 : Array Value) (hw : OW Z a0) (n0 : Nat) (li x nd : Addr) (sz mc : Int32) (h0 : Heap) (Z0 : n0 ≤ h0.size) (E_li : Exa Z h0 li "java/util/ArrayList") (F_li_modCount : Fld Z h0 li "java/util/AbstractList" "modCount" "I" (.int mc)) (F_li_elementData : Fld Z h0 li "java/util/ArrayList" "elementData" "[Ljava/lang/Object;" (.ref nd)) (F_li_size : Fld Z h0 li "java/util/ArrayList" "size" "I" (.int sz)) (g_li : n0 ≤ li) (A_nd : OAo Z h0 nd) (g_nd : n0 ≤ nd) (ne_nd_li : nd ≠ li) (E_x : Exa Z h0 x "com/example/outlet_to_office/outlettooffice/server/Problem") (hsz : 0 ≤ sz.toInt ∧ sz.toInt < 10) :
    OCon l Z n0 (⟨"java/util/ArrayList", "add", "(Ljava/lang/Object;)Z"⟩ : MethodName) jdk_38_method_25_code 2 (some .boolean) ({ frames := 1, cells := 0, slots := 0, locals := 15 } : Room) #[(.ref li), (.ref x)] h0 (fun v h => v = some (.int (1 : Int32)) ∧ Keep h0 h [li, nd] ∧ Exa Z h li "java/util/ArrayList" ∧ Fld Z h li "java/util/AbstractList" "modCount" "I" (.int (mc + (1 : Int32))) ∧ Fld Z h li "java/util/ArrayList" "elementData" "[Ljava/lang/Object;" (.ref nd) ∧ Fld Z h li "java/util/ArrayList" "size" "I" (.int (sz + (1 : Int32))) ∧ OAo Z h nd) := by
  refine OCon.of (Ls := #[.val (.ref li), .val (.ref x)]) pn_25 rfl rfl (fun m => by first | (simp [entryFrame, mkF, argsToLocals, Value.category]; done) | rfl) ?_
  intro p e s m below meth c T0 X0 K e0
  have N0 := Fr.nil n0
  have KK0 := Keep.refl h0 [li, nd]
  refine o_aloadN X0 K d25_0 1 rfl rfl rfl ?_
  refine o_dup X0 K d25_1 2 rfl rfl ?_
  refine o_getfield X0 K (host := "") d25_2 5 rfl (Or.inl (w_157 hw)) (Via.of (w_158 hw)) e0 F_li_modCount ?_
  intro T_141 X_141 e_141
  refine o_iconst X_141 K (1 : Int32) d25_5 6 rfl rfl ?_
  refine o_iadd X_141 K d25_6 7 rfl ?_
  refine o_putfield X_141 K (host := "") (ty := .int) d25_7 10 rfl (Or.inl (w_157 hw)) (Via.of (w_158 hw)) e_141 F_li_modCount E_li (Or.inl (w_71 hw)) (w_52 hw) (by decide) rfl rfl N0 g_li ?_
  intro T_142 h_142 locs_142 X_142 e_142 W_142 N_142
  have Z_142 : n0 ≤ h_142.size := by rw [Wr.size W_142]; exact Z0
  have K_142 := KK0.wr W_142 (Or.inl (by simp))
  have f_143 := Exa.wr W_142 E_li
  have f_144 := Fld.same W_142 F_li_modCount
  have f_145 := Fld.other W_142 F_li_elementData (Or.inr (slot_ne (Or.inl (w_74 hw)) (Or.inl (w_71 hw)) (by decide) (t := (.array (.object "java/lang/Object"))) (t' := .int) (by decide) (by decide)))
  have f_146 := Fld.other W_142 F_li_size (Or.inr (slot_ne (Or.inl (w_148 hw)) (Or.inl (w_71 hw)) (by decide) (t := .int) (t' := .int) (by decide) (by decide)))
  have f_147 := A_nd.other W_142 ne_nd_li
  have f_148 := Exa.wr W_142 E_x
  refine o_aloadN X_142 K d25_10 11 rfl rfl rfl ?_
  refine o_aloadN X_142 K d25_11 12 rfl rfl rfl ?_
  refine o_aloadN X_142 K d25_12 13 rfl rfl rfl ?_
  refine o_getfield X_142 K (host := "") d25_13 16 rfl (Or.inl (w_73 hw)) Via.refl e_142 f_145 ?_
  intro T_149 X_149 e_149
  refine o_aloadN X_149 K d25_16 17 rfl rfl rfl ?_
  refine o_getfield X_149 K (host := "") d25_17 20 rfl (Or.inl (w_147 hw)) Via.refl e_149 f_146 ?_
  intro T_150 X_150 e_150
  refine o_invokeprivate X_150 K d25_20 23 rfl (w_159 hw) (w_160 hw) (w_161 hw) (w_53 hw) (w_163 hw) (by decide) ⟨3, (w_52 hw)⟩ f_143 [(.ref x), (.ref nd), (.int sz)] [] rfl  (c_add3B l Z a0 hw n0 li x nd sz (mc + (1 : Int32)) h_142 Z_142 f_143 f_144 f_145 f_146 g_li f_147 g_nd ne_nd_li f_148 (hsz)) e_150 rfl (lenOf pd__Ljava_lang_Object__Ljava_lang_Object_I_V rfl) (by decide) 0 (Nat.le_of_eq rfl) (by decide) (by decide) (by decide) N_142 ?_
  rintro _ T_151 h_151 locs_151 X_151 e_151 ⟨rfl, k_151, p_151f0, p_151f1, p_151f2, p_151f3, p_151f4⟩ N_151
  have Z_151 : n0 ≤ h_151.size := Nat.le_trans Z_142 k_151.1
  have K_151 := K_142.trans k_151 (allS (Or.inl (by simp)) (allS (Or.inl (by simp)) (all0)))
  have f_152 := Exa.keep f_143 k_151
  have f_153 := Exa.keep f_148 k_151
  show OGo p e below _ n0 _ (T_151.setTop (mkF m 23 #[.val (.ref li), .val (.ref x)] []))
  refine o_iconst X_151 K (1 : Int32) d25_23 24 rfl rfl ?_
  refine o_ireturnN X_151 K (by decide) d25_24 (by decide) (by decide) N_151 ?_
  rw [e_151]
  exact ⟨rfl, K_151, p_151f0, p_151f1, p_151f2, p_151f3, p_151f4⟩
theorem d24_0 : decode jdk_38_method_8_code 0 = .ok (.aload_n 0, 1) := by decide +kernel
theorem d24_1 : decode jdk_38_method_8_code 1 = .ok (.getfield 48, 3) := by decide +kernel
theorem d24_4 : decode jdk_38_method_8_code 4 = .ok (.ireturn, 1) := by decide +kernel
theorem pn_24 : plainFor (⟨"java/util/ArrayList", "size", "()I"⟩ : MethodName) = true := plainFor_of_name (by first | (simp [plainName, overriddenIn]; done) | decide +kernel)
set_option maxHeartbeats 4000000 in
theorem c_size (l : Launch) (Z : State) (a0 : Array Value) (hw : OW Z a0) (n0 : Nat) (li : Addr) (sz : Int32) (h0 : Heap) (Z0 : n0 ≤ h0.size) (F_li_size : Fld Z h0 li "java/util/ArrayList" "size" "I" (.int sz)) :
    OCon l Z n0 (⟨"java/util/ArrayList", "size", "()I"⟩ : MethodName) jdk_38_method_8_code 1 (some .int) ({ frames := 0, cells := 0, slots := 0, locals := 0 } : Room) #[(.ref li)] h0 (fun v h => v = some (.int sz) ∧ h = h0) := by
  refine OCon.of (Ls := #[.val (.ref li)]) pn_24 rfl rfl (fun m => by first | (simp [entryFrame, mkF, argsToLocals, Value.category]; done) | rfl) ?_
  intro p e s m below meth c T0 X0 K e0
  have N0 := Fr.nil n0
  refine o_aloadN X0 K d24_0 1 rfl rfl rfl ?_
  refine o_getfield X0 K (host := "") d24_1 4 rfl (Or.inl (w_147 hw)) Via.refl e0 F_li_size ?_
  intro T_154 X_154 e_154
  refine o_ireturn X_154 K d24_4 (by decide) (by decide) N0 ?_
  exact ⟨rfl, e_154⟩
theorem d19_0 : decode jdk_33_method_23_code 0 = .ok (.aload_n 0, 1) := by decide +kernel
theorem d19_1 : decode jdk_33_method_23_code 1 = .ok (.invokespecial 202, 3) := by decide +kernel
theorem d19_4 : decode jdk_33_method_23_code 4 = .ok (.aload_n 0, 1) := by decide +kernel
theorem d19_5 : decode jdk_33_method_23_code 5 = .ok (.iload_n 1, 1) := by decide +kernel
theorem d19_6 : decode jdk_33_method_23_code 6 = .ok (.putfield 205, 3) := by decide +kernel
theorem d19_9 : decode jdk_33_method_23_code 9 = .ok (.return_, 1) := by decide +kernel
theorem pn_19 : plainFor (⟨"java/lang/Integer", "<init>", "(I)V"⟩ : MethodName) = true := plainFor_of_name (by first | (simp [plainName, overriddenIn]; done) | decide +kernel)
set_option maxHeartbeats 4000000 in
theorem c_iinit (l : Launch) (Z : State) (a0 : Array Value) (hw : OW Z a0) (n0 : Nat) (a : Addr) (z : Int32) (h0 : Heap) (Z0 : n0 ≤ h0.size) (E_a : Exa Z h0 a "java/lang/Integer") (F_a_value : Fld Z h0 a "java/lang/Integer" "value" "I" (.int (0 : Int32))) (g_a : n0 ≤ a) :
    OCon l Z n0 (⟨"java/lang/Integer", "<init>", "(I)V"⟩ : MethodName) jdk_33_method_23_code 2 none ({ frames := 2, cells := 0, slots := 0, locals := 24 } : Room) #[(.ref a), (.int z)] h0 (fun v h => v = none ∧ Keep h0 h [a]) := by
  refine OCon.of (Ls := #[.val (.ref a), .val (.int z)]) pn_19 rfl rfl (fun m => by first | (simp [entryFrame, mkF, argsToLocals, Value.category]; done) | rfl) ?_
  intro p e s m below meth c T0 X0 K e0
  have N0 := Fr.nil n0
  have KK0 := Keep.refl h0 [a]
  refine o_aloadN X0 K d19_0 1 rfl rfl rfl ?_
  refine o_invokespecial X0 K d19_1 4 rfl rfl (w_108 hw) (w_109 hw) (w_112 hw) (w_113 hw) (by decide) [] [] rfl  (c_num l Z a0 hw n0 a h0 Z0 ) e0 rfl (lenOf pd___V rfl) (by decide) 0 (Nat.le_of_eq rfl) (by decide) (by decide) (by decide) N0 ?_
  rintro _ T_155 h_155 locs_155 X_155 q_155 ⟨rfl, r_155⟩ N_155
  have e_155 := q_155.trans r_155
  show OGo p e below _ n0 _ (T_155.setTop (mkF m 4 #[.val (.ref a), .val (.int z)] []))
  refine o_aloadN X_155 K d19_4 5 rfl rfl rfl ?_
  refine o_iloadN X_155 K d19_5 6 rfl rfl ?_
  refine o_putfield X_155 K (host := "") (ty := .int) d19_6 9 rfl (Or.inl (w_115 hw)) Via.refl e_155 F_a_value E_a (Or.inr ⟨(w_116 hw), rfl, rfl⟩) (w_103 hw) (by decide) rfl rfl N_155 g_a ?_
  intro T_156 h_156 locs_156 X_156 e_156 W_156 N_156
  have Z_156 : n0 ≤ h_156.size := by rw [Wr.size W_156]; exact Z0
  have K_156 := KK0.wr W_156 (Or.inl (by simp))
  have f_157 := Exa.wr W_156 E_a
  have f_158 := Fld.same W_156 F_a_value
  refine o_return X_156 K d19_9 (by decide) (by decide) N_156 ?_
  rw [e_156]
  exact ⟨rfl, K_156⟩
theorem d18_0 : decode jdk_33_method_22_code 0 = .ok (.iload_n 0, 1) := by decide +kernel
theorem d18_1 : decode jdk_33_method_22_code 1 = .ok (.bipush (-128), 2) := by decide +kernel
theorem d18_3 : decode jdk_33_method_22_code 3 = .ok (.if_icmp .lt 20, 3) := by decide +kernel
theorem d18_23 : decode jdk_33_method_22_code 23 = .ok (.new 1, 3) := by decide +kernel
theorem d18_26 : decode jdk_33_method_22_code 26 = .ok (.dup, 1) := by decide +kernel
theorem d18_27 : decode jdk_33_method_22_code 27 = .ok (.iload_n 0, 1) := by decide +kernel
theorem d18_28 : decode jdk_33_method_22_code 28 = .ok (.invokespecial 199, 3) := by decide +kernel
theorem pd__I_V : parseMethodDescriptor "(I)V" = some ⟨[.int], none⟩ := by decide +kernel
theorem d18_31 : decode jdk_33_method_22_code 31 = .ok (.areturn, 1) := by decide +kernel
theorem d18_6 : decode jdk_33_method_22_code 6 = .ok (.iload_n 0, 1) := by decide +kernel
theorem d18_7 : decode jdk_33_method_22_code 7 = .ok (.getstatic 191, 3) := by decide +kernel
theorem d18_10 : decode jdk_33_method_22_code 10 = .ok (.if_icmp .gt 13, 3) := by decide +kernel
theorem d18_13 : decode jdk_33_method_22_code 13 = .ok (.getstatic 195, 3) := by decide +kernel
theorem d18_16 : decode jdk_33_method_22_code 16 = .ok (.iload_n 0, 1) := by decide +kernel
theorem d18_17 : decode jdk_33_method_22_code 17 = .ok (.sipush 128, 3) := by decide +kernel
theorem d18_20 : decode jdk_33_method_22_code 20 = .ok (.iadd, 1) := by decide +kernel
theorem d18_21 : decode jdk_33_method_22_code 21 = .ok (.aaload, 1) := by decide +kernel
theorem d18_22 : decode jdk_33_method_22_code 22 = .ok (.areturn, 1) := by decide +kernel
theorem pn_18 : plainFor (⟨"java/lang/Integer", "valueOf", "(I)Ljava/lang/Integer;"⟩ : MethodName) = true := plainFor_of_name (by first | (simp [plainName, overriddenIn]; done) | decide +kernel)
set_option maxHeartbeats 4000000 in
theorem c_ival (l : Launch) (Z : State) (a0 : Array Value) (hw : OW Z a0) (n0 : Nat) (z : Int32) (ca : Addr) (cf : Nat → Value) (h0 : Heap) (Z0 : n0 ≤ h0.size) (S_high : Sta Z h0 "java/lang/Integer$IntegerCache" "high" "I" (.int (127 : Int32))) (S_cache : Sta Z h0 "java/lang/Integer$IntegerCache" "cache" "[Ljava/lang/Integer;" (.ref ca)) (A_ca : OAr Z h0 ca (.object "java/lang/Integer") 256 cf) :
    OCon l Z n0 (⟨"java/lang/Integer", "valueOf", "(I)Ljava/lang/Integer;"⟩ : MethodName) jdk_33_method_22_code 1 (some (.object "java/lang/Integer")) ({ frames := 3, cells := 1, slots := 1, locals := 39 } : Room) #[(.int z)] h0 (fun v h => ∃ rv : Value, v = some rv ∧ (rv = .null ∨ ∃ q, rv = .ref q) ∧ Keep h0 h []) := by
  refine OCon.of (Ls := #[.val (.int z)]) pn_18 rfl rfl (fun m => by first | (simp [entryFrame, mkF, argsToLocals, Value.category]; done) | rfl) ?_
  intro p e s m below meth c T0 X0 K e0
  have N0 := Fr.nil n0
  have KK0 := Keep.refl h0 []
  refine o_iloadN X0 K d18_0 1 rfl rfl ?_
  refine o_bipush X0 K (-128 : Int32) d18_1 3 rfl rfl ?_
  refine o_icmp_lt X0 K d18_3 23 (by decide) (by decide) 6 rfl (fun hc3 => ?_) (fun hc3 => ?_)
  · refine o_new X0 K d18_23 26 rfl (w_102 hw) (w_103 hw) (w_98 hw) e0 (by decide) (by decide) ?_
    intro T_159 h_159 x g_159 X_159 e_159 E_159 B_159 D_159
    have Z_159 : n0 ≤ h_159.size := Nat.le_trans Z0 E_159.1
    have K_159 := KK0.ext E_159
    have f_160 := Sta.ext E_159 S_high
    have f_161 := Sta.ext E_159 S_cache
    have f_162 := A_ca.ext E_159
    have g_x : n0 ≤ x := by rw [g_159]; exact Z0
    have ne_ca_x : ca ≠ x := by rw [g_159]; exact Nat.ne_of_lt A_ca.lt
    have sz_x : h0.size ≤ x := by rw [g_159]; exact KK0.1
    have F_value__159 : Fld Z h_159 x "java/lang/Integer" "value" "I" (.int (0 : Int32)) := D_159 (Or.inr (w_116 hw)) (ty := .int) (by decide)
    refine o_dup X_159 K d18_26 27 rfl rfl ?_
    refine o_iloadN X_159 K d18_27 28 rfl rfl ?_
    refine o_invokespecial X_159 K d18_28 31 rfl rfl (w_104 hw) (w_105 hw) (w_98 hw) (w_107 hw) (by decide) [(.int z)] [(.ref x)] rfl  (c_iinit l Z a0 hw n0 x z h_159 Z_159 B_159 F_value__159 g_x) e_159 rfl (lenOf pd__I_V rfl) (by decide) 1 (Nat.le_of_eq rfl) (by decide) (by decide) (by decide) N0 ?_
    rintro _ T_163 h_163 locs_163 X_163 e_163 ⟨rfl, k_163⟩ N_163
    have Z_163 : n0 ≤ h_163.size := Nat.le_trans Z_159 k_163.1
    have K_163 := K_159.trans k_163 (allS (Or.inr sz_x) (all0))
    have f_164 := o_sta_keep f_160 k_163 (o_plainS B_159 (o_plain0))
    have f_165 := o_sta_keep f_161 k_163 (o_plainS B_159 (o_plain0))
    have f_166 := f_162.keep k_163 (ninS ne_ca_x (nin0))
    have f_167 := Exa.keep B_159 k_163
    show OGo p e below _ n0 _ (T_163.setTop (mkF m 31 #[.val (.int z)] [(.ref x)]))
    refine o_areturn X_163 K rfl rfl rfl d18_31 (by decide) (by decide) N_163 ?_
    rw [e_163]
    exact ⟨_, rfl, Or.inr ⟨_, rfl⟩, K_163⟩
  · refine o_iloadN X0 K d18_6 7 rfl rfl ?_
    refine o_getstatic X0 K (host := "") d18_7 10 rfl (Or.inl (w_100 hw)) Via.refl e0 S_high ?_
    intro T_168 X_168 e_168
    refine o_icmp_gt X_168 K d18_10 23 (by decide) (by decide) 13 rfl (fun hc10 => ?_) (fun hc10 => ?_)
    · refine o_new X_168 K d18_23 26 rfl (w_102 hw) (w_103 hw) (w_98 hw) e_168 (by decide) (by decide) ?_
      intro T_169 h_169 x g_169 X_169 e_169 E_169 B_169 D_169
      have Z_169 : n0 ≤ h_169.size := Nat.le_trans Z0 E_169.1
      have K_169 := KK0.ext E_169
      have f_170 := Sta.ext E_169 S_high
      have f_171 := Sta.ext E_169 S_cache
      have f_172 := A_ca.ext E_169
      have g_x : n0 ≤ x := by rw [g_169]; exact Z0
      have ne_ca_x : ca ≠ x := by rw [g_169]; exact Nat.ne_of_lt A_ca.lt
      have sz_x : h0.size ≤ x := by rw [g_169]; exact KK0.1
      have F_value__169 : Fld Z h_169 x "java/lang/Integer" "value" "I" (.int (0 : Int32)) := D_169 (Or.inr (w_116 hw)) (ty := .int) (by decide)
      refine o_dup X_169 K d18_26 27 rfl rfl ?_
      refine o_iloadN X_169 K d18_27 28 rfl rfl ?_
      refine o_invokespecial X_169 K d18_28 31 rfl rfl (w_104 hw) (w_105 hw) (w_98 hw) (w_107 hw) (by decide) [(.int z)] [(.ref x)] rfl  (c_iinit l Z a0 hw n0 x z h_169 Z_169 B_169 F_value__169 g_x) e_169 rfl (lenOf pd__I_V rfl) (by decide) 1 (Nat.le_of_eq rfl) (by decide) (by decide) (by decide) N0 ?_
      rintro _ T_173 h_173 locs_173 X_173 e_173 ⟨rfl, k_173⟩ N_173
      have Z_173 : n0 ≤ h_173.size := Nat.le_trans Z_169 k_173.1
      have K_173 := K_169.trans k_173 (allS (Or.inr sz_x) (all0))
      have f_174 := o_sta_keep f_170 k_173 (o_plainS B_169 (o_plain0))
      have f_175 := o_sta_keep f_171 k_173 (o_plainS B_169 (o_plain0))
      have f_176 := f_172.keep k_173 (ninS ne_ca_x (nin0))
      have f_177 := Exa.keep B_169 k_173
      show OGo p e below _ n0 _ (T_173.setTop (mkF m 31 #[.val (.int z)] [(.ref x)]))
      refine o_areturn X_173 K rfl rfl rfl d18_31 (by decide) (by decide) N_173 ?_
      rw [e_173]
      exact ⟨_, rfl, Or.inr ⟨_, rfl⟩, K_173⟩
    · refine o_getstatic X_168 K (host := "") d18_13 16 rfl (Or.inl (w_190 hw)) Via.refl e_168 S_cache ?_
      intro T_178 X_178 e_178
      refine o_iloadN X_178 K d18_16 17 rfl rfl ?_
      refine o_sipush X_178 K (128 : Int32) d18_17 20 rfl rfl ?_
      refine o_iadd X_178 K d18_20 21 rfl ?_
      obtain ⟨hj, hi⟩ := own_idx hc3 hc10
      rcases own_isref (OAr.fit A_ca hi) with hq | ⟨qv, hq⟩
      · skip
        refine o_aaload X_178 K (i := (z.toInt + 128).toNat) (v := .null) d18_21 22 rfl e_178 A_ca rfl (hj) (hi) (hq) ?_
        refine o_areturn X_178 K rfl rfl rfl d18_22 (by decide) (by decide) N0 ?_
        rw [e_178]
        exact ⟨_, rfl, Or.inl rfl, KK0⟩
      · skip
        refine o_aaload X_178 K (i := (z.toInt + 128).toNat) (v := (.ref qv)) d18_21 22 rfl e_178 A_ca rfl (hj) (hi) (hq) ?_
        refine o_areturn X_178 K rfl rfl rfl d18_22 (by decide) (by decide) N0 ?_
        rw [e_178]
        exact ⟨_, rfl, Or.inr ⟨_, rfl⟩, KK0⟩
theorem d21_0 : decode prog_21_method_2_code 0 = .ok (.aload_n 0, 1) := by decide +kernel
theorem d21_1 : decode prog_21_method_2_code 1 = .ok (.invokespecial 1, 3) := by decide +kernel
theorem d21_4 : decode prog_21_method_2_code 4 = .ok (.aload_n 0, 1) := by decide +kernel
theorem d21_5 : decode prog_21_method_2_code 5 = .ok (.aload_n 1, 1) := by decide +kernel
theorem d21_6 : decode prog_21_method_2_code 6 = .ok (.putfield 7, 3) := by decide +kernel
theorem d21_9 : decode prog_21_method_2_code 9 = .ok (.aload_n 0, 1) := by decide +kernel
theorem d21_10 : decode prog_21_method_2_code 10 = .ok (.aload_n 2, 1) := by decide +kernel
theorem d21_11 : decode prog_21_method_2_code 11 = .ok (.putfield 13, 3) := by decide +kernel
theorem d21_14 : decode prog_21_method_2_code 14 = .ok (.aload_n 0, 1) := by decide +kernel
theorem d21_15 : decode prog_21_method_2_code 15 = .ok (.aload_n 3, 1) := by decide +kernel
theorem d21_16 : decode prog_21_method_2_code 16 = .ok (.putfield 16, 3) := by decide +kernel
theorem d21_19 : decode prog_21_method_2_code 19 = .ok (.aload_n 0, 1) := by decide +kernel
theorem d21_20 : decode prog_21_method_2_code 20 = .ok (.aload 4, 2) := by decide +kernel
theorem d21_22 : decode prog_21_method_2_code 22 = .ok (.putfield 19, 3) := by decide +kernel
theorem d21_25 : decode prog_21_method_2_code 25 = .ok (.return_, 1) := by decide +kernel
theorem pn_21 : plainFor (⟨"com/example/outlet_to_office/outlettooffice/server/Problem", "<init>", "(Ljava/lang/String;Ljava/lang/String;Ljava/lang/String;Ljava/lang/Integer;)V"⟩ : MethodName) = true := plainFor_of_name (by first | (simp [plainName, overriddenIn]; done) | decide +kernel)
set_option maxHeartbeats 4000000 in
theorem c_pinit0 (l : Launch) (Z : State) (a0 : Array Value) (hw : OW Z a0) (n0 : Nat) (a f t u : Addr) (h0 : Heap) (Z0 : n0 ≤ h0.size) (E_a : Exa Z h0 a "com/example/outlet_to_office/outlettooffice/server/Problem") (F_a_field : Fld Z h0 a "com/example/outlet_to_office/outlettooffice/server/Problem" "field" "Ljava/lang/String;" .null) (F_a_type : Fld Z h0 a "com/example/outlet_to_office/outlettooffice/server/Problem" "type" "Ljava/lang/String;" .null) (F_a_message : Fld Z h0 a "com/example/outlet_to_office/outlettooffice/server/Problem" "message" "Ljava/lang/String;" .null) (F_a_line : Fld Z h0 a "com/example/outlet_to_office/outlettooffice/server/Problem" "line" "Ljava/lang/Integer;" .null) (g_a : n0 ≤ a) :
    OCon l Z n0 (⟨"com/example/outlet_to_office/outlettooffice/server/Problem", "<init>", "(Ljava/lang/String;Ljava/lang/String;Ljava/lang/String;Ljava/lang/Integer;)V"⟩ : MethodName) prog_21_method_2_code 5 none ({ frames := 2, cells := 0, slots := 0, locals := 24 } : Room) #[(.ref a), (.ref f), (.ref t), (.ref u), .null] h0 (fun v h => v = none ∧ Keep h0 h [a] ∧ Exa Z h a "com/example/outlet_to_office/outlettooffice/server/Problem") := by
  refine OCon.of (Ls := #[.val (.ref a), .val (.ref f), .val (.ref t), .val (.ref u), .val .null]) pn_21 rfl rfl (fun m => by first | (simp [entryFrame, mkF, argsToLocals, Value.category]; done) | rfl) ?_
  intro p e s m below meth c T0 X0 K e0
  have N0 := Fr.nil n0
  have KK0 := Keep.refl h0 [a]
  refine o_aloadN X0 K d21_0 1 rfl rfl rfl ?_
  refine o_invokespecial X0 K d21_1 4 rfl rfl (w_120 hw) (w_121 hw) (w_123 hw) (w_124 hw) (by decide) [] [] rfl  (c_rec l Z a0 hw n0 a h0 Z0 ) e0 rfl (lenOf pd___V rfl) (by decide) 0 (Nat.le_of_eq rfl) (by decide) (by decide) (by decide) N0 ?_
  rintro _ T_179 h_179 locs_179 X_179 q_179 ⟨rfl, r_179⟩ N_179
  have e_179 := q_179.trans r_179
  show OGo p e below _ n0 _ (T_179.setTop (mkF m 4 #[.val (.ref a), .val (.ref f), .val (.ref t), .val (.ref u), .val .null] []))
  refine o_aloadN X_179 K d21_4 5 rfl rfl rfl ?_
  refine o_aloadN X_179 K d21_5 6 rfl rfl rfl ?_
  refine o_putfield X_179 K (host := "") (ty := (.object "java/lang/String")) d21_6 9 rfl (Or.inl (w_126 hw)) Via.refl e_179 F_a_field E_a (Or.inr ⟨(w_127 hw), rfl, rfl⟩) (w_94 hw) (by decide) rfl rfl N_179 g_a ?_
  intro T_180 h_180 locs_180 X_180 e_180 W_180 N_180
  have Z_180 : n0 ≤ h_180.size := by rw [Wr.size W_180]; exact Z0
  have K_180 := KK0.wr W_180 (Or.inl (by simp))
  have f_181 := Exa.wr W_180 E_a
  have f_182 := Fld.same W_180 F_a_field
  have f_183 := Fld.other W_180 F_a_type (Or.inr (slot_ne (Or.inr (w_129 hw)) (Or.inr (w_127 hw)) (by decide) (t := (.object "java/lang/String")) (t' := (.object "java/lang/String")) (by decide) (by decide)))
  have f_184 := Fld.other W_180 F_a_message (Or.inr (slot_ne (Or.inr (w_131 hw)) (Or.inr (w_127 hw)) (by decide) (t := (.object "java/lang/String")) (t' := (.object "java/lang/String")) (by decide) (by decide)))
  have f_185 := Fld.other W_180 F_a_line (Or.inr (slot_ne (Or.inr (w_133 hw)) (Or.inr (w_127 hw)) (by decide) (t := (.object "java/lang/Integer")) (t' := (.object "java/lang/String")) (by decide) (by decide)))
  refine o_aloadN X_180 K d21_9 10 rfl rfl rfl ?_
  refine o_aloadN X_180 K d21_10 11 rfl rfl rfl ?_
  refine o_putfield X_180 K (host := "") (ty := (.object "java/lang/String")) d21_11 14 rfl (Or.inl (w_128 hw)) Via.refl e_180 f_183 f_181 (Or.inr ⟨(w_129 hw), rfl, rfl⟩) (w_94 hw) (by decide) rfl rfl N_180 g_a ?_
  intro T_186 h_186 locs_186 X_186 e_186 W_186 N_186
  have Z_186 : n0 ≤ h_186.size := by rw [Wr.size W_186]; exact Z_180
  have K_186 := K_180.wr W_186 (Or.inl (by simp))
  have f_187 := Exa.wr W_186 f_181
  have f_188 := Fld.other W_186 f_182 (Or.inr (slot_ne (Or.inr (w_127 hw)) (Or.inr (w_129 hw)) (by decide) (t := (.object "java/lang/String")) (t' := (.object "java/lang/String")) (by decide) (by decide)))
  have f_189 := Fld.same W_186 f_183
  have f_190 := Fld.other W_186 f_184 (Or.inr (slot_ne (Or.inr (w_131 hw)) (Or.inr (w_129 hw)) (by decide) (t := (.object "java/lang/String")) (t' := (.object "java/lang/String")) (by decide) (by decide)))
  have f_191 := Fld.other W_186 f_185 (Or.inr (slot_ne (Or.inr (w_133 hw)) (Or.inr (w_129 hw)) (by decide) (t := (.object "java/lang/Integer")) (t' := (.object "java/lang/String")) (by decide) (by decide)))
  refine o_aloadN X_186 K d21_14 15 rfl rfl rfl ?_
  refine o_aloadN X_186 K d21_15 16 rfl rfl rfl ?_
  refine o_putfield X_186 K (host := "") (ty := (.object "java/lang/String")) d21_16 19 rfl (Or.inl (w_130 hw)) Via.refl e_186 f_190 f_187 (Or.inr ⟨(w_131 hw), rfl, rfl⟩) (w_94 hw) (by decide) rfl rfl N_186 g_a ?_
  intro T_192 h_192 locs_192 X_192 e_192 W_192 N_192
  have Z_192 : n0 ≤ h_192.size := by rw [Wr.size W_192]; exact Z_186
  have K_192 := K_186.wr W_192 (Or.inl (by simp))
  have f_193 := Exa.wr W_192 f_187
  have f_194 := Fld.other W_192 f_188 (Or.inr (slot_ne (Or.inr (w_127 hw)) (Or.inr (w_131 hw)) (by decide) (t := (.object "java/lang/String")) (t' := (.object "java/lang/String")) (by decide) (by decide)))
  have f_195 := Fld.other W_192 f_189 (Or.inr (slot_ne (Or.inr (w_129 hw)) (Or.inr (w_131 hw)) (by decide) (t := (.object "java/lang/String")) (t' := (.object "java/lang/String")) (by decide) (by decide)))
  have f_196 := Fld.same W_192 f_190
  have f_197 := Fld.other W_192 f_191 (Or.inr (slot_ne (Or.inr (w_133 hw)) (Or.inr (w_131 hw)) (by decide) (t := (.object "java/lang/Integer")) (t' := (.object "java/lang/String")) (by decide) (by decide)))
  refine o_aloadN X_192 K d21_19 20 rfl rfl rfl ?_
  refine o_aload X_192 K d21_20 22 rfl rfl rfl ?_
  refine o_putfield X_192 K (host := "") (ty := (.object "java/lang/Integer")) d21_22 25 rfl (Or.inl (w_132 hw)) Via.refl e_192 f_197 f_193 (Or.inr ⟨(w_133 hw), rfl, rfl⟩) (w_94 hw) (by decide) rfl rfl N_192 g_a ?_
  intro T_198 h_198 locs_198 X_198 e_198 W_198 N_198
  have Z_198 : n0 ≤ h_198.size := by rw [Wr.size W_198]; exact Z_192
  have K_198 := K_192.wr W_198 (Or.inl (by simp))
  have f_199 := Exa.wr W_198 f_193
  have f_200 := Fld.other W_198 f_194 (Or.inr (slot_ne (Or.inr (w_127 hw)) (Or.inr (w_133 hw)) (by decide) (t := (.object "java/lang/String")) (t' := (.object "java/lang/Integer")) (by decide) (by decide)))
  have f_201 := Fld.other W_198 f_195 (Or.inr (slot_ne (Or.inr (w_129 hw)) (Or.inr (w_133 hw)) (by decide) (t := (.object "java/lang/String")) (t' := (.object "java/lang/Integer")) (by decide) (by decide)))
  have f_202 := Fld.other W_198 f_196 (Or.inr (slot_ne (Or.inr (w_131 hw)) (Or.inr (w_133 hw)) (by decide) (t := (.object "java/lang/String")) (t' := (.object "java/lang/Integer")) (by decide) (by decide)))
  have f_203 := Fld.same W_198 f_197
  refine o_return X_198 K d21_25 (by decide) (by decide) N_198 ?_
  rw [e_198]
  exact ⟨rfl, K_198, f_199⟩
set_option maxHeartbeats 4000000 in
theorem c_pinit1 (l : Launch) (Z : State) (a0 : Array Value) (hw : OW Z a0) (n0 : Nat) (a f t u qv : Addr) (h0 : Heap) (Z0 : n0 ≤ h0.size) (E_a : Exa Z h0 a "com/example/outlet_to_office/outlettooffice/server/Problem") (F_a_field : Fld Z h0 a "com/example/outlet_to_office/outlettooffice/server/Problem" "field" "Ljava/lang/String;" .null) (F_a_type : Fld Z h0 a "com/example/outlet_to_office/outlettooffice/server/Problem" "type" "Ljava/lang/String;" .null) (F_a_message : Fld Z h0 a "com/example/outlet_to_office/outlettooffice/server/Problem" "message" "Ljava/lang/String;" .null) (F_a_line : Fld Z h0 a "com/example/outlet_to_office/outlettooffice/server/Problem" "line" "Ljava/lang/Integer;" .null) (g_a : n0 ≤ a) :
    OCon l Z n0 (⟨"com/example/outlet_to_office/outlettooffice/server/Problem", "<init>", "(Ljava/lang/String;Ljava/lang/String;Ljava/lang/String;Ljava/lang/Integer;)V"⟩ : MethodName) prog_21_method_2_code 5 none ({ frames := 2, cells := 0, slots := 0, locals := 24 } : Room) #[(.ref a), (.ref f), (.ref t), (.ref u), (.ref qv)] h0 (fun v h => v = none ∧ Keep h0 h [a] ∧ Exa Z h a "com/example/outlet_to_office/outlettooffice/server/Problem") := by
  refine OCon.of (Ls := #[.val (.ref a), .val (.ref f), .val (.ref t), .val (.ref u), .val (.ref qv)]) pn_21 rfl rfl (fun m => by first | (simp [entryFrame, mkF, argsToLocals, Value.category]; done) | rfl) ?_
  intro p e s m below meth c T0 X0 K e0
  have N0 := Fr.nil n0
  have KK0 := Keep.refl h0 [a]
  refine o_aloadN X0 K d21_0 1 rfl rfl rfl ?_
  refine o_invokespecial X0 K d21_1 4 rfl rfl (w_120 hw) (w_121 hw) (w_123 hw) (w_124 hw) (by decide) [] [] rfl  (c_rec l Z a0 hw n0 a h0 Z0 ) e0 rfl (lenOf pd___V rfl) (by decide) 0 (Nat.le_of_eq rfl) (by decide) (by decide) (by decide) N0 ?_
  rintro _ T_204 h_204 locs_204 X_204 q_204 ⟨rfl, r_204⟩ N_204
  have e_204 := q_204.trans r_204
  show OGo p e below _ n0 _ (T_204.setTop (mkF m 4 #[.val (.ref a), .val (.ref f), .val (.ref t), .val (.ref u), .val (.ref qv)] []))
  refine o_aloadN X_204 K d21_4 5 rfl rfl rfl ?_
  refine o_aloadN X_204 K d21_5 6 rfl rfl rfl ?_
  refine o_putfield X_204 K (host := "") (ty := (.object "java/lang/String")) d21_6 9 rfl (Or.inl (w_126 hw)) Via.refl e_204 F_a_field E_a (Or.inr ⟨(w_127 hw), rfl, rfl⟩) (w_94 hw) (by decide) rfl rfl N_204 g_a ?_
  intro T_205 h_205 locs_205 X_205 e_205 W_205 N_205
  have Z_205 : n0 ≤ h_205.size := by rw [Wr.size W_205]; exact Z0
  have K_205 := KK0.wr W_205 (Or.inl (by simp))
  have f_206 := Exa.wr W_205 E_a
  have f_207 := Fld.same W_205 F_a_field
  have f_208 := Fld.other W_205 F_a_type (Or.inr (slot_ne (Or.inr (w_129 hw)) (Or.inr (w_127 hw)) (by decide) (t := (.object "java/lang/String")) (t' := (.object "java/lang/String")) (by decide) (by decide)))
  have f_209 := Fld.other W_205 F_a_message (Or.inr (slot_ne (Or.inr (w_131 hw)) (Or.inr (w_127 hw)) (by decide) (t := (.object "java/lang/String")) (t' := (.object "java/lang/String")) (by decide) (by decide)))
  have f_210 := Fld.other W_205 F_a_line (Or.inr (slot_ne (Or.inr (w_133 hw)) (Or.inr (w_127 hw)) (by decide) (t := (.object "java/lang/Integer")) (t' := (.object "java/lang/String")) (by decide) (by decide)))
  refine o_aloadN X_205 K d21_9 10 rfl rfl rfl ?_
  refine o_aloadN X_205 K d21_10 11 rfl rfl rfl ?_
  refine o_putfield X_205 K (host := "") (ty := (.object "java/lang/String")) d21_11 14 rfl (Or.inl (w_128 hw)) Via.refl e_205 f_208 f_206 (Or.inr ⟨(w_129 hw), rfl, rfl⟩) (w_94 hw) (by decide) rfl rfl N_205 g_a ?_
  intro T_211 h_211 locs_211 X_211 e_211 W_211 N_211
  have Z_211 : n0 ≤ h_211.size := by rw [Wr.size W_211]; exact Z_205
  have K_211 := K_205.wr W_211 (Or.inl (by simp))
  have f_212 := Exa.wr W_211 f_206
  have f_213 := Fld.other W_211 f_207 (Or.inr (slot_ne (Or.inr (w_127 hw)) (Or.inr (w_129 hw)) (by decide) (t := (.object "java/lang/String")) (t' := (.object "java/lang/String")) (by decide) (by decide)))
  have f_214 := Fld.same W_211 f_208
  have f_215 := Fld.other W_211 f_209 (Or.inr (slot_ne (Or.inr (w_131 hw)) (Or.inr (w_129 hw)) (by decide) (t := (.object "java/lang/String")) (t' := (.object "java/lang/String")) (by decide) (by decide)))
  have f_216 := Fld.other W_211 f_210 (Or.inr (slot_ne (Or.inr (w_133 hw)) (Or.inr (w_129 hw)) (by decide) (t := (.object "java/lang/Integer")) (t' := (.object "java/lang/String")) (by decide) (by decide)))
  refine o_aloadN X_211 K d21_14 15 rfl rfl rfl ?_
  refine o_aloadN X_211 K d21_15 16 rfl rfl rfl ?_
  refine o_putfield X_211 K (host := "") (ty := (.object "java/lang/String")) d21_16 19 rfl (Or.inl (w_130 hw)) Via.refl e_211 f_215 f_212 (Or.inr ⟨(w_131 hw), rfl, rfl⟩) (w_94 hw) (by decide) rfl rfl N_211 g_a ?_
  intro T_217 h_217 locs_217 X_217 e_217 W_217 N_217
  have Z_217 : n0 ≤ h_217.size := by rw [Wr.size W_217]; exact Z_211
  have K_217 := K_211.wr W_217 (Or.inl (by simp))
  have f_218 := Exa.wr W_217 f_212
  have f_219 := Fld.other W_217 f_213 (Or.inr (slot_ne (Or.inr (w_127 hw)) (Or.inr (w_131 hw)) (by decide) (t := (.object "java/lang/String")) (t' := (.object "java/lang/String")) (by decide) (by decide)))
  have f_220 := Fld.other W_217 f_214 (Or.inr (slot_ne (Or.inr (w_129 hw)) (Or.inr (w_131 hw)) (by decide) (t := (.object "java/lang/String")) (t' := (.object "java/lang/String")) (by decide) (by decide)))
  have f_221 := Fld.same W_217 f_215
  have f_222 := Fld.other W_217 f_216 (Or.inr (slot_ne (Or.inr (w_133 hw)) (Or.inr (w_131 hw)) (by decide) (t := (.object "java/lang/Integer")) (t' := (.object "java/lang/String")) (by decide) (by decide)))
  refine o_aloadN X_217 K d21_19 20 rfl rfl rfl ?_
  refine o_aload X_217 K d21_20 22 rfl rfl rfl ?_
  refine o_putfield X_217 K (host := "") (ty := (.object "java/lang/Integer")) d21_22 25 rfl (Or.inl (w_132 hw)) Via.refl e_217 f_222 f_218 (Or.inr ⟨(w_133 hw), rfl, rfl⟩) (w_94 hw) (by decide) rfl rfl N_217 g_a ?_
  intro T_223 h_223 locs_223 X_223 e_223 W_223 N_223
  have Z_223 : n0 ≤ h_223.size := by rw [Wr.size W_223]; exact Z_217
  have K_223 := K_217.wr W_223 (Or.inl (by simp))
  have f_224 := Exa.wr W_223 f_218
  have f_225 := Fld.other W_223 f_219 (Or.inr (slot_ne (Or.inr (w_127 hw)) (Or.inr (w_133 hw)) (by decide) (t := (.object "java/lang/String")) (t' := (.object "java/lang/Integer")) (by decide) (by decide)))
  have f_226 := Fld.other W_223 f_220 (Or.inr (slot_ne (Or.inr (w_129 hw)) (Or.inr (w_133 hw)) (by decide) (t := (.object "java/lang/String")) (t' := (.object "java/lang/Integer")) (by decide) (by decide)))
  have f_227 := Fld.other W_223 f_221 (Or.inr (slot_ne (Or.inr (w_131 hw)) (Or.inr (w_133 hw)) (by decide) (t := (.object "java/lang/String")) (t' := (.object "java/lang/Integer")) (by decide) (by decide)))
  have f_228 := Fld.same W_223 f_222
  refine o_return X_223 K d21_25 (by decide) (by decide) N_223 ?_
  rw [e_223]
  exact ⟨rfl, K_223, f_224⟩
theorem d31_0 : decode prog_21_method_1_code 0 = .ok (.aload_n 0, 1) := by decide +kernel
theorem d31_1 : decode prog_21_method_1_code 1 = .ok (.aload_n 1, 1) := by decide +kernel
theorem d31_2 : decode prog_21_method_1_code 2 = .ok (.aload_n 2, 1) := by decide +kernel
theorem d31_3 : decode prog_21_method_1_code 3 = .ok (.aload_n 3, 1) := by decide +kernel
theorem d31_4 : decode prog_21_method_1_code 4 = .ok (.aconst_null, 1) := by decide +kernel
theorem d31_5 : decode prog_21_method_1_code 5 = .ok (.invokespecial 23, 3) := by decide +kernel
theorem pd__Ljava_lang_String_Ljava_lang_String_Ljava_lang_String_Ljava_lang_Integer__V : parseMethodDescriptor "(Ljava/lang/String;Ljava/lang/String;Ljava/lang/String;Ljava/lang/Integer;)V" = some ⟨[(.object "java/lang/String"), (.object "java/lang/String"), (.object "java/lang/String"), (.object "java/lang/Integer")], none⟩ := by decide +kernel
theorem d31_8 : decode prog_21_method_1_code 8 = .ok (.return_, 1) := by decide +kernel
theorem pn_31 : plainFor (⟨"com/example/outlet_to_office/outlettooffice/server/Problem", "<init>", "(Ljava/lang/String;Ljava/lang/String;Ljava/lang/String;)V"⟩ : MethodName) = true := plainFor_of_name (by first | (simp [plainName, overriddenIn]; done) | decide +kernel)
set_option maxHeartbeats 4000000 in
theorem c_pinit3 (l : Launch) (Z : State) (a0 : Array Value) (hw : OW Z a0) (n0 : Nat) (a f t u : Addr) (h0 : Heap) (Z0 : n0 ≤ h0.size) (E_a : Exa Z h0 a "com/example/outlet_to_office/outlettooffice/server/Problem") (F_a_field : Fld Z h0 a "com/example/outlet_to_office/outlettooffice/server/Problem" "field" "Ljava/lang/String;" .null) (F_a_type : Fld Z h0 a "com/example/outlet_to_office/outlettooffice/server/Problem" "type" "Ljava/lang/String;" .null) (F_a_message : Fld Z h0 a "com/example/outlet_to_office/outlettooffice/server/Problem" "message" "Ljava/lang/String;" .null) (F_a_line : Fld Z h0 a "com/example/outlet_to_office/outlettooffice/server/Problem" "line" "Ljava/lang/Integer;" .null) (g_a : n0 ≤ a) :
    OCon l Z n0 (⟨"com/example/outlet_to_office/outlettooffice/server/Problem", "<init>", "(Ljava/lang/String;Ljava/lang/String;Ljava/lang/String;)V"⟩ : MethodName) prog_21_method_1_code 4 none ({ frames := 3, cells := 0, slots := 0, locals := 40 } : Room) #[(.ref a), (.ref f), (.ref t), (.ref u)] h0 (fun v h => v = none ∧ Keep h0 h [a] ∧ Exa Z h a "com/example/outlet_to_office/outlettooffice/server/Problem") := by
  refine OCon.of (Ls := #[.val (.ref a), .val (.ref f), .val (.ref t), .val (.ref u)]) pn_31 rfl rfl (fun m => by first | (simp [entryFrame, mkF, argsToLocals, Value.category]; done) | rfl) ?_
  intro p e s m below meth c T0 X0 K e0
  have N0 := Fr.nil n0
  have KK0 := Keep.refl h0 [a]
  refine o_aloadN X0 K d31_0 1 rfl rfl rfl ?_
  refine o_aloadN X0 K d31_1 2 rfl rfl rfl ?_
  refine o_aloadN X0 K d31_2 3 rfl rfl rfl ?_
  refine o_aloadN X0 K d31_3 4 rfl rfl rfl ?_
  refine o_aconst_null X0 K d31_4 5 rfl ?_
  refine o_invokespecial X0 K d31_5 8 rfl rfl (w_189 hw) (w_118 hw) (w_95 hw) (w_119 hw) (by decide) [(.ref f), (.ref t), (.ref u), .null] [] rfl  (c_pinit0 l Z a0 hw n0 a f t u h0 Z0 E_a F_a_field F_a_type F_a_message F_a_line g_a) e0 rfl (lenOf pd__Ljava_lang_String_Ljava_lang_String_Ljava_lang_String_Ljava_lang_Integer__V rfl) (by decide) 0 (Nat.le_of_eq rfl) (by decide) (by decide) (by decide) N0 ?_
  rintro _ T_229 h_229 locs_229 X_229 e_229 ⟨rfl, k_229, p_229f0⟩ N_229
  have Z_229 : n0 ≤ h_229.size := Nat.le_trans Z0 k_229.1
  have K_229 := KK0.trans k_229 (allS (Or.inl (by simp)) (all0))
  have f_230 := Exa.keep E_a k_229
  show OGo p e below _ n0 _ (T_229.setTop (mkF m 8 #[.val (.ref a), .val (.ref f), .val (.ref t), .val (.ref u)] []))
  refine o_return X_229 K d31_8 (by decide) (by decide) N_229 ?_
  rw [e_229]
  exact ⟨rfl, K_229, p_229f0⟩
theorem d23_0 : decode prog_22_method_4_code 0 = .ok (.aload_n 0, 1) := by decide +kernel
theorem d23_1 : decode prog_22_method_4_code 1 = .ok (.getfield 10, 3) := by decide +kernel
theorem d23_4 : decode prog_22_method_4_code 4 = .ok (.invokeinterface 34 1, 5) := by decide +kernel
theorem pd___I : parseMethodDescriptor "()I" = some ⟨[], some .int⟩ := by decide +kernel
theorem d23_9 : decode prog_22_method_4_code 9 = .ok (.sipush 1000, 3) := by decide +kernel
theorem d23_12 : decode prog_22_method_4_code 12 = .ok (.if_icmp .ge 14, 3) := by decide +kernel
theorem d23_15 : decode prog_22_method_4_code 15 = .ok (.aload_n 0, 1) := by decide +kernel
theorem d23_16 : decode prog_22_method_4_code 16 = .ok (.getfield 10, 3) := by decide +kernel
theorem d23_19 : decode prog_22_method_4_code 19 = .ok (.aload_n 1, 1) := by decide +kernel
theorem d23_20 : decode prog_22_method_4_code 20 = .ok (.invokeinterface 40 2, 5) := by decide +kernel
theorem pd__Ljava_lang_Object__Z : parseMethodDescriptor "(Ljava/lang/Object;)Z" = some ⟨[(.object "java/lang/Object")], some .boolean⟩ := by decide +kernel
theorem d23_25 : decode prog_22_method_4_code 25 = .ok (.pop, 1) := by decide +kernel
theorem d23_26 : decode prog_22_method_4_code 26 = .ok (.aload_n 0, 1) := by decide +kernel
theorem d23_27 : decode prog_22_method_4_code 27 = .ok (.dup, 1) := by decide +kernel
theorem d23_28 : decode prog_22_method_4_code 28 = .ok (.getfield 43, 3) := by decide +kernel
theorem d23_31 : decode prog_22_method_4_code 31 = .ok (.lconst 1, 1) := by decide +kernel
theorem d23_32 : decode prog_22_method_4_code 32 = .ok (.ladd, 1) := by decide +kernel
theorem d23_33 : decode prog_22_method_4_code 33 = .ok (.putfield 43, 3) := by decide +kernel
theorem d23_36 : decode prog_22_method_4_code 36 = .ok (.return_, 1) := by decide +kernel
theorem pn_23 : plainFor (⟨"com/example/outlet_to_office/outlettooffice/server/Problems", "add", "(Lcom/example/outlet_to_office/outlettooffice/server/Problem;)V"⟩ : MethodName) = true := plainFor_of_name (by first | (simp [plainName, overriddenIn]; done) | decide +kernel)
set_option maxHeartbeats 4000000 in
theorem c_paddA (l : Launch) (Z : State) (a0 : Array Value) (hw : OW Z a0) (n0 : Nat) (a li x de : Addr) (n : Int64) (h0 : Heap) (Z0 : n0 ≤ h0.size) (S_DEFAULTCAPACITY_EMPTY_ELEMENTDATA : Sta Z h0 "java/util/ArrayList" "DEFAULTCAPACITY_EMPTY_ELEMENTDATA" "[Ljava/lang/Object;" (.ref de)) (A_de : OAr Z h0 de (.object "java/lang/Object") 0 (fun _ => .null)) (E_a : Exa Z h0 a "com/example/outlet_to_office/outlettooffice/server/Problems") (F_a_listed : Fld Z h0 a "com/example/outlet_to_office/outlettooffice/server/Problems" "listed" "Ljava/util/List;" (.ref li)) (F_a_count : Fld Z h0 a "com/example/outlet_to_office/outlettooffice/server/Problems" "count" "J" (.long n)) (g_a : n0 ≤ a) (E_li : Exa Z h0 li "java/util/ArrayList") (F_li_modCount : Fld Z h0 li "java/util/AbstractList" "modCount" "I" (.int (0 : Int32))) (F_li_elementData : Fld Z h0 li "java/util/ArrayList" "elementData" "[Ljava/lang/Object;" (.ref de)) (F_li_size : Fld Z h0 li "java/util/ArrayList" "size" "I" (.int (0 : Int32))) (g_li : n0 ≤ li) (ne_a_li : a ≠ li) (ne_de_a : de ≠ a) (ne_de_li : de ≠ li) (E_x : Exa Z h0 x "com/example/outlet_to_office/outlettooffice/server/Problem") :
    OCon l Z n0 (⟨"com/example/outlet_to_office/outlettooffice/server/Problems", "add", "(Lcom/example/outlet_to_office/outlettooffice/server/Problem;)V"⟩ : MethodName) prog_22_method_4_code 2 none ({ frames := 5, cells := 1, slots := 10, locals := 72 } : Room) #[(.ref a), (.ref x)] h0 (fun v h => ∃ nd : Addr, v = none ∧ Keep h0 h [a, li] ∧ n0 ≤ nd ∧ h0.size ≤ nd ∧ Exa Z h a "com/example/outlet_to_office/outlettooffice/server/Problems" ∧ Fld Z h a "com/example/outlet_to_office/outlettooffice/server/Problems" "listed" "Ljava/util/List;" (.ref li) ∧ Fld Z h a "com/example/outlet_to_office/outlettooffice/server/Problems" "count" "J" (.long (n + (1 : Int64))) ∧ Exa Z h li "java/util/ArrayList" ∧ Fld Z h li "java/util/AbstractList" "modCount" "I" (.int ((0 : Int32) + (1 : Int32))) ∧ Fld Z h li "java/util/ArrayList" "elementData" "[Ljava/lang/Object;" (.ref nd) ∧ Fld Z h li "java/util/ArrayList" "size" "I" (.int ((0 : Int32) + (1 : Int32))) ∧ OAo Z h nd) := by
  refine OCon.of (Ls := #[.val (.ref a), .val (.ref x)]) pn_23 rfl rfl (fun m => by first | (simp [entryFrame, mkF, argsToLocals, Value.category]; done) | rfl) ?_
  intro p e s m below meth c T0 X0 K e0
  have N0 := Fr.nil n0
  have KK0 := Keep.refl h0 [a, li]
  refine o_aloadN X0 K d23_0 1 rfl rfl rfl ?_
  refine o_getfield X0 K (host := "") d23_1 4 rfl (Or.inl (w_75 hw)) Via.refl e0 F_a_listed ?_
  intro T_231 X_231 e_231
  refine o_invokeinterface X_231 K d23_4 9 rfl (w_138 hw) (w_139 hw) (w_140 hw) (w_141 hw) (w_142 hw) (w_143 hw) (w_144 hw) (w_145 hw) (w_53 hw) (w_146 hw) (by decide) E_li [] [] rfl  (c_size l Z a0 hw n0 li (0 : Int32) h0 Z0 F_li_size) e_231 rfl (lenOf pd___I rfl) (by decide) 0 (Nat.le_of_eq rfl) (by decide) (by decide) (by decide) N0 ?_
  rintro _ T_232 h_232 locs_232 X_232 q_232 ⟨rfl, r_232⟩ N_232
  have e_232 := q_232.trans r_232
  show OGo p e below _ n0 _ (T_232.setTop (mkF m 9 #[.val (.ref a), .val (.ref x)] [(.int (0 : Int32))]))
  refine o_sipush X_232 K (1000 : Int32) d23_9 12 rfl rfl ?_
  refine o_icmp_ge_f X_232 K d23_12 15 rfl (by decide) ?_
  refine o_aloadN X_232 K d23_15 16 rfl rfl rfl ?_
  refine o_getfield X_232 K (host := "") d23_16 19 rfl (Or.inl (w_75 hw)) Via.refl e_232 F_a_listed ?_
  intro T_233 X_233 e_233
  refine o_aloadN X_233 K d23_19 20 rfl rfl rfl ?_
  refine o_invokeinterface X_233 K d23_20 25 rfl (w_149 hw) (w_150 hw) (w_151 hw) (w_152 hw) (w_153 hw) (w_154 hw) (w_155 hw) (w_145 hw) (w_53 hw) (w_156 hw) (by decide) E_li [(.ref x)] [] rfl  (c_addA l Z a0 hw n0 li x de (0 : Int32) h0 Z0 S_DEFAULTCAPACITY_EMPTY_ELEMENTDATA A_de E_li F_li_modCount F_li_elementData F_li_size g_li ne_de_li E_x) e_233 rfl (lenOf pd__Ljava_lang_Object__Z rfl) (by decide) 0 (Nat.le_of_eq rfl) (by decide) (by decide) (by decide) N_232 ?_
  rintro _ T_234 h_234 locs_234 X_234 e_234 ⟨nd, rfl, k_234, gg_234_nd, sz_234_nd, p_234f0, p_234f1, p_234f2, p_234f3, p_234f4⟩ N_234
  have Z_234 : n0 ≤ h_234.size := Nat.le_trans Z0 k_234.1
  have K_234 := KK0.trans k_234 (allS (Or.inl (by simp)) (all0))
  have f_235 := o_sta_keep S_DEFAULTCAPACITY_EMPTY_ELEMENTDATA k_234 (o_plainS E_li (o_plain0))
  have f_236 := A_de.keep k_234 (ninS ne_de_li (nin0))
  have f_237 := Exa.keep E_a k_234
  have f_238 := Fld.keep F_a_listed k_234 (ninS ne_a_li (nin0))
  have f_239 := Fld.keep F_a_count k_234 (ninS ne_a_li (nin0))
  have f_240 := Exa.keep E_li k_234
  have f_241 := Exa.keep E_x k_234
  have ne_de_nd : de ≠ nd := Nat.ne_of_lt (Nat.lt_of_lt_of_le A_de.lt sz_234_nd)
  have ne_a_nd : a ≠ nd := Nat.ne_of_lt (Nat.lt_of_lt_of_le E_a.lt sz_234_nd)
  have ne_li_nd : li ≠ nd := Nat.ne_of_lt (Nat.lt_of_lt_of_le E_li.lt sz_234_nd)
  have ne_x_nd : x ≠ nd := Nat.ne_of_lt (Nat.lt_of_lt_of_le E_x.lt sz_234_nd)
  have sz_nd : h0.size ≤ nd := Nat.le_trans KK0.1 sz_234_nd
  show OGo p e below _ n0 _ (T_234.setTop (mkF m 25 #[.val (.ref a), .val (.ref x)] [(.int (1 : Int32))]))
  refine o_pop X_234 K d23_25 26 rfl rfl ?_
  refine o_aloadN X_234 K d23_26 27 rfl rfl rfl ?_
  refine o_dup X_234 K d23_27 28 rfl rfl ?_
  refine o_getfield X_234 K (host := "") d23_28 31 rfl (Or.inl (w_82 hw)) Via.refl e_234 f_239 ?_
  intro T_242 X_242 e_242
  refine o_lconst X_242 K (1 : Int64) d23_31 32 rfl rfl ?_
  refine o_ladd X_242 K d23_32 33 rfl ?_
  refine o_putfield X_242 K (host := "") (ty := .long) d23_33 36 rfl (Or.inl (w_82 hw)) Via.refl e_242 f_239 f_237 (Or.inl (w_83 hw)) (w_45 hw) (by decide) rfl rfl N_234 g_a ?_
  intro T_243 h_243 locs_243 X_243 e_243 W_243 N_243
  have Z_243 : n0 ≤ h_243.size := by rw [Wr.size W_243]; exact Z_234
  have K_243 := K_234.wr W_243 (Or.inl (by simp))
  have f_244 := Sta.wr W_243 f_235
  have f_245 := f_236.other W_243 ne_de_a
  have f_246 := Exa.wr W_243 f_237
  have f_247 := Fld.other W_243 f_238 (Or.inr (slot_ne (Or.inr (w_76 hw)) (Or.inl (w_83 hw)) (by decide) (t := (.object "java/util/List")) (t' := .long) (by decide) (by decide)))
  have f_248 := Fld.same W_243 f_239
  have f_249 := Exa.wr W_243 p_234f0
  have f_250 := Exa.wr W_243 f_241
  have f_251 := Fld.other W_243 p_234f1 (Or.inl (Ne.symm ne_a_li))
  have f_252 := Fld.other W_243 p_234f2 (Or.inl (Ne.symm ne_a_li))
  have f_253 := Fld.other W_243 p_234f3 (Or.inl (Ne.symm ne_a_li))
  have f_254 := p_234f4.other W_243 (Ne.symm ne_a_nd)
  refine o_return X_243 K d23_36 (by decide) (by decide) N_243 ?_
  rw [e_243]
  exact ⟨nd, rfl, K_243, gg_234_nd, sz_nd, f_246, f_247, f_248, f_249, f_251, f_252, f_253, f_254⟩
theorem d30_0 : decode prog_22_method_2_code 0 = .ok (.aload_n 0, 1) := by decide +kernel
theorem d30_1 : decode prog_22_method_2_code 1 = .ok (.new 16, 3) := by decide +kernel
theorem d30_4 : decode prog_22_method_2_code 4 = .ok (.dup, 1) := by decide +kernel
theorem d30_5 : decode prog_22_method_2_code 5 = .ok (.aload_n 1, 1) := by decide +kernel
theorem d30_6 : decode prog_22_method_2_code 6 = .ok (.aload_n 2, 1) := by decide +kernel
theorem d30_7 : decode prog_22_method_2_code 7 = .ok (.aload_n 3, 1) := by decide +kernel
theorem d30_8 : decode prog_22_method_2_code 8 = .ok (.invokespecial 18, 3) := by decide +kernel
theorem pd__Ljava_lang_String_Ljava_lang_String_Ljava_lang_String__V : parseMethodDescriptor "(Ljava/lang/String;Ljava/lang/String;Ljava/lang/String;)V" = some ⟨[(.object "java/lang/String"), (.object "java/lang/String"), (.object "java/lang/String")], none⟩ := by decide +kernel
theorem d30_11 : decode prog_22_method_2_code 11 = .ok (.invokevirtual 21, 3) := by decide +kernel
theorem pd__Lcom_example_outlet_to_office_outlettooffice_server_Problem__V : parseMethodDescriptor "(Lcom/example/outlet_to_office/outlettooffice/server/Problem;)V" = some ⟨[(.object "com/example/outlet_to_office/outlettooffice/server/Problem")], none⟩ := by decide +kernel
theorem d30_14 : decode prog_22_method_2_code 14 = .ok (.return_, 1) := by decide +kernel
theorem pn_30 : plainFor (⟨"com/example/outlet_to_office/outlettooffice/server/Problems", "add", "(Ljava/lang/String;Ljava/lang/String;Ljava/lang/String;)V"⟩ : MethodName) = true := plainFor_of_name (by first | (simp [plainName, overriddenIn]; done) | decide +kernel)
set_option maxHeartbeats 4000000 in
theorem c_pa3A (l : Launch) (Z : State) (a0 : Array Value) (hw : OW Z a0) (n0 : Nat) (a li f t u de : Addr) (n : Int64) (h0 : Heap) (Z0 : n0 ≤ h0.size) (S_DEFAULTCAPACITY_EMPTY_ELEMENTDATA : Sta Z h0 "java/util/ArrayList" "DEFAULTCAPACITY_EMPTY_ELEMENTDATA" "[Ljava/lang/Object;" (.ref de)) (A_de : OAr Z h0 de (.object "java/lang/Object") 0 (fun _ => .null)) (E_a : Exa Z h0 a "com/example/outlet_to_office/outlettooffice/server/Problems") (F_a_listed : Fld Z h0 a "com/example/outlet_to_office/outlettooffice/server/Problems" "listed" "Ljava/util/List;" (.ref li)) (F_a_count : Fld Z h0 a "com/example/outlet_to_office/outlettooffice/server/Problems" "count" "J" (.long n)) (g_a : n0 ≤ a) (E_li : Exa Z h0 li "java/util/ArrayList") (F_li_modCount : Fld Z h0 li "java/util/AbstractList" "modCount" "I" (.int (0 : Int32))) (F_li_elementData : Fld Z h0 li "java/util/ArrayList" "elementData" "[Ljava/lang/Object;" (.ref de)) (F_li_size : Fld Z h0 li "java/util/ArrayList" "size" "I" (.int (0 : Int32))) (g_li : n0 ≤ li) (ne_a_li : a ≠ li) (ne_de_a : de ≠ a) (ne_de_li : de ≠ li) :
    OCon l Z n0 (⟨"com/example/outlet_to_office/outlettooffice/server/Problems", "add", "(Ljava/lang/String;Ljava/lang/String;Ljava/lang/String;)V"⟩ : MethodName) prog_22_method_2_code 4 none ({ frames := 6, cells := 2, slots := 14, locals := 90 } : Room) #[(.ref a), (.ref f), (.ref t), (.ref u)] h0 (fun v h => ∃ nd : Addr, v = none ∧ Keep h0 h [a, li] ∧ n0 ≤ nd ∧ h0.size ≤ nd ∧ Exa Z h a "com/example/outlet_to_office/outlettooffice/server/Problems" ∧ Fld Z h a "com/example/outlet_to_office/outlettooffice/server/Problems" "listed" "Ljava/util/List;" (.ref li) ∧ Fld Z h a "com/example/outlet_to_office/outlettooffice/server/Problems" "count" "J" (.long (n + (1 : Int64))) ∧ Exa Z h li "java/util/ArrayList" ∧ Fld Z h li "java/util/AbstractList" "modCount" "I" (.int ((0 : Int32) + (1 : Int32))) ∧ Fld Z h li "java/util/ArrayList" "elementData" "[Ljava/lang/Object;" (.ref nd) ∧ Fld Z h li "java/util/ArrayList" "size" "I" (.int ((0 : Int32) + (1 : Int32))) ∧ OAo Z h nd) := by
  refine OCon.of (Ls := #[.val (.ref a), .val (.ref f), .val (.ref t), .val (.ref u)]) pn_30 rfl rfl (fun m => by first | (simp [entryFrame, mkF, argsToLocals, Value.category]; done) | rfl) ?_
  intro p e s m below meth c T0 X0 K e0
  have N0 := Fr.nil n0
  have KK0 := Keep.refl h0 [a, li]
  refine o_aloadN X0 K d30_0 1 rfl rfl rfl ?_
  refine o_new X0 K d30_1 4 rfl (w_93 hw) (w_94 hw) (w_95 hw) e0 (by decide) (by decide) ?_
  intro T_255 h_255 x g_255 X_255 e_255 E_255 B_255 D_255
  have Z_255 : n0 ≤ h_255.size := Nat.le_trans Z0 E_255.1
  have K_255 := KK0.ext E_255
  have f_256 := Sta.ext E_255 S_DEFAULTCAPACITY_EMPTY_ELEMENTDATA
  have f_257 := A_de.ext E_255
  have f_258 := Exa.ext E_255 E_a
  have f_259 := Fld.ext E_255 F_a_listed
  have f_260 := Fld.ext E_255 F_a_count
  have f_261 := Exa.ext E_255 E_li
  have f_262 := Fld.ext E_255 F_li_modCount
  have f_263 := Fld.ext E_255 F_li_elementData
  have f_264 := Fld.ext E_255 F_li_size
  have g_x : n0 ≤ x := by rw [g_255]; exact Z0
  have ne_de_x : de ≠ x := by rw [g_255]; exact Nat.ne_of_lt A_de.lt
  have ne_a_x : a ≠ x := by rw [g_255]; exact Nat.ne_of_lt E_a.lt
  have ne_li_x : li ≠ x := by rw [g_255]; exact Nat.ne_of_lt E_li.lt
  have sz_x : h0.size ≤ x := by rw [g_255]; exact KK0.1
  have F_field__255 : Fld Z h_255 x "com/example/outlet_to_office/outlettooffice/server/Problem" "field" "Ljava/lang/String;" .null := D_255 (Or.inr (w_127 hw)) (ty := (.object "java/lang/String")) (by decide)
  have F_type__255 : Fld Z h_255 x "com/example/outlet_to_office/outlettooffice/server/Problem" "type" "Ljava/lang/String;" .null := D_255 (Or.inr (w_129 hw)) (ty := (.object "java/lang/String")) (by decide)
  have F_message__255 : Fld Z h_255 x "com/example/outlet_to_office/outlettooffice/server/Problem" "message" "Ljava/lang/String;" .null := D_255 (Or.inr (w_131 hw)) (ty := (.object "java/lang/String")) (by decide)
  have F_line__255 : Fld Z h_255 x "com/example/outlet_to_office/outlettooffice/server/Problem" "line" "Ljava/lang/Integer;" .null := D_255 (Or.inr (w_133 hw)) (ty := (.object "java/lang/Integer")) (by decide)
  refine o_dup X_255 K d30_4 5 rfl rfl ?_
  refine o_aloadN X_255 K d30_5 6 rfl rfl rfl ?_
  refine o_aloadN X_255 K d30_6 7 rfl rfl rfl ?_
  refine o_aloadN X_255 K d30_7 8 rfl rfl rfl ?_
  refine o_invokespecial X_255 K d30_8 11 rfl rfl (w_186 hw) (w_187 hw) (w_95 hw) (w_188 hw) (by decide) [(.ref f), (.ref t), (.ref u)] [(.ref x), (.ref a)] rfl  (c_pinit3 l Z a0 hw n0 x f t u h_255 Z_255 B_255 F_field__255 F_type__255 F_message__255 F_line__255 g_x) e_255 rfl (lenOf pd__Ljava_lang_String_Ljava_lang_String_Ljava_lang_String__V rfl) (by decide) 2 (Nat.le_of_eq rfl) (by decide) (by decide) (by decide) N0 ?_
  rintro _ T_265 h_265 locs_265 X_265 e_265 ⟨rfl, k_265, p_265f0⟩ N_265
  have Z_265 : n0 ≤ h_265.size := Nat.le_trans Z_255 k_265.1
  have K_265 := K_255.trans k_265 (allS (Or.inr sz_x) (all0))
  have f_266 := o_sta_keep f_256 k_265 (o_plainS B_255 (o_plain0))
  have f_267 := f_257.keep k_265 (ninS ne_de_x (nin0))
  have f_268 := Exa.keep f_258 k_265
  have f_269 := Fld.keep f_259 k_265 (ninS ne_a_x (nin0))
  have f_270 := Fld.keep f_260 k_265 (ninS ne_a_x (nin0))
  have f_271 := Exa.keep f_261 k_265
  have f_272 := Fld.keep f_262 k_265 (ninS ne_li_x (nin0))
  have f_273 := Fld.keep f_263 k_265 (ninS ne_li_x (nin0))
  have f_274 := Fld.keep f_264 k_265 (ninS ne_li_x (nin0))
  have f_275 := Exa.keep B_255 k_265
  show OGo p e below _ n0 _ (T_265.setTop (mkF m 11 #[.val (.ref a), .val (.ref f), .val (.ref t), .val (.ref u)] [(.ref x), (.ref a)]))
  refine o_invokeprivate X_265 K d30_11 14 rfl (w_134 hw) (w_135 hw) (w_136 hw) (w_46 hw) (w_137 hw) (by decide) ⟨2, (w_45 hw)⟩ f_268 [(.ref x)] [] rfl  (c_paddA l Z a0 hw n0 a li x de n h_265 Z_265 f_266 f_267 f_268 f_269 f_270 g_a f_271 f_272 f_273 f_274 g_li ne_a_li ne_de_a ne_de_li p_265f0) e_265 rfl (lenOf pd__Lcom_example_outlet_to_office_outlettooffice_server_Problem__V rfl) (by decide) 0 (Nat.le_of_eq rfl) (by decide) (by decide) (by decide) N_265 ?_
  rintro _ T_276 h_276 locs_276 X_276 e_276 ⟨nd, rfl, k_276, gg_276_nd, sz_276_nd, p_276f0, p_276f1, p_276f2, p_276f3, p_276f4, p_276f5, p_276f6, p_276f7⟩ N_276
  have Z_276 : n0 ≤ h_276.size := Nat.le_trans Z_265 k_276.1
  have K_276 := K_265.trans k_276 (allS (Or.inl (by simp)) (allS (Or.inl (by simp)) (all0)))
  have f_277 := o_sta_keep f_266 k_276 (o_plainS f_268 (o_plainS f_271 (o_plain0)))
  have f_278 := f_267.keep k_276 (ninS ne_de_a (ninS ne_de_li (nin0)))
  have f_279 := Exa.keep f_268 k_276
  have f_280 := Exa.keep f_271 k_276
  have f_281 := Exa.keep p_265f0 k_276
  have ne_de_nd : de ≠ nd := Nat.ne_of_lt (Nat.lt_of_lt_of_le f_267.lt sz_276_nd)
  have ne_a_nd : a ≠ nd := Nat.ne_of_lt (Nat.lt_of_lt_of_le f_268.lt sz_276_nd)
  have ne_li_nd : li ≠ nd := Nat.ne_of_lt (Nat.lt_of_lt_of_le f_271.lt sz_276_nd)
  have ne_x_nd : x ≠ nd := Nat.ne_of_lt (Nat.lt_of_lt_of_le p_265f0.lt sz_276_nd)
  have sz_nd : h0.size ≤ nd := Nat.le_trans K_265.1 sz_276_nd
  show OGo p e below _ n0 _ (T_276.setTop (mkF m 14 #[.val (.ref a), .val (.ref f), .val (.ref t), .val (.ref u)] []))
  refine o_return X_276 K d30_14 (by decide) (by decide) N_276 ?_
  rw [e_276]
  exact ⟨nd, rfl, K_276, gg_276_nd, sz_nd, p_276f0, p_276f1, p_276f2, p_276f3, p_276f4, p_276f5, p_276f6, p_276f7⟩
theorem d17_0 : decode prog_22_method_3_code 0 = .ok (.aload_n 0, 1) := by decide +kernel
theorem d17_1 : decode prog_22_method_3_code 1 = .ok (.new 16, 3) := by decide +kernel
theorem d17_4 : decode prog_22_method_3_code 4 = .ok (.dup, 1) := by decide +kernel
theorem d17_5 : decode prog_22_method_3_code 5 = .ok (.aload_n 1, 1) := by decide +kernel
theorem d17_6 : decode prog_22_method_3_code 6 = .ok (.aload_n 2, 1) := by decide +kernel
theorem d17_7 : decode prog_22_method_3_code 7 = .ok (.aload_n 3, 1) := by decide +kernel
theorem d17_8 : decode prog_22_method_3_code 8 = .ok (.iload 4, 2) := by decide +kernel
theorem d17_10 : decode prog_22_method_3_code 10 = .ok (.invokestatic 25, 3) := by decide +kernel
theorem pd__I_Ljava_lang_Integer_ : parseMethodDescriptor "(I)Ljava/lang/Integer;" = some ⟨[.int], some (.object "java/lang/Integer")⟩ := by decide +kernel
theorem d17_13 : decode prog_22_method_3_code 13 = .ok (.invokespecial 31, 3) := by decide +kernel
theorem d17_16 : decode prog_22_method_3_code 16 = .ok (.invokevirtual 21, 3) := by decide +kernel
theorem d17_19 : decode prog_22_method_3_code 19 = .ok (.return_, 1) := by decide +kernel
theorem pn_17 : plainFor (⟨"com/example/outlet_to_office/outlettooffice/server/Problems", "add", "(Ljava/lang/String;Ljava/lang/String;Ljava/lang/String;I)V"⟩ : MethodName) = true := plainFor_of_name (by first | (simp [plainName, overriddenIn]; done) | decide +kernel)
set_option maxHeartbeats 4000000 in
theorem c_pa4A (l : Launch) (Z : State) (a0 : Array Value) (hw : OW Z a0) (n0 : Nat) (a li f t u de ca : Addr) (n : Int64) (z : Int32) (cf : Nat → Value) (h0 : Heap) (Z0 : n0 ≤ h0.size) (S_DEFAULTCAPACITY_EMPTY_ELEMENTDATA : Sta Z h0 "java/util/ArrayList" "DEFAULTCAPACITY_EMPTY_ELEMENTDATA" "[Ljava/lang/Object;" (.ref de)) (A_de : OAr Z h0 de (.object "java/lang/Object") 0 (fun _ => .null)) (S_high : Sta Z h0 "java/lang/Integer$IntegerCache" "high" "I" (.int (127 : Int32))) (S_cache : Sta Z h0 "java/lang/Integer$IntegerCache" "cache" "[Ljava/lang/Integer;" (.ref ca)) (A_ca : OAr Z h0 ca (.object "java/lang/Integer") 256 cf) (E_a : Exa Z h0 a "com/example/outlet_to_office/outlettooffice/server/Problems") (F_a_listed : Fld Z h0 a "com/example/outlet_to_office/outlettooffice/server/Problems" "listed" "Ljava/util/List;" (.ref li)) (F_a_count : Fld Z h0 a "com/example/outlet_to_office/outlettooffice/server/Problems" "count" "J" (.long n)) (g_a : n0 ≤ a) (E_li : Exa Z h0 li "java/util/ArrayList") (F_li_modCount : Fld Z h0 li "java/util/AbstractList" "modCount" "I" (.int (0 : Int32))) (F_li_elementData : Fld Z h0 li "java/util/ArrayList" "elementData" "[Ljava/lang/Object;" (.ref de)) (F_li_size : Fld Z h0 li "java/util/ArrayList" "size" "I" (.int (0 : Int32))) (g_li : n0 ≤ li) (ne_a_li : a ≠ li) (ne_de_a : de ≠ a) (ne_de_li : de ≠ li) (ne_ca_a : ca ≠ a) (ne_ca_li : ca ≠ li) :
    OCon l Z n0 (⟨"com/example/outlet_to_office/outlettooffice/server/Problems", "add", "(Ljava/lang/String;Ljava/lang/String;Ljava/lang/String;I)V"⟩ : MethodName) prog_22_method_3_code 5 none ({ frames := 6, cells := 3, slots := 15, locals := 90 } : Room) #[(.ref a), (.ref f), (.ref t), (.ref u), (.int z)] h0 (fun v h => ∃ nd : Addr, v = none ∧ Keep h0 h [a, li] ∧ n0 ≤ nd ∧ h0.size ≤ nd ∧ Exa Z h a "com/example/outlet_to_office/outlettooffice/server/Problems" ∧ Fld Z h a "com/example/outlet_to_office/outlettooffice/server/Problems" "listed" "Ljava/util/List;" (.ref li) ∧ Fld Z h a "com/example/outlet_to_office/outlettooffice/server/Problems" "count" "J" (.long (n + (1 : Int64))) ∧ Exa Z h li "java/util/ArrayList" ∧ Fld Z h li "java/util/AbstractList" "modCount" "I" (.int ((0 : Int32) + (1 : Int32))) ∧ Fld Z h li "java/util/ArrayList" "elementData" "[Ljava/lang/Object;" (.ref nd) ∧ Fld Z h li "java/util/ArrayList" "size" "I" (.int ((0 : Int32) + (1 : Int32))) ∧ OAo Z h nd) := by
  refine OCon.of (Ls := #[.val (.ref a), .val (.ref f), .val (.ref t), .val (.ref u), .val (.int z)]) pn_17 rfl rfl (fun m => by first | (simp [entryFrame, mkF, argsToLocals, Value.category]; done) | rfl) ?_
  intro p e s m below meth c T0 X0 K e0
  have N0 := Fr.nil n0
  have KK0 := Keep.refl h0 [a, li]
  refine o_aloadN X0 K d17_0 1 rfl rfl rfl ?_
  refine o_new X0 K d17_1 4 rfl (w_93 hw) (w_94 hw) (w_95 hw) e0 (by decide) (by decide) ?_
  intro T_282 h_282 x g_282 X_282 e_282 E_282 B_282 D_282
  have Z_282 : n0 ≤ h_282.size := Nat.le_trans Z0 E_282.1
  have K_282 := KK0.ext E_282
  have f_283 := Sta.ext E_282 S_DEFAULTCAPACITY_EMPTY_ELEMENTDATA
  have f_284 := A_de.ext E_282
  have f_285 := Sta.ext E_282 S_high
  have f_286 := Sta.ext E_282 S_cache
  have f_287 := A_ca.ext E_282
  have f_288 := Exa.ext E_282 E_a
  have f_289 := Fld.ext E_282 F_a_listed
  have f_290 := Fld.ext E_282 F_a_count
  have f_291 := Exa.ext E_282 E_li
  have f_292 := Fld.ext E_282 F_li_modCount
  have f_293 := Fld.ext E_282 F_li_elementData
  have f_294 := Fld.ext E_282 F_li_size
  have g_x : n0 ≤ x := by rw [g_282]; exact Z0
  have ne_de_x : de ≠ x := by rw [g_282]; exact Nat.ne_of_lt A_de.lt
  have ne_ca_x : ca ≠ x := by rw [g_282]; exact Nat.ne_of_lt A_ca.lt
  have ne_a_x : a ≠ x := by rw [g_282]; exact Nat.ne_of_lt E_a.lt
  have ne_li_x : li ≠ x := by rw [g_282]; exact Nat.ne_of_lt E_li.lt
  have sz_x : h0.size ≤ x := by rw [g_282]; exact KK0.1
  have F_field__282 : Fld Z h_282 x "com/example/outlet_to_office/outlettooffice/server/Problem" "field" "Ljava/lang/String;" .null := D_282 (Or.inr (w_127 hw)) (ty := (.object "java/lang/String")) (by decide)
  have F_type__282 : Fld Z h_282 x "com/example/outlet_to_office/outlettooffice/server/Problem" "type" "Ljava/lang/String;" .null := D_282 (Or.inr (w_129 hw)) (ty := (.object "java/lang/String")) (by decide)
  have F_message__282 : Fld Z h_282 x "com/example/outlet_to_office/outlettooffice/server/Problem" "message" "Ljava/lang/String;" .null := D_282 (Or.inr (w_131 hw)) (ty := (.object "java/lang/String")) (by decide)
  have F_line__282 : Fld Z h_282 x "com/example/outlet_to_office/outlettooffice/server/Problem" "line" "Ljava/lang/Integer;" .null := D_282 (Or.inr (w_133 hw)) (ty := (.object "java/lang/Integer")) (by decide)
  refine o_dup X_282 K d17_4 5 rfl rfl ?_
  refine o_aloadN X_282 K d17_5 6 rfl rfl rfl ?_
  refine o_aloadN X_282 K d17_6 7 rfl rfl rfl ?_
  refine o_aloadN X_282 K d17_7 8 rfl rfl rfl ?_
  refine o_iload X_282 K d17_8 10 rfl rfl ?_
  refine o_invokestatic X_282 K d17_10 13 rfl (w_96 hw) (w_97 hw) (w_98 hw) (w_99 hw) (by decide) [(.int z)] [(.ref u), (.ref t), (.ref f), (.ref x), (.ref x), (.ref a)] rfl  (c_ival l Z a0 hw n0 z ca cf h_282 Z_282 f_285 f_286 f_287) e_282 rfl (lenOf pd__I_Ljava_lang_Integer_ rfl) (by decide) 6 (Nat.le_of_eq rfl) (by decide) (by decide) (by decide) N0 ?_
  rintro _ T_295 h_295 locs_295 X_295 e_295 ⟨rv_295, rfl, hr_295, k_295⟩ N_295
  have Z_295 : n0 ≤ h_295.size := Nat.le_trans Z_282 k_295.1
  have K_295 := K_282.trans k_295 (all0)
  have f_296 := o_sta_keep f_283 k_295 (o_plain0)
  have f_297 := f_284.keep k_295 (nin0)
  have f_298 := o_sta_keep f_285 k_295 (o_plain0)
  have f_299 := o_sta_keep f_286 k_295 (o_plain0)
  have f_300 := f_287.keep k_295 (nin0)
  have f_301 := Exa.keep f_288 k_295
  have f_302 := Fld.keep f_289 k_295 (nin0)
  have f_303 := Fld.keep f_290 k_295 (nin0)
  have f_304 := Exa.keep f_291 k_295
  have f_305 := Fld.keep f_292 k_295 (nin0)
  have f_306 := Fld.keep f_293 k_295 (nin0)
  have f_307 := Fld.keep f_294 k_295 (nin0)
  have f_308 := Exa.keep B_282 k_295
  have f_309 := Fld.keep F_field__282 k_295 (nin0)
  have f_310 := Fld.keep F_type__282 k_295 (nin0)
  have f_311 := Fld.keep F_message__282 k_295 (nin0)
  have f_312 := Fld.keep F_line__282 k_295 (nin0)
  show OGo p e below _ n0 _ (T_295.setTop (mkF m 13 #[.val (.ref a), .val (.ref f), .val (.ref t), .val (.ref u), .val (.int z)] [rv_295, (.ref u), (.ref t), (.ref f), (.ref x), (.ref x), (.ref a)]))
  rcases hr_295 with rfl | ⟨qv, rfl⟩
  · skip
    refine o_invokespecial X_295 K d17_13 16 rfl rfl (w_117 hw) (w_118 hw) (w_95 hw) (w_119 hw) (by decide) [(.ref f), (.ref t), (.ref u), .null] [(.ref x), (.ref a)] rfl  (c_pinit0 l Z a0 hw n0 x f t u h_295 Z_295 f_308 f_309 f_310 f_311 f_312 g_x) e_295 rfl (lenOf pd__Ljava_lang_String_Ljava_lang_String_Ljava_lang_String_Ljava_lang_Integer__V rfl) (by decide) 2 (Nat.le_of_eq rfl) (by decide) (by decide) (by decide) N_295 ?_
    rintro _ T_313 h_313 locs_313 X_313 e_313 ⟨rfl, k_313, p_313f0⟩ N_313
    have Z_313 : n0 ≤ h_313.size := Nat.le_trans Z_295 k_313.1
    have K_313 := K_295.trans k_313 (allS (Or.inr sz_x) (all0))
    have f_314 := o_sta_keep f_296 k_313 (o_plainS f_308 (o_plain0))
    have f_315 := f_297.keep k_313 (ninS ne_de_x (nin0))
    have f_316 := o_sta_keep f_298 k_313 (o_plainS f_308 (o_plain0))
    have f_317 := o_sta_keep f_299 k_313 (o_plainS f_308 (o_plain0))
    have f_318 := f_300.keep k_313 (ninS ne_ca_x (nin0))
    have f_319 := Exa.keep f_301 k_313
    have f_320 := Fld.keep f_302 k_313 (ninS ne_a_x (nin0))
    have f_321 := Fld.keep f_303 k_313 (ninS ne_a_x (nin0))
    have f_322 := Exa.keep f_304 k_313
    have f_323 := Fld.keep f_305 k_313 (ninS ne_li_x (nin0))
    have f_324 := Fld.keep f_306 k_313 (ninS ne_li_x (nin0))
    have f_325 := Fld.keep f_307 k_313 (ninS ne_li_x (nin0))
    have f_326 := Exa.keep f_308 k_313
    show OGo p e below _ n0 _ (T_313.setTop (mkF m 16 #[.val (.ref a), .val (.ref f), .val (.ref t), .val (.ref u), .val (.int z)] [(.ref x), (.ref a)]))
    refine o_invokeprivate X_313 K d17_16 19 rfl (w_134 hw) (w_135 hw) (w_136 hw) (w_46 hw) (w_137 hw) (by decide) ⟨2, (w_45 hw)⟩ f_319 [(.ref x)] [] rfl  (c_paddA l Z a0 hw n0 a li x de n h_313 Z_313 f_314 f_315 f_319 f_320 f_321 g_a f_322 f_323 f_324 f_325 g_li ne_a_li ne_de_a ne_de_li p_313f0) e_313 rfl (lenOf pd__Lcom_example_outlet_to_office_outlettooffice_server_Problem__V rfl) (by decide) 0 (Nat.le_of_eq rfl) (by decide) (by decide) (by decide) N_313 ?_
    rintro _ T_327 h_327 locs_327 X_327 e_327 ⟨nd, rfl, k_327, gg_327_nd, sz_327_nd, p_327f0, p_327f1, p_327f2, p_327f3, p_327f4, p_327f5, p_327f6, p_327f7⟩ N_327
    have Z_327 : n0 ≤ h_327.size := Nat.le_trans Z_313 k_327.1
    have K_327 := K_313.trans k_327 (allS (Or.inl (by simp)) (allS (Or.inl (by simp)) (all0)))
    have f_328 := o_sta_keep f_314 k_327 (o_plainS f_319 (o_plainS f_322 (o_plain0)))
    have f_329 := f_315.keep k_327 (ninS ne_de_a (ninS ne_de_li (nin0)))
    have f_330 := o_sta_keep f_316 k_327 (o_plainS f_319 (o_plainS f_322 (o_plain0)))
    have f_331 := o_sta_keep f_317 k_327 (o_plainS f_319 (o_plainS f_322 (o_plain0)))
    have f_332 := f_318.keep k_327 (ninS ne_ca_a (ninS ne_ca_li (nin0)))
    have f_333 := Exa.keep f_319 k_327
    have f_334 := Exa.keep f_322 k_327
    have f_335 := Exa.keep p_313f0 k_327
    have ne_de_nd : de ≠ nd := Nat.ne_of_lt (Nat.lt_of_lt_of_le f_315.lt sz_327_nd)
    have ne_ca_nd : ca ≠ nd := Nat.ne_of_lt (Nat.lt_of_lt_of_le f_318.lt sz_327_nd)
    have ne_a_nd : a ≠ nd := Nat.ne_of_lt (Nat.lt_of_lt_of_le f_319.lt sz_327_nd)
    have ne_li_nd : li ≠ nd := Nat.ne_of_lt (Nat.lt_of_lt_of_le f_322.lt sz_327_nd)
    have ne_x_nd : x ≠ nd := Nat.ne_of_lt (Nat.lt_of_lt_of_le p_313f0.lt sz_327_nd)
    have sz_nd : h0.size ≤ nd := Nat.le_trans K_313.1 sz_327_nd
    show OGo p e below _ n0 _ (T_327.setTop (mkF m 19 #[.val (.ref a), .val (.ref f), .val (.ref t), .val (.ref u), .val (.int z)] []))
    refine o_return X_327 K d17_19 (by decide) (by decide) N_327 ?_
    rw [e_327]
    exact ⟨nd, rfl, K_327, gg_327_nd, sz_nd, p_327f0, p_327f1, p_327f2, p_327f3, p_327f4, p_327f5, p_327f6, p_327f7⟩
  · skip
    refine o_invokespecial X_295 K d17_13 16 rfl rfl (w_117 hw) (w_118 hw) (w_95 hw) (w_119 hw) (by decide) [(.ref f), (.ref t), (.ref u), (.ref qv)] [(.ref x), (.ref a)] rfl  (c_pinit1 l Z a0 hw n0 x f t u qv h_295 Z_295 f_308 f_309 f_310 f_311 f_312 g_x) e_295 rfl (lenOf pd__Ljava_lang_String_Ljava_lang_String_Ljava_lang_String_Ljava_lang_Integer__V rfl) (by decide) 2 (Nat.le_of_eq rfl) (by decide) (by decide) (by decide) N_295 ?_
    rintro _ T_336 h_336 locs_336 X_336 e_336 ⟨rfl, k_336, p_336f0⟩ N_336
    have Z_336 : n0 ≤ h_336.size := Nat.le_trans Z_295 k_336.1
    have K_336 := K_295.trans k_336 (allS (Or.inr sz_x) (all0))
    have f_337 := o_sta_keep f_296 k_336 (o_plainS f_308 (o_plain0))
    have f_338 := f_297.keep k_336 (ninS ne_de_x (nin0))
    have f_339 := o_sta_keep f_298 k_336 (o_plainS f_308 (o_plain0))
    have f_340 := o_sta_keep f_299 k_336 (o_plainS f_308 (o_plain0))
    have f_341 := f_300.keep k_336 (ninS ne_ca_x (nin0))
    have f_342 := Exa.keep f_301 k_336
    have f_343 := Fld.keep f_302 k_336 (ninS ne_a_x (nin0))
    have f_344 := Fld.keep f_303 k_336 (ninS ne_a_x (nin0))
    have f_345 := Exa.keep f_304 k_336
    have f_346 := Fld.keep f_305 k_336 (ninS ne_li_x (nin0))
    have f_347 := Fld.keep f_306 k_336 (ninS ne_li_x (nin0))
    have f_348 := Fld.keep f_307 k_336 (ninS ne_li_x (nin0))
    have f_349 := Exa.keep f_308 k_336
    show OGo p e below _ n0 _ (T_336.setTop (mkF m 16 #[.val (.ref a), .val (.ref f), .val (.ref t), .val (.ref u), .val (.int z)] [(.ref x), (.ref a)]))
    refine o_invokeprivate X_336 K d17_16 19 rfl (w_134 hw) (w_135 hw) (w_136 hw) (w_46 hw) (w_137 hw) (by decide) ⟨2, (w_45 hw)⟩ f_342 [(.ref x)] [] rfl  (c_paddA l Z a0 hw n0 a li x de n h_336 Z_336 f_337 f_338 f_342 f_343 f_344 g_a f_345 f_346 f_347 f_348 g_li ne_a_li ne_de_a ne_de_li p_336f0) e_336 rfl (lenOf pd__Lcom_example_outlet_to_office_outlettooffice_server_Problem__V rfl) (by decide) 0 (Nat.le_of_eq rfl) (by decide) (by decide) (by decide) N_336 ?_
    rintro _ T_350 h_350 locs_350 X_350 e_350 ⟨nd, rfl, k_350, gg_350_nd, sz_350_nd, p_350f0, p_350f1, p_350f2, p_350f3, p_350f4, p_350f5, p_350f6, p_350f7⟩ N_350
    have Z_350 : n0 ≤ h_350.size := Nat.le_trans Z_336 k_350.1
    have K_350 := K_336.trans k_350 (allS (Or.inl (by simp)) (allS (Or.inl (by simp)) (all0)))
    have f_351 := o_sta_keep f_337 k_350 (o_plainS f_342 (o_plainS f_345 (o_plain0)))
    have f_352 := f_338.keep k_350 (ninS ne_de_a (ninS ne_de_li (nin0)))
    have f_353 := o_sta_keep f_339 k_350 (o_plainS f_342 (o_plainS f_345 (o_plain0)))
    have f_354 := o_sta_keep f_340 k_350 (o_plainS f_342 (o_plainS f_345 (o_plain0)))
    have f_355 := f_341.keep k_350 (ninS ne_ca_a (ninS ne_ca_li (nin0)))
    have f_356 := Exa.keep f_342 k_350
    have f_357 := Exa.keep f_345 k_350
    have f_358 := Exa.keep p_336f0 k_350
    have ne_de_nd : de ≠ nd := Nat.ne_of_lt (Nat.lt_of_lt_of_le f_338.lt sz_350_nd)
    have ne_ca_nd : ca ≠ nd := Nat.ne_of_lt (Nat.lt_of_lt_of_le f_341.lt sz_350_nd)
    have ne_a_nd : a ≠ nd := Nat.ne_of_lt (Nat.lt_of_lt_of_le f_342.lt sz_350_nd)
    have ne_li_nd : li ≠ nd := Nat.ne_of_lt (Nat.lt_of_lt_of_le f_345.lt sz_350_nd)
    have ne_x_nd : x ≠ nd := Nat.ne_of_lt (Nat.lt_of_lt_of_le p_336f0.lt sz_350_nd)
    have sz_nd : h0.size ≤ nd := Nat.le_trans K_336.1 sz_350_nd
    show OGo p e below _ n0 _ (T_350.setTop (mkF m 19 #[.val (.ref a), .val (.ref f), .val (.ref t), .val (.ref u), .val (.int z)] []))
    refine o_return X_350 K d17_19 (by decide) (by decide) N_350 ?_
    rw [e_350]
    exact ⟨nd, rfl, K_350, gg_350_nd, sz_nd, p_350f0, p_350f1, p_350f2, p_350f3, p_350f4, p_350f5, p_350f6, p_350f7⟩
theorem d16_0 : decode method_3_code 0 = .ok (.iload_n 1, 1) := by decide +kernel
theorem d16_1 : decode method_3_code 1 = .ok (.ifCond .ne 14, 3) := by decide +kernel
theorem d16_15 : decode method_3_code 15 = .ok (.aload_n 0, 1) := by decide +kernel
theorem d16_16 : decode method_3_code 16 = .ok (.aload_n 2, 1) := by decide +kernel
theorem d16_17 : decode method_3_code 17 = .ok (.aload_n 3, 1) := by decide +kernel
theorem d16_18 : decode method_3_code 18 = .ok (.aload 4, 2) := by decide +kernel
theorem d16_20 : decode method_3_code 20 = .ok (.iload 5, 2) := by decide +kernel
theorem d16_22 : decode method_3_code 22 = .ok (.invokevirtual 32, 3) := by decide +kernel
theorem pd__Ljava_lang_String_Ljava_lang_String_Ljava_lang_String_I_V : parseMethodDescriptor "(Ljava/lang/String;Ljava/lang/String;Ljava/lang/String;I)V" = some ⟨[(.object "java/lang/String"), (.object "java/lang/String"), (.object "java/lang/String"), .int], none⟩ := by decide +kernel
theorem d16_25 : decode method_3_code 25 = .ok (.return_, 1) := by decide +kernel
theorem d16_4 : decode method_3_code 4 = .ok (.aload_n 0, 1) := by decide +kernel
theorem d16_5 : decode method_3_code 5 = .ok (.aload_n 2, 1) := by decide +kernel
theorem d16_6 : decode method_3_code 6 = .ok (.aload_n 3, 1) := by decide +kernel
theorem d16_7 : decode method_3_code 7 = .ok (.aload 4, 2) := by decide +kernel
theorem d16_9 : decode method_3_code 9 = .ok (.invokevirtual 29, 3) := by decide +kernel
theorem d16_12 : decode method_3_code 12 = .ok (.goto 13, 3) := by decide +kernel
theorem pn_16 : plainFor (⟨"com/example/outlet_to_office/outlettooffice/server/ProblemsIsEmptyPinLaw", "add", "(Lcom/example/outlet_to_office/outlettooffice/server/Problems;ILjava/lang/String;Ljava/lang/String;Ljava/lang/String;I)V"⟩ : MethodName) = true := plainFor_of_name (by first | (simp [plainName, overriddenIn]; done) | decide +kernel)
set_option maxHeartbeats 4000000 in
theorem c_laddA (l : Launch) (Z : State) (a0 : Array Value) (hw : OW Z a0) (n0 : Nat) (a li f t u de ca : Addr) (n : Int64) (z kk : Int32) (cf : Nat → Value) (h0 : Heap) (Z0 : n0 ≤ h0.size) (S_DEFAULTCAPACITY_EMPTY_ELEMENTDATA : Sta Z h0 "java/util/ArrayList" "DEFAULTCAPACITY_EMPTY_ELEMENTDATA" "[Ljava/lang/Object;" (.ref de)) (A_de : OAr Z h0 de (.object "java/lang/Object") 0 (fun _ => .null)) (S_high : Sta Z h0 "java/lang/Integer$IntegerCache" "high" "I" (.int (127 : Int32))) (S_cache : Sta Z h0 "java/lang/Integer$IntegerCache" "cache" "[Ljava/lang/Integer;" (.ref ca)) (A_ca : OAr Z h0 ca (.object "java/lang/Integer") 256 cf) (E_a : Exa Z h0 a "com/example/outlet_to_office/outlettooffice/server/Problems") (F_a_listed : Fld Z h0 a "com/example/outlet_to_office/outlettooffice/server/Problems" "listed" "Ljava/util/List;" (.ref li)) (F_a_count : Fld Z h0 a "com/example/outlet_to_office/outlettooffice/server/Problems" "count" "J" (.long n)) (g_a : n0 ≤ a) (E_li : Exa Z h0 li "java/util/ArrayList") (F_li_modCount : Fld Z h0 li "java/util/AbstractList" "modCount" "I" (.int (0 : Int32))) (F_li_elementData : Fld Z h0 li "java/util/ArrayList" "elementData" "[Ljava/lang/Object;" (.ref de)) (F_li_size : Fld Z h0 li "java/util/ArrayList" "size" "I" (.int (0 : Int32))) (g_li : n0 ≤ li) (ne_a_li : a ≠ li) (ne_de_a : de ≠ a) (ne_de_li : de ≠ li) (ne_ca_a : ca ≠ a) (ne_ca_li : ca ≠ li) :
    OCon l Z n0 (⟨"com/example/outlet_to_office/outlettooffice/server/ProblemsIsEmptyPinLaw", "add", "(Lcom/example/outlet_to_office/outlettooffice/server/Problems;ILjava/lang/String;Ljava/lang/String;Ljava/lang/String;I)V"⟩ : MethodName) method_3_code 6 none ({ frames := 7, cells := 3, slots := 15, locals := 110 } : Room) #[(.ref a), (.int kk), (.ref f), (.ref t), (.ref u), (.int z)] h0 (fun v h => ∃ nd : Addr, v = none ∧ Keep h0 h [a, li] ∧ n0 ≤ nd ∧ h0.size ≤ nd ∧ Exa Z h a "com/example/outlet_to_office/outlettooffice/server/Problems" ∧ Fld Z h a "com/example/outlet_to_office/outlettooffice/server/Problems" "listed" "Ljava/util/List;" (.ref li) ∧ Fld Z h a "com/example/outlet_to_office/outlettooffice/server/Problems" "count" "J" (.long (n + (1 : Int64))) ∧ Exa Z h li "java/util/ArrayList" ∧ Fld Z h li "java/util/AbstractList" "modCount" "I" (.int ((0 : Int32) + (1 : Int32))) ∧ Fld Z h li "java/util/ArrayList" "elementData" "[Ljava/lang/Object;" (.ref nd) ∧ Fld Z h li "java/util/ArrayList" "size" "I" (.int ((0 : Int32) + (1 : Int32))) ∧ OAo Z h nd) := by
  refine OCon.of (Ls := #[.val (.ref a), .val (.int kk), .val (.ref f), .val (.ref t), .val (.ref u), .val (.int z)]) pn_16 rfl rfl (fun m => by first | (simp [entryFrame, mkF, argsToLocals, Value.category]; done) | rfl) ?_
  intro p e s m below meth c T0 X0 K e0
  have N0 := Fr.nil n0
  have KK0 := Keep.refl h0 [a, li]
  refine o_iloadN X0 K d16_0 1 rfl rfl ?_
  refine o_if_ne X0 K d16_1 15 (by decide) (by decide) 4 rfl (fun hc1 => ?_) (fun hc1 => ?_)
  · refine o_aloadN X0 K d16_15 16 rfl rfl rfl ?_
    refine o_aloadN X0 K d16_16 17 rfl rfl rfl ?_
    refine o_aloadN X0 K d16_17 18 rfl rfl rfl ?_
    refine o_aload X0 K d16_18 20 rfl rfl rfl ?_
    refine o_iload X0 K d16_20 22 rfl rfl ?_
    refine o_invokevirtual X0 K d16_22 25 rfl (w_88 hw) (w_89 hw) (w_91 hw) (w_90 hw) (w_46 hw) (w_92 hw) (by decide) E_a [(.ref f), (.ref t), (.ref u), (.int z)] [] rfl  (c_pa4A l Z a0 hw n0 a li f t u de ca n z cf h0 Z0 S_DEFAULTCAPACITY_EMPTY_ELEMENTDATA A_de S_high S_cache A_ca E_a F_a_listed F_a_count g_a E_li F_li_modCount F_li_elementData F_li_size g_li ne_a_li ne_de_a ne_de_li ne_ca_a ne_ca_li) e0 rfl (lenOf pd__Ljava_lang_String_Ljava_lang_String_Ljava_lang_String_I_V rfl) (by decide) 0 (Nat.le_of_eq rfl) (by decide) (by decide) (by decide) N0 ?_
    rintro _ T_359 h_359 locs_359 X_359 e_359 ⟨nd, rfl, k_359, gg_359_nd, sz_359_nd, p_359f0, p_359f1, p_359f2, p_359f3, p_359f4, p_359f5, p_359f6, p_359f7⟩ N_359
    have Z_359 : n0 ≤ h_359.size := Nat.le_trans Z0 k_359.1
    have K_359 := KK0.trans k_359 (allS (Or.inl (by simp)) (allS (Or.inl (by simp)) (all0)))
    have f_360 := o_sta_keep S_DEFAULTCAPACITY_EMPTY_ELEMENTDATA k_359 (o_plainS E_a (o_plainS E_li (o_plain0)))
    have f_361 := A_de.keep k_359 (ninS ne_de_a (ninS ne_de_li (nin0)))
    have f_362 := o_sta_keep S_high k_359 (o_plainS E_a (o_plainS E_li (o_plain0)))
    have f_363 := o_sta_keep S_cache k_359 (o_plainS E_a (o_plainS E_li (o_plain0)))
    have f_364 := A_ca.keep k_359 (ninS ne_ca_a (ninS ne_ca_li (nin0)))
    have f_365 := Exa.keep E_a k_359
    have f_366 := Exa.keep E_li k_359
    have ne_de_nd : de ≠ nd := Nat.ne_of_lt (Nat.lt_of_lt_of_le A_de.lt sz_359_nd)
    have ne_ca_nd : ca ≠ nd := Nat.ne_of_lt (Nat.lt_of_lt_of_le A_ca.lt sz_359_nd)
    have ne_a_nd : a ≠ nd := Nat.ne_of_lt (Nat.lt_of_lt_of_le E_a.lt sz_359_nd)
    have ne_li_nd : li ≠ nd := Nat.ne_of_lt (Nat.lt_of_lt_of_le E_li.lt sz_359_nd)
    have sz_nd : h0.size ≤ nd := Nat.le_trans KK0.1 sz_359_nd
    show OGo p e below _ n0 _ (T_359.setTop (mkF m 25 #[.val (.ref a), .val (.int kk), .val (.ref f), .val (.ref t), .val (.ref u), .val (.int z)] []))
    refine o_return X_359 K d16_25 (by decide) (by decide) N_359 ?_
    rw [e_359]
    exact ⟨nd, rfl, K_359, gg_359_nd, sz_nd, p_359f0, p_359f1, p_359f2, p_359f3, p_359f4, p_359f5, p_359f6, p_359f7⟩
  · refine o_aloadN X0 K d16_4 5 rfl rfl rfl ?_
    refine o_aloadN X0 K d16_5 6 rfl rfl rfl ?_
    refine o_aloadN X0 K d16_6 7 rfl rfl rfl ?_
    refine o_aload X0 K d16_7 9 rfl rfl rfl ?_
    refine o_invokevirtual X0 K d16_9 12 rfl (w_181 hw) (w_182 hw) (w_184 hw) (w_183 hw) (w_46 hw) (w_185 hw) (by decide) E_a [(.ref f), (.ref t), (.ref u)] [] rfl  (c_pa3A l Z a0 hw n0 a li f t u de n h0 Z0 S_DEFAULTCAPACITY_EMPTY_ELEMENTDATA A_de E_a F_a_listed F_a_count g_a E_li F_li_modCount F_li_elementData F_li_size g_li ne_a_li ne_de_a ne_de_li) e0 rfl (lenOf pd__Ljava_lang_String_Ljava_lang_String_Ljava_lang_String__V rfl) (by decide) 0 (Nat.le_of_eq rfl) (by decide) (by decide) (by decide) N0 ?_
    rintro _ T_367 h_367 locs_367 X_367 e_367 ⟨nd, rfl, k_367, gg_367_nd, sz_367_nd, p_367f0, p_367f1, p_367f2, p_367f3, p_367f4, p_367f5, p_367f6, p_367f7⟩ N_367
    have Z_367 : n0 ≤ h_367.size := Nat.le_trans Z0 k_367.1
    have K_367 := KK0.trans k_367 (allS (Or.inl (by simp)) (allS (Or.inl (by simp)) (all0)))
    have f_368 := o_sta_keep S_DEFAULTCAPACITY_EMPTY_ELEMENTDATA k_367 (o_plainS E_a (o_plainS E_li (o_plain0)))
    have f_369 := A_de.keep k_367 (ninS ne_de_a (ninS ne_de_li (nin0)))
    have f_370 := o_sta_keep S_high k_367 (o_plainS E_a (o_plainS E_li (o_plain0)))
    have f_371 := o_sta_keep S_cache k_367 (o_plainS E_a (o_plainS E_li (o_plain0)))
    have f_372 := A_ca.keep k_367 (ninS ne_ca_a (ninS ne_ca_li (nin0)))
    have f_373 := Exa.keep E_a k_367
    have f_374 := Exa.keep E_li k_367
    have ne_de_nd : de ≠ nd := Nat.ne_of_lt (Nat.lt_of_lt_of_le A_de.lt sz_367_nd)
    have ne_ca_nd : ca ≠ nd := Nat.ne_of_lt (Nat.lt_of_lt_of_le A_ca.lt sz_367_nd)
    have ne_a_nd : a ≠ nd := Nat.ne_of_lt (Nat.lt_of_lt_of_le E_a.lt sz_367_nd)
    have ne_li_nd : li ≠ nd := Nat.ne_of_lt (Nat.lt_of_lt_of_le E_li.lt sz_367_nd)
    have sz_nd : h0.size ≤ nd := Nat.le_trans KK0.1 sz_367_nd
    show OGo p e below _ n0 _ (T_367.setTop (mkF m 12 #[.val (.ref a), .val (.int kk), .val (.ref f), .val (.ref t), .val (.ref u), .val (.int z)] []))
    refine o_goto X_367 K d16_12 25 (by decide) (by decide) ?_
    refine o_return X_367 K d16_25 (by decide) (by decide) N_367 ?_
    rw [e_367]
    exact ⟨nd, rfl, K_367, gg_367_nd, sz_nd, p_367f0, p_367f1, p_367f2, p_367f3, p_367f4, p_367f5, p_367f6, p_367f7⟩
set_option maxHeartbeats 4000000 in
theorem c_paddB (l : Launch) (Z : State) (a0 : Array Value) (hw : OW Z a0) (n0 : Nat) (a li x nd : Addr) (n : Int64) (sz mc : Int32) (h0 : Heap) (Z0 : n0 ≤ h0.size) (E_a : Exa Z h0 a "com/example/outlet_to_office/outlettooffice/server/Problems") (F_a_listed : Fld Z h0 a "com/example/outlet_to_office/outlettooffice/server/Problems" "listed" "Ljava/util/List;" (.ref li)) (F_a_count : Fld Z h0 a "com/example/outlet_to_office/outlettooffice/server/Problems" "count" "J" (.long n)) (g_a : n0 ≤ a) (E_li : Exa Z h0 li "java/util/ArrayList") (F_li_modCount : Fld Z h0 li "java/util/AbstractList" "modCount" "I" (.int mc)) (F_li_elementData : Fld Z h0 li "java/util/ArrayList" "elementData" "[Ljava/lang/Object;" (.ref nd)) (F_li_size : Fld Z h0 li "java/util/ArrayList" "size" "I" (.int sz)) (g_li : n0 ≤ li) (ne_a_li : a ≠ li) (A_nd : OAo Z h0 nd) (g_nd : n0 ≤ nd) (ne_nd_a : nd ≠ a) (ne_nd_li : nd ≠ li) (hsz : 0 ≤ sz.toInt ∧ sz.toInt < 10) (E_x : Exa Z h0 x "com/example/outlet_to_office/outlettooffice/server/Problem") :
    OCon l Z n0 (⟨"com/example/outlet_to_office/outlettooffice/server/Problems", "add", "(Lcom/example/outlet_to_office/outlettooffice/server/Problem;)V"⟩ : MethodName) prog_22_method_4_code 2 none ({ frames := 2, cells := 0, slots := 0, locals := 30 } : Room) #[(.ref a), (.ref x)] h0 (fun v h => v = none ∧ Keep h0 h [a, li, nd] ∧ Exa Z h a "com/example/outlet_to_office/outlettooffice/server/Problems" ∧ Fld Z h a "com/example/outlet_to_office/outlettooffice/server/Problems" "listed" "Ljava/util/List;" (.ref li) ∧ Fld Z h a "com/example/outlet_to_office/outlettooffice/server/Problems" "count" "J" (.long (n + (1 : Int64))) ∧ Exa Z h li "java/util/ArrayList" ∧ Fld Z h li "java/util/AbstractList" "modCount" "I" (.int (mc + (1 : Int32))) ∧ Fld Z h li "java/util/ArrayList" "elementData" "[Ljava/lang/Object;" (.ref nd) ∧ Fld Z h li "java/util/ArrayList" "size" "I" (.int (sz + (1 : Int32))) ∧ OAo Z h nd) := by
  refine OCon.of (Ls := #[.val (.ref a), .val (.ref x)]) pn_23 rfl rfl (fun m => by first | (simp [entryFrame, mkF, argsToLocals, Value.category]; done) | rfl) ?_
  intro p e s m below meth c T0 X0 K e0
  have N0 := Fr.nil n0
  have KK0 := Keep.refl h0 [a, li, nd]
  refine o_aloadN X0 K d23_0 1 rfl rfl rfl ?_
  refine o_getfield X0 K (host := "") d23_1 4 rfl (Or.inl (w_75 hw)) Via.refl e0 F_a_listed ?_
  intro T_375 X_375 e_375
  refine o_invokeinterface X_375 K d23_4 9 rfl (w_138 hw) (w_139 hw) (w_140 hw) (w_141 hw) (w_142 hw) (w_143 hw) (w_144 hw) (w_145 hw) (w_53 hw) (w_146 hw) (by decide) E_li [] [] rfl  (c_size l Z a0 hw n0 li sz h0 Z0 F_li_size) e_375 rfl (lenOf pd___I rfl) (by decide) 0 (Nat.le_of_eq rfl) (by decide) (by decide) (by decide) N0 ?_
  rintro _ T_376 h_376 locs_376 X_376 q_376 ⟨rfl, r_376⟩ N_376
  have e_376 := q_376.trans r_376
  show OGo p e below _ n0 _ (T_376.setTop (mkF m 9 #[.val (.ref a), .val (.ref x)] [(.int sz)]))
  refine o_sipush X_376 K (1000 : Int32) d23_9 12 rfl rfl ?_
  refine o_icmp_ge_f X_376 K d23_12 15 rfl (by have q_ : (1000 : Int32).toInt = 1000 := rfl; omega) ?_
  refine o_aloadN X_376 K d23_15 16 rfl rfl rfl ?_
  refine o_getfield X_376 K (host := "") d23_16 19 rfl (Or.inl (w_75 hw)) Via.refl e_376 F_a_listed ?_
  intro T_377 X_377 e_377
  refine o_aloadN X_377 K d23_19 20 rfl rfl rfl ?_
  refine o_invokeinterface X_377 K d23_20 25 rfl (w_149 hw) (w_150 hw) (w_151 hw) (w_152 hw) (w_153 hw) (w_154 hw) (w_155 hw) (w_145 hw) (w_53 hw) (w_156 hw) (by decide) E_li [(.ref x)] [] rfl  (c_addB l Z a0 hw n0 li x nd sz mc h0 Z0 E_li F_li_modCount F_li_elementData F_li_size g_li A_nd g_nd ne_nd_li E_x (hsz)) e_377 rfl (lenOf pd__Ljava_lang_Object__Z rfl) (by decide) 0 (Nat.le_of_eq rfl) (by decide) (by decide) (by decide) N_376 ?_
  rintro _ T_378 h_378 locs_378 X_378 e_378 ⟨rfl, k_378, p_378f0, p_378f1, p_378f2, p_378f3, p_378f4⟩ N_378
  have Z_378 : n0 ≤ h_378.size := Nat.le_trans Z0 k_378.1
  have K_378 := KK0.trans k_378 (allS (Or.inl (by simp)) (allS (Or.inl (by simp)) (all0)))
  have f_379 := Exa.keep E_a k_378
  have f_380 := Fld.keep F_a_listed k_378 (ninS ne_a_li (ninS (Ne.symm ne_nd_a) (nin0)))
  have f_381 := Fld.keep F_a_count k_378 (ninS ne_a_li (ninS (Ne.symm ne_nd_a) (nin0)))
  have f_382 := Exa.keep E_li k_378
  have f_383 := Exa.keep E_x k_378
  show OGo p e below _ n0 _ (T_378.setTop (mkF m 25 #[.val (.ref a), .val (.ref x)] [(.int (1 : Int32))]))
  refine o_pop X_378 K d23_25 26 rfl rfl ?_
  refine o_aloadN X_378 K d23_26 27 rfl rfl rfl ?_
  refine o_dup X_378 K d23_27 28 rfl rfl ?_
  refine o_getfield X_378 K (host := "") d23_28 31 rfl (Or.inl (w_82 hw)) Via.refl e_378 f_381 ?_
  intro T_384 X_384 e_384
  refine o_lconst X_384 K (1 : Int64) d23_31 32 rfl rfl ?_
  refine o_ladd X_384 K d23_32 33 rfl ?_
  refine o_putfield X_384 K (host := "") (ty := .long) d23_33 36 rfl (Or.inl (w_82 hw)) Via.refl e_384 f_381 f_379 (Or.inl (w_83 hw)) (w_45 hw) (by decide) rfl rfl N_378 g_a ?_
  intro T_385 h_385 locs_385 X_385 e_385 W_385 N_385
  have Z_385 : n0 ≤ h_385.size := by rw [Wr.size W_385]; exact Z_378
  have K_385 := K_378.wr W_385 (Or.inl (by simp))
  have f_386 := Exa.wr W_385 f_379
  have f_387 := Fld.other W_385 f_380 (Or.inr (slot_ne (Or.inr (w_76 hw)) (Or.inl (w_83 hw)) (by decide) (t := (.object "java/util/List")) (t' := .long) (by decide) (by decide)))
  have f_388 := Fld.same W_385 f_381
  have f_389 := Exa.wr W_385 p_378f0
  have f_390 := Exa.wr W_385 f_383
  have f_391 := Fld.other W_385 p_378f1 (Or.inl (Ne.symm ne_a_li))
  have f_392 := Fld.other W_385 p_378f2 (Or.inl (Ne.symm ne_a_li))
  have f_393 := Fld.other W_385 p_378f3 (Or.inl (Ne.symm ne_a_li))
  have f_394 := p_378f4.other W_385 ne_nd_a
  refine o_return X_385 K d23_36 (by decide) (by decide) N_385 ?_
  rw [e_385]
  exact ⟨rfl, K_385, f_386, f_387, f_388, f_389, f_391, f_392, f_393, f_394⟩
set_option maxHeartbeats 4000000 in
theorem c_pa3B (l : Launch) (Z : State) (a0 : Array Value) (hw : OW Z a0) (n0 : Nat) (a li f t u nd : Addr) (n : Int64) (sz mc : Int32) (h0 : Heap) (Z0 : n0 ≤ h0.size) (E_a : Exa Z h0 a "com/example/outlet_to_office/outlettooffice/server/Problems") (F_a_listed : Fld Z h0 a "com/example/outlet_to_office/outlettooffice/server/Problems" "listed" "Ljava/util/List;" (.ref li)) (F_a_count : Fld Z h0 a "com/example/outlet_to_office/outlettooffice/server/Problems" "count" "J" (.long n)) (g_a : n0 ≤ a) (E_li : Exa Z h0 li "java/util/ArrayList") (F_li_modCount : Fld Z h0 li "java/util/AbstractList" "modCount" "I" (.int mc)) (F_li_elementData : Fld Z h0 li "java/util/ArrayList" "elementData" "[Ljava/lang/Object;" (.ref nd)) (F_li_size : Fld Z h0 li "java/util/ArrayList" "size" "I" (.int sz)) (g_li : n0 ≤ li) (ne_a_li : a ≠ li) (A_nd : OAo Z h0 nd) (g_nd : n0 ≤ nd) (ne_nd_a : nd ≠ a) (ne_nd_li : nd ≠ li) (hsz : 0 ≤ sz.toInt ∧ sz.toInt < 10) :
    OCon l Z n0 (⟨"com/example/outlet_to_office/outlettooffice/server/Problems", "add", "(Ljava/lang/String;Ljava/lang/String;Ljava/lang/String;)V"⟩ : MethodName) prog_22_method_2_code 4 none ({ frames := 6, cells := 2, slots := 14, locals := 90 } : Room) #[(.ref a), (.ref f), (.ref t), (.ref u)] h0 (fun v h => v = none ∧ Keep h0 h [a, li, nd] ∧ Exa Z h a "com/example/outlet_to_office/outlettooffice/server/Problems" ∧ Fld Z h a "com/example/outlet_to_office/outlettooffice/server/Problems" "listed" "Ljava/util/List;" (.ref li) ∧ Fld Z h a "com/example/outlet_to_office/outlettooffice/server/Problems" "count" "J" (.long (n + (1 : Int64))) ∧ Exa Z h li "java/util/ArrayList" ∧ Fld Z h li "java/util/AbstractList" "modCount" "I" (.int (mc + (1 : Int32))) ∧ Fld Z h li "java/util/ArrayList" "elementData" "[Ljava/lang/Object;" (.ref nd) ∧ Fld Z h li "java/util/ArrayList" "size" "I" (.int (sz + (1 : Int32))) ∧ OAo Z h nd) := by
  refine OCon.of (Ls := #[.val (.ref a), .val (.ref f), .val (.ref t), .val (.ref u)]) pn_30 rfl rfl (fun m => by first | (simp [entryFrame, mkF, argsToLocals, Value.category]; done) | rfl) ?_
  intro p e s m below meth c T0 X0 K e0
  have N0 := Fr.nil n0
  have KK0 := Keep.refl h0 [a, li, nd]
  refine o_aloadN X0 K d30_0 1 rfl rfl rfl ?_
  refine o_new X0 K d30_1 4 rfl (w_93 hw) (w_94 hw) (w_95 hw) e0 (by decide) (by decide) ?_
  intro T_395 h_395 x g_395 X_395 e_395 E_395 B_395 D_395
  have Z_395 : n0 ≤ h_395.size := Nat.le_trans Z0 E_395.1
  have K_395 := KK0.ext E_395
  have f_396 := Exa.ext E_395 E_a
  have f_397 := Fld.ext E_395 F_a_listed
  have f_398 := Fld.ext E_395 F_a_count
  have f_399 := Exa.ext E_395 E_li
  have f_400 := Fld.ext E_395 F_li_modCount
  have f_401 := Fld.ext E_395 F_li_elementData
  have f_402 := Fld.ext E_395 F_li_size
  have f_403 := A_nd.ext E_395
  have g_x : n0 ≤ x := by rw [g_395]; exact Z0
  have ne_a_x : a ≠ x := by rw [g_395]; exact Nat.ne_of_lt E_a.lt
  have ne_li_x : li ≠ x := by rw [g_395]; exact Nat.ne_of_lt E_li.lt
  have ne_nd_x : nd ≠ x := by rw [g_395]; exact Nat.ne_of_lt A_nd.lt
  have sz_x : h0.size ≤ x := by rw [g_395]; exact KK0.1
  have F_field__395 : Fld Z h_395 x "com/example/outlet_to_office/outlettooffice/server/Problem" "field" "Ljava/lang/String;" .null := D_395 (Or.inr (w_127 hw)) (ty := (.object "java/lang/String")) (by decide)
  have F_type__395 : Fld Z h_395 x "com/example/outlet_to_office/outlettooffice/server/Problem" "type" "Ljava/lang/String;" .null := D_395 (Or.inr (w_129 hw)) (ty := (.object "java/lang/String")) (by decide)
  have F_message__395 : Fld Z h_395 x "com/example/outlet_to_office/outlettooffice/server/Problem" "message" "Ljava/lang/String;" .null := D_395 (Or.inr (w_131 hw)) (ty := (.object "java/lang/String")) (by decide)
  have F_line__395 : Fld Z h_395 x "com/example/outlet_to_office/outlettooffice/server/Problem" "line" "Ljava/lang/Integer;" .null := D_395 (Or.inr (w_133 hw)) (ty := (.object "java/lang/Integer")) (by decide)
  refine o_dup X_395 K d30_4 5 rfl rfl ?_
  refine o_aloadN X_395 K d30_5 6 rfl rfl rfl ?_
  refine o_aloadN X_395 K d30_6 7 rfl rfl rfl ?_
  refine o_aloadN X_395 K d30_7 8 rfl rfl rfl ?_
  refine o_invokespecial X_395 K d30_8 11 rfl rfl (w_186 hw) (w_187 hw) (w_95 hw) (w_188 hw) (by decide) [(.ref f), (.ref t), (.ref u)] [(.ref x), (.ref a)] rfl  (c_pinit3 l Z a0 hw n0 x f t u h_395 Z_395 B_395 F_field__395 F_type__395 F_message__395 F_line__395 g_x) e_395 rfl (lenOf pd__Ljava_lang_String_Ljava_lang_String_Ljava_lang_String__V rfl) (by decide) 2 (Nat.le_of_eq rfl) (by decide) (by decide) (by decide) N0 ?_
  rintro _ T_404 h_404 locs_404 X_404 e_404 ⟨rfl, k_404, p_404f0⟩ N_404
  have Z_404 : n0 ≤ h_404.size := Nat.le_trans Z_395 k_404.1
  have K_404 := K_395.trans k_404 (allS (Or.inr sz_x) (all0))
  have f_405 := Exa.keep f_396 k_404
  have f_406 := Fld.keep f_397 k_404 (ninS ne_a_x (nin0))
  have f_407 := Fld.keep f_398 k_404 (ninS ne_a_x (nin0))
  have f_408 := Exa.keep f_399 k_404
  have f_409 := Fld.keep f_400 k_404 (ninS ne_li_x (nin0))
  have f_410 := Fld.keep f_401 k_404 (ninS ne_li_x (nin0))
  have f_411 := Fld.keep f_402 k_404 (ninS ne_li_x (nin0))
  have f_412 := f_403.keep k_404 (ninS ne_nd_x (nin0))
  have f_413 := Exa.keep B_395 k_404
  show OGo p e below _ n0 _ (T_404.setTop (mkF m 11 #[.val (.ref a), .val (.ref f), .val (.ref t), .val (.ref u)] [(.ref x), (.ref a)]))
  refine o_invokeprivate X_404 K d30_11 14 rfl (w_134 hw) (w_135 hw) (w_136 hw) (w_46 hw) (w_137 hw) (by decide) ⟨2, (w_45 hw)⟩ f_405 [(.ref x)] [] rfl  (c_paddB l Z a0 hw n0 a li x nd n sz mc h_404 Z_404 f_405 f_406 f_407 g_a f_408 f_409 f_410 f_411 g_li ne_a_li f_412 g_nd ne_nd_a ne_nd_li (hsz) p_404f0) e_404 rfl (lenOf pd__Lcom_example_outlet_to_office_outlettooffice_server_Problem__V rfl) (by decide) 0 (Nat.le_of_eq rfl) (by decide) (by decide) (by decide) N_404 ?_
  rintro _ T_414 h_414 locs_414 X_414 e_414 ⟨rfl, k_414, p_414f0, p_414f1, p_414f2, p_414f3, p_414f4, p_414f5, p_414f6, p_414f7⟩ N_414
  have Z_414 : n0 ≤ h_414.size := Nat.le_trans Z_404 k_414.1
  have K_414 := K_404.trans k_414 (allS (Or.inl (by simp)) (allS (Or.inl (by simp)) (allS (Or.inl (by simp)) (all0))))
  have f_415 := Exa.keep f_405 k_414
  have f_416 := Exa.keep f_408 k_414
  have f_417 := Exa.keep p_404f0 k_414
  show OGo p e below _ n0 _ (T_414.setTop (mkF m 14 #[.val (.ref a), .val (.ref f), .val (.ref t), .val (.ref u)] []))
  refine o_return X_414 K d30_14 (by decide) (by decide) N_414 ?_
  rw [e_414]
  exact ⟨rfl, K_414, p_414f0, p_414f1, p_414f2, p_414f3, p_414f4, p_414f5, p_414f6, p_414f7⟩
set_option maxHeartbeats 4000000 in
theorem c_pa4B (l : Launch) (Z : State) (a0 : Array Value) (hw : OW Z a0) (n0 : Nat) (a li f t u nd ca : Addr) (n : Int64) (sz mc : Int32) (z : Int32) (cf : Nat → Value) (h0 : Heap) (Z0 : n0 ≤ h0.size) (S_high : Sta Z h0 "java/lang/Integer$IntegerCache" "high" "I" (.int (127 : Int32))) (S_cache : Sta Z h0 "java/lang/Integer$IntegerCache" "cache" "[Ljava/lang/Integer;" (.ref ca)) (A_ca : OAr Z h0 ca (.object "java/lang/Integer") 256 cf) (E_a : Exa Z h0 a "com/example/outlet_to_office/outlettooffice/server/Problems") (F_a_listed : Fld Z h0 a "com/example/outlet_to_office/outlettooffice/server/Problems" "listed" "Ljava/util/List;" (.ref li)) (F_a_count : Fld Z h0 a "com/example/outlet_to_office/outlettooffice/server/Problems" "count" "J" (.long n)) (g_a : n0 ≤ a) (E_li : Exa Z h0 li "java/util/ArrayList") (F_li_modCount : Fld Z h0 li "java/util/AbstractList" "modCount" "I" (.int mc)) (F_li_elementData : Fld Z h0 li "java/util/ArrayList" "elementData" "[Ljava/lang/Object;" (.ref nd)) (F_li_size : Fld Z h0 li "java/util/ArrayList" "size" "I" (.int sz)) (g_li : n0 ≤ li) (ne_a_li : a ≠ li) (A_nd : OAo Z h0 nd) (g_nd : n0 ≤ nd) (ne_nd_a : nd ≠ a) (ne_nd_li : nd ≠ li) (hsz : 0 ≤ sz.toInt ∧ sz.toInt < 10) (ne_ca_a : ca ≠ a) (ne_ca_li : ca ≠ li) (ne_ca_nd : ca ≠ nd) :
    OCon l Z n0 (⟨"com/example/outlet_to_office/outlettooffice/server/Problems", "add", "(Ljava/lang/String;Ljava/lang/String;Ljava/lang/String;I)V"⟩ : MethodName) prog_22_method_3_code 5 none ({ frames := 6, cells := 3, slots := 15, locals := 90 } : Room) #[(.ref a), (.ref f), (.ref t), (.ref u), (.int z)] h0 (fun v h => v = none ∧ Keep h0 h [a, li, nd] ∧ Exa Z h a "com/example/outlet_to_office/outlettooffice/server/Problems" ∧ Fld Z h a "com/example/outlet_to_office/outlettooffice/server/Problems" "listed" "Ljava/util/List;" (.ref li) ∧ Fld Z h a "com/example/outlet_to_office/outlettooffice/server/Problems" "count" "J" (.long (n + (1 : Int64))) ∧ Exa Z h li "java/util/ArrayList" ∧ Fld Z h li "java/util/AbstractList" "modCount" "I" (.int (mc + (1 : Int32))) ∧ Fld Z h li "java/util/ArrayList" "elementData" "[Ljava/lang/Object;" (.ref nd) ∧ Fld Z h li "java/util/ArrayList" "size" "I" (.int (sz + (1 : Int32))) ∧ OAo Z h nd) := by
  refine OCon.of (Ls := #[.val (.ref a), .val (.ref f), .val (.ref t), .val (.ref u), .val (.int z)]) pn_17 rfl rfl (fun m => by first | (simp [entryFrame, mkF, argsToLocals, Value.category]; done) | rfl) ?_
  intro p e s m below meth c T0 X0 K e0
  have N0 := Fr.nil n0
  have KK0 := Keep.refl h0 [a, li, nd]
  refine o_aloadN X0 K d17_0 1 rfl rfl rfl ?_
  refine o_new X0 K d17_1 4 rfl (w_93 hw) (w_94 hw) (w_95 hw) e0 (by decide) (by decide) ?_
  intro T_418 h_418 x g_418 X_418 e_418 E_418 B_418 D_418
  have Z_418 : n0 ≤ h_418.size := Nat.le_trans Z0 E_418.1
  have K_418 := KK0.ext E_418
  have f_419 := Sta.ext E_418 S_high
  have f_420 := Sta.ext E_418 S_cache
  have f_421 := A_ca.ext E_418
  have f_422 := Exa.ext E_418 E_a
  have f_423 := Fld.ext E_418 F_a_listed
  have f_424 := Fld.ext E_418 F_a_count
  have f_425 := Exa.ext E_418 E_li
  have f_426 := Fld.ext E_418 F_li_modCount
  have f_427 := Fld.ext E_418 F_li_elementData
  have f_428 := Fld.ext E_418 F_li_size
  have f_429 := A_nd.ext E_418
  have g_x : n0 ≤ x := by rw [g_418]; exact Z0
  have ne_ca_x : ca ≠ x := by rw [g_418]; exact Nat.ne_of_lt A_ca.lt
  have ne_a_x : a ≠ x := by rw [g_418]; exact Nat.ne_of_lt E_a.lt
  have ne_li_x : li ≠ x := by rw [g_418]; exact Nat.ne_of_lt E_li.lt
  have ne_nd_x : nd ≠ x := by rw [g_418]; exact Nat.ne_of_lt A_nd.lt
  have sz_x : h0.size ≤ x := by rw [g_418]; exact KK0.1
  have F_field__418 : Fld Z h_418 x "com/example/outlet_to_office/outlettooffice/server/Problem" "field" "Ljava/lang/String;" .null := D_418 (Or.inr (w_127 hw)) (ty := (.object "java/lang/String")) (by decide)
  have F_type__418 : Fld Z h_418 x "com/example/outlet_to_office/outlettooffice/server/Problem" "type" "Ljava/lang/String;" .null := D_418 (Or.inr (w_129 hw)) (ty := (.object "java/lang/String")) (by decide)
  have F_message__418 : Fld Z h_418 x "com/example/outlet_to_office/outlettooffice/server/Problem" "message" "Ljava/lang/String;" .null := D_418 (Or.inr (w_131 hw)) (ty := (.object "java/lang/String")) (by decide)
  have F_line__418 : Fld Z h_418 x "com/example/outlet_to_office/outlettooffice/server/Problem" "line" "Ljava/lang/Integer;" .null := D_418 (Or.inr (w_133 hw)) (ty := (.object "java/lang/Integer")) (by decide)
  refine o_dup X_418 K d17_4 5 rfl rfl ?_
  refine o_aloadN X_418 K d17_5 6 rfl rfl rfl ?_
  refine o_aloadN X_418 K d17_6 7 rfl rfl rfl ?_
  refine o_aloadN X_418 K d17_7 8 rfl rfl rfl ?_
  refine o_iload X_418 K d17_8 10 rfl rfl ?_
  refine o_invokestatic X_418 K d17_10 13 rfl (w_96 hw) (w_97 hw) (w_98 hw) (w_99 hw) (by decide) [(.int z)] [(.ref u), (.ref t), (.ref f), (.ref x), (.ref x), (.ref a)] rfl  (c_ival l Z a0 hw n0 z ca cf h_418 Z_418 f_419 f_420 f_421) e_418 rfl (lenOf pd__I_Ljava_lang_Integer_ rfl) (by decide) 6 (Nat.le_of_eq rfl) (by decide) (by decide) (by decide) N0 ?_
  rintro _ T_430 h_430 locs_430 X_430 e_430 ⟨rv_430, rfl, hr_430, k_430⟩ N_430
  have Z_430 : n0 ≤ h_430.size := Nat.le_trans Z_418 k_430.1
  have K_430 := K_418.trans k_430 (all0)
  have f_431 := o_sta_keep f_419 k_430 (o_plain0)
  have f_432 := o_sta_keep f_420 k_430 (o_plain0)
  have f_433 := f_421.keep k_430 (nin0)
  have f_434 := Exa.keep f_422 k_430
  have f_435 := Fld.keep f_423 k_430 (nin0)
  have f_436 := Fld.keep f_424 k_430 (nin0)
  have f_437 := Exa.keep f_425 k_430
  have f_438 := Fld.keep f_426 k_430 (nin0)
  have f_439 := Fld.keep f_427 k_430 (nin0)
  have f_440 := Fld.keep f_428 k_430 (nin0)
  have f_441 := f_429.keep k_430 (nin0)
  have f_442 := Exa.keep B_418 k_430
  have f_443 := Fld.keep F_field__418 k_430 (nin0)
  have f_444 := Fld.keep F_type__418 k_430 (nin0)
  have f_445 := Fld.keep F_message__418 k_430 (nin0)
  have f_446 := Fld.keep F_line__418 k_430 (nin0)
  show OGo p e below _ n0 _ (T_430.setTop (mkF m 13 #[.val (.ref a), .val (.ref f), .val (.ref t), .val (.ref u), .val (.int z)] [rv_430, (.ref u), (.ref t), (.ref f), (.ref x), (.ref x), (.ref a)]))
  rcases hr_430 with rfl | ⟨qv, rfl⟩
  · skip
    refine o_invokespecial X_430 K d17_13 16 rfl rfl (w_117 hw) (w_118 hw) (w_95 hw) (w_119 hw) (by decide) [(.ref f), (.ref t), (.ref u), .null] [(.ref x), (.ref a)] rfl  (c_pinit0 l Z a0 hw n0 x f t u h_430 Z_430 f_442 f_443 f_444 f_445 f_446 g_x) e_430 rfl (lenOf pd__Ljava_lang_String_Ljava_lang_String_Ljava_lang_String_Ljava_lang_Integer__V rfl) (by decide) 2 (Nat.le_of_eq rfl) (by decide) (by decide) (by decide) N_430 ?_
    rintro _ T_447 h_447 locs_447 X_447 e_447 ⟨rfl, k_447, p_447f0⟩ N_447
    have Z_447 : n0 ≤ h_447.size := Nat.le_trans Z_430 k_447.1
    have K_447 := K_430.trans k_447 (allS (Or.inr sz_x) (all0))
    have f_448 := o_sta_keep f_431 k_447 (o_plainS f_442 (o_plain0))
    have f_449 := o_sta_keep f_432 k_447 (o_plainS f_442 (o_plain0))
    have f_450 := f_433.keep k_447 (ninS ne_ca_x (nin0))
    have f_451 := Exa.keep f_434 k_447
    have f_452 := Fld.keep f_435 k_447 (ninS ne_a_x (nin0))
    have f_453 := Fld.keep f_436 k_447 (ninS ne_a_x (nin0))
    have f_454 := Exa.keep f_437 k_447
    have f_455 := Fld.keep f_438 k_447 (ninS ne_li_x (nin0))
    have f_456 := Fld.keep f_439 k_447 (ninS ne_li_x (nin0))
    have f_457 := Fld.keep f_440 k_447 (ninS ne_li_x (nin0))
    have f_458 := f_441.keep k_447 (ninS ne_nd_x (nin0))
    have f_459 := Exa.keep f_442 k_447
    show OGo p e below _ n0 _ (T_447.setTop (mkF m 16 #[.val (.ref a), .val (.ref f), .val (.ref t), .val (.ref u), .val (.int z)] [(.ref x), (.ref a)]))
    refine o_invokeprivate X_447 K d17_16 19 rfl (w_134 hw) (w_135 hw) (w_136 hw) (w_46 hw) (w_137 hw) (by decide) ⟨2, (w_45 hw)⟩ f_451 [(.ref x)] [] rfl  (c_paddB l Z a0 hw n0 a li x nd n sz mc h_447 Z_447 f_451 f_452 f_453 g_a f_454 f_455 f_456 f_457 g_li ne_a_li f_458 g_nd ne_nd_a ne_nd_li (hsz) p_447f0) e_447 rfl (lenOf pd__Lcom_example_outlet_to_office_outlettooffice_server_Problem__V rfl) (by decide) 0 (Nat.le_of_eq rfl) (by decide) (by decide) (by decide) N_447 ?_
    rintro _ T_460 h_460 locs_460 X_460 e_460 ⟨rfl, k_460, p_460f0, p_460f1, p_460f2, p_460f3, p_460f4, p_460f5, p_460f6, p_460f7⟩ N_460
    have Z_460 : n0 ≤ h_460.size := Nat.le_trans Z_447 k_460.1
    have K_460 := K_447.trans k_460 (allS (Or.inl (by simp)) (allS (Or.inl (by simp)) (allS (Or.inl (by simp)) (all0))))
    have f_461 := o_sta_keep f_448 k_460 (o_plainS f_451 (o_plainS f_454 (o_plainA f_458 (o_plain0))))
    have f_462 := o_sta_keep f_449 k_460 (o_plainS f_451 (o_plainS f_454 (o_plainA f_458 (o_plain0))))
    have f_463 := f_450.keep k_460 (ninS ne_ca_a (ninS ne_ca_li (ninS ne_ca_nd (nin0))))
    have f_464 := Exa.keep f_451 k_460
    have f_465 := Exa.keep f_454 k_460
    have f_466 := Exa.keep p_447f0 k_460
    show OGo p e below _ n0 _ (T_460.setTop (mkF m 19 #[.val (.ref a), .val (.ref f), .val (.ref t), .val (.ref u), .val (.int z)] []))
    refine o_return X_460 K d17_19 (by decide) (by decide) N_460 ?_
    rw [e_460]
    exact ⟨rfl, K_460, p_460f0, p_460f1, p_460f2, p_460f3, p_460f4, p_460f5, p_460f6, p_460f7⟩
  · skip
    refine o_invokespecial X_430 K d17_13 16 rfl rfl (w_117 hw) (w_118 hw) (w_95 hw) (w_119 hw) (by decide) [(.ref f), (.ref t), (.ref u), (.ref qv)] [(.ref x), (.ref a)] rfl  (c_pinit1 l Z a0 hw n0 x f t u qv h_430 Z_430 f_442 f_443 f_444 f_445 f_446 g_x) e_430 rfl (lenOf pd__Ljava_lang_String_Ljava_lang_String_Ljava_lang_String_Ljava_lang_Integer__V rfl) (by decide) 2 (Nat.le_of_eq rfl) (by decide) (by decide) (by decide) N_430 ?_
    rintro _ T_467 h_467 locs_467 X_467 e_467 ⟨rfl, k_467, p_467f0⟩ N_467
    have Z_467 : n0 ≤ h_467.size := Nat.le_trans Z_430 k_467.1
    have K_467 := K_430.trans k_467 (allS (Or.inr sz_x) (all0))
    have f_468 := o_sta_keep f_431 k_467 (o_plainS f_442 (o_plain0))
    have f_469 := o_sta_keep f_432 k_467 (o_plainS f_442 (o_plain0))
    have f_470 := f_433.keep k_467 (ninS ne_ca_x (nin0))
    have f_471 := Exa.keep f_434 k_467
    have f_472 := Fld.keep f_435 k_467 (ninS ne_a_x (nin0))
    have f_473 := Fld.keep f_436 k_467 (ninS ne_a_x (nin0))
    have f_474 := Exa.keep f_437 k_467
    have f_475 := Fld.keep f_438 k_467 (ninS ne_li_x (nin0))
    have f_476 := Fld.keep f_439 k_467 (ninS ne_li_x (nin0))
    have f_477 := Fld.keep f_440 k_467 (ninS ne_li_x (nin0))
    have f_478 := f_441.keep k_467 (ninS ne_nd_x (nin0))
    have f_479 := Exa.keep f_442 k_467
    show OGo p e below _ n0 _ (T_467.setTop (mkF m 16 #[.val (.ref a), .val (.ref f), .val (.ref t), .val (.ref u), .val (.int z)] [(.ref x), (.ref a)]))
    refine o_invokeprivate X_467 K d17_16 19 rfl (w_134 hw) (w_135 hw) (w_136 hw) (w_46 hw) (w_137 hw) (by decide) ⟨2, (w_45 hw)⟩ f_471 [(.ref x)] [] rfl  (c_paddB l Z a0 hw n0 a li x nd n sz mc h_467 Z_467 f_471 f_472 f_473 g_a f_474 f_475 f_476 f_477 g_li ne_a_li f_478 g_nd ne_nd_a ne_nd_li (hsz) p_467f0) e_467 rfl (lenOf pd__Lcom_example_outlet_to_office_outlettooffice_server_Problem__V rfl) (by decide) 0 (Nat.le_of_eq rfl) (by decide) (by decide) (by decide) N_467 ?_
    rintro _ T_480 h_480 locs_480 X_480 e_480 ⟨rfl, k_480, p_480f0, p_480f1, p_480f2, p_480f3, p_480f4, p_480f5, p_480f6, p_480f7⟩ N_480
    have Z_480 : n0 ≤ h_480.size := Nat.le_trans Z_467 k_480.1
    have K_480 := K_467.trans k_480 (allS (Or.inl (by simp)) (allS (Or.inl (by simp)) (allS (Or.inl (by simp)) (all0))))
    have f_481 := o_sta_keep f_468 k_480 (o_plainS f_471 (o_plainS f_474 (o_plainA f_478 (o_plain0))))
    have f_482 := o_sta_keep f_469 k_480 (o_plainS f_471 (o_plainS f_474 (o_plainA f_478 (o_plain0))))
    have f_483 := f_470.keep k_480 (ninS ne_ca_a (ninS ne_ca_li (ninS ne_ca_nd (nin0))))
    have f_484 := Exa.keep f_471 k_480
    have f_485 := Exa.keep f_474 k_480
    have f_486 := Exa.keep p_467f0 k_480
    show OGo p e below _ n0 _ (T_480.setTop (mkF m 19 #[.val (.ref a), .val (.ref f), .val (.ref t), .val (.ref u), .val (.int z)] []))
    refine o_return X_480 K d17_19 (by decide) (by decide) N_480 ?_
    rw [e_480]
    exact ⟨rfl, K_480, p_480f0, p_480f1, p_480f2, p_480f3, p_480f4, p_480f5, p_480f6, p_480f7⟩
set_option maxHeartbeats 4000000 in
theorem c_laddB (l : Launch) (Z : State) (a0 : Array Value) (hw : OW Z a0) (n0 : Nat) (a li f t u nd ca : Addr) (n : Int64) (sz mc : Int32) (z kk : Int32) (cf : Nat → Value) (h0 : Heap) (Z0 : n0 ≤ h0.size) (S_high : Sta Z h0 "java/lang/Integer$IntegerCache" "high" "I" (.int (127 : Int32))) (S_cache : Sta Z h0 "java/lang/Integer$IntegerCache" "cache" "[Ljava/lang/Integer;" (.ref ca)) (A_ca : OAr Z h0 ca (.object "java/lang/Integer") 256 cf) (E_a : Exa Z h0 a "com/example/outlet_to_office/outlettooffice/server/Problems") (F_a_listed : Fld Z h0 a "com/example/outlet_to_office/outlettooffice/server/Problems" "listed" "Ljava/util/List;" (.ref li)) (F_a_count : Fld Z h0 a "com/example/outlet_to_office/outlettooffice/server/Problems" "count" "J" (.long n)) (g_a : n0 ≤ a) (E_li : Exa Z h0 li "java/util/ArrayList") (F_li_modCount : Fld Z h0 li "java/util/AbstractList" "modCount" "I" (.int mc)) (F_li_elementData : Fld Z h0 li "java/util/ArrayList" "elementData" "[Ljava/lang/Object;" (.ref nd)) (F_li_size : Fld Z h0 li "java/util/ArrayList" "size" "I" (.int sz)) (g_li : n0 ≤ li) (ne_a_li : a ≠ li) (A_nd : OAo Z h0 nd) (g_nd : n0 ≤ nd) (ne_nd_a : nd ≠ a) (ne_nd_li : nd ≠ li) (hsz : 0 ≤ sz.toInt ∧ sz.toInt < 10) (ne_ca_a : ca ≠ a) (ne_ca_li : ca ≠ li) (ne_ca_nd : ca ≠ nd) :
    OCon l Z n0 (⟨"com/example/outlet_to_office/outlettooffice/server/ProblemsIsEmptyPinLaw", "add", "(Lcom/example/outlet_to_office/outlettooffice/server/Problems;ILjava/lang/String;Ljava/lang/String;Ljava/lang/String;I)V"⟩ : MethodName) method_3_code 6 none ({ frames := 7, cells := 3, slots := 15, locals := 110 } : Room) #[(.ref a), (.int kk), (.ref f), (.ref t), (.ref u), (.int z)] h0 (fun v h => v = none ∧ Keep h0 h [a, li, nd] ∧ Exa Z h a "com/example/outlet_to_office/outlettooffice/server/Problems" ∧ Fld Z h a "com/example/outlet_to_office/outlettooffice/server/Problems" "listed" "Ljava/util/List;" (.ref li) ∧ Fld Z h a "com/example/outlet_to_office/outlettooffice/server/Problems" "count" "J" (.long (n + (1 : Int64))) ∧ Exa Z h li "java/util/ArrayList" ∧ Fld Z h li "java/util/AbstractList" "modCount" "I" (.int (mc + (1 : Int32))) ∧ Fld Z h li "java/util/ArrayList" "elementData" "[Ljava/lang/Object;" (.ref nd) ∧ Fld Z h li "java/util/ArrayList" "size" "I" (.int (sz + (1 : Int32))) ∧ OAo Z h nd) := by
  refine OCon.of (Ls := #[.val (.ref a), .val (.int kk), .val (.ref f), .val (.ref t), .val (.ref u), .val (.int z)]) pn_16 rfl rfl (fun m => by first | (simp [entryFrame, mkF, argsToLocals, Value.category]; done) | rfl) ?_
  intro p e s m below meth c T0 X0 K e0
  have N0 := Fr.nil n0
  have KK0 := Keep.refl h0 [a, li, nd]
  refine o_iloadN X0 K d16_0 1 rfl rfl ?_
  refine o_if_ne X0 K d16_1 15 (by decide) (by decide) 4 rfl (fun hc1 => ?_) (fun hc1 => ?_)
  · refine o_aloadN X0 K d16_15 16 rfl rfl rfl ?_
    refine o_aloadN X0 K d16_16 17 rfl rfl rfl ?_
    refine o_aloadN X0 K d16_17 18 rfl rfl rfl ?_
    refine o_aload X0 K d16_18 20 rfl rfl rfl ?_
    refine o_iload X0 K d16_20 22 rfl rfl ?_
    refine o_invokevirtual X0 K d16_22 25 rfl (w_88 hw) (w_89 hw) (w_91 hw) (w_90 hw) (w_46 hw) (w_92 hw) (by decide) E_a [(.ref f), (.ref t), (.ref u), (.int z)] [] rfl  (c_pa4B l Z a0 hw n0 a li f t u nd ca n sz mc z cf h0 Z0 S_high S_cache A_ca E_a F_a_listed F_a_count g_a E_li F_li_modCount F_li_elementData F_li_size g_li ne_a_li A_nd g_nd ne_nd_a ne_nd_li (hsz) ne_ca_a ne_ca_li ne_ca_nd) e0 rfl (lenOf pd__Ljava_lang_String_Ljava_lang_String_Ljava_lang_String_I_V rfl) (by decide) 0 (Nat.le_of_eq rfl) (by decide) (by decide) (by decide) N0 ?_
    rintro _ T_487 h_487 locs_487 X_487 e_487 ⟨rfl, k_487, p_487f0, p_487f1, p_487f2, p_487f3, p_487f4, p_487f5, p_487f6, p_487f7⟩ N_487
    have Z_487 : n0 ≤ h_487.size := Nat.le_trans Z0 k_487.1
    have K_487 := KK0.trans k_487 (allS (Or.inl (by simp)) (allS (Or.inl (by simp)) (allS (Or.inl (by simp)) (all0))))
    have f_488 := o_sta_keep S_high k_487 (o_plainS E_a (o_plainS E_li (o_plainA A_nd (o_plain0))))
    have f_489 := o_sta_keep S_cache k_487 (o_plainS E_a (o_plainS E_li (o_plainA A_nd (o_plain0))))
    have f_490 := A_ca.keep k_487 (ninS ne_ca_a (ninS ne_ca_li (ninS ne_ca_nd (nin0))))
    have f_491 := Exa.keep E_a k_487
    have f_492 := Exa.keep E_li k_487
    show OGo p e below _ n0 _ (T_487.setTop (mkF m 25 #[.val (.ref a), .val (.int kk), .val (.ref f), .val (.ref t), .val (.ref u), .val (.int z)] []))
    refine o_return X_487 K d16_25 (by decide) (by decide) N_487 ?_
    rw [e_487]
    exact ⟨rfl, K_487, p_487f0, p_487f1, p_487f2, p_487f3, p_487f4, p_487f5, p_487f6, p_487f7⟩
  · refine o_aloadN X0 K d16_4 5 rfl rfl rfl ?_
    refine o_aloadN X0 K d16_5 6 rfl rfl rfl ?_
    refine o_aloadN X0 K d16_6 7 rfl rfl rfl ?_
    refine o_aload X0 K d16_7 9 rfl rfl rfl ?_
    refine o_invokevirtual X0 K d16_9 12 rfl (w_181 hw) (w_182 hw) (w_184 hw) (w_183 hw) (w_46 hw) (w_185 hw) (by decide) E_a [(.ref f), (.ref t), (.ref u)] [] rfl  (c_pa3B l Z a0 hw n0 a li f t u nd n sz mc h0 Z0 E_a F_a_listed F_a_count g_a E_li F_li_modCount F_li_elementData F_li_size g_li ne_a_li A_nd g_nd ne_nd_a ne_nd_li (hsz)) e0 rfl (lenOf pd__Ljava_lang_String_Ljava_lang_String_Ljava_lang_String__V rfl) (by decide) 0 (Nat.le_of_eq rfl) (by decide) (by decide) (by decide) N0 ?_
    rintro _ T_493 h_493 locs_493 X_493 e_493 ⟨rfl, k_493, p_493f0, p_493f1, p_493f2, p_493f3, p_493f4, p_493f5, p_493f6, p_493f7⟩ N_493
    have Z_493 : n0 ≤ h_493.size := Nat.le_trans Z0 k_493.1
    have K_493 := KK0.trans k_493 (allS (Or.inl (by simp)) (allS (Or.inl (by simp)) (allS (Or.inl (by simp)) (all0))))
    have f_494 := o_sta_keep S_high k_493 (o_plainS E_a (o_plainS E_li (o_plainA A_nd (o_plain0))))
    have f_495 := o_sta_keep S_cache k_493 (o_plainS E_a (o_plainS E_li (o_plainA A_nd (o_plain0))))
    have f_496 := A_ca.keep k_493 (ninS ne_ca_a (ninS ne_ca_li (ninS ne_ca_nd (nin0))))
    have f_497 := Exa.keep E_a k_493
    have f_498 := Exa.keep E_li k_493
    show OGo p e below _ n0 _ (T_493.setTop (mkF m 12 #[.val (.ref a), .val (.int kk), .val (.ref f), .val (.ref t), .val (.ref u), .val (.int z)] []))
    refine o_goto X_493 K d16_12 25 (by decide) (by decide) ?_
    refine o_return X_493 K d16_25 (by decide) (by decide) N_493 ?_
    rw [e_493]
    exact ⟨rfl, K_493, p_493f0, p_493f1, p_493f2, p_493f3, p_493f4, p_493f5, p_493f6, p_493f7⟩
theorem pd__C_Ljava_lang_String_ : parseMethodDescriptor "(C)Ljava/lang/String;" = some ⟨[.char], some (.object "java/lang/String")⟩ := by decide +kernel
theorem pd___Z : parseMethodDescriptor "()Z" = some ⟨[], some .boolean⟩ := by decide +kernel
theorem pd__Lcom_example_outlet_to_office_outlettooffice_server_Problems_ILjava_lang_String_Ljava_lang_String_Ljava_lang_String_I_V : parseMethodDescriptor "(Lcom/example/outlet_to_office/outlettooffice/server/Problems;ILjava/lang/String;Ljava/lang/String;Ljava/lang/String;I)V" = some ⟨[(.object "com/example/outlet_to_office/outlettooffice/server/Problems"), .int, (.object "java/lang/String"), (.object "java/lang/String"), (.object "java/lang/String"), .int], none⟩ := by decide +kernel
theorem pn_0 : plainFor x = true := plainFor_of_name (by first | (simp [plainName, overriddenIn, x]; done) | decide +kernel)
set_option maxHeartbeats 4000000 in
theorem rm0 (l : Launch) (Z : State) (a0 : Array Value) (hw : OW Z a0) (n0 : Nat) (p0 p1 p2 p3 zcs : Int32) (de ca : Addr) (cf : Nat → Value) (h0 : Heap) (Z0 : n0 ≤ h0.size) (S_COMPACT_STRINGS : Sta Z h0 "java/lang/String" "COMPACT_STRINGS" "Z" (.int zcs)) (hcs : ¬ zcs = 0) (S_DEFAULTCAPACITY_EMPTY_ELEMENTDATA : Sta Z h0 "java/util/ArrayList" "DEFAULTCAPACITY_EMPTY_ELEMENTDATA" "[Ljava/lang/Object;" (.ref de)) (A_de : OAr Z h0 de (.object "java/lang/Object") 0 (fun _ => .null)) (S_high : Sta Z h0 "java/lang/Integer$IntegerCache" "high" "I" (.int (127 : Int32))) (S_cache : Sta Z h0 "java/lang/Integer$IntegerCache" "cache" "[Ljava/lang/Integer;" (.ref ca)) (A_ca : OAr Z h0 ca (.object "java/lang/Integer") 256 cf) :
    OCon l Z n0 x code maxLocals ret room_1 #[(.int p0), (.int p1), (.int p2), (.int p3)] h0 (fun v _ => v = some (.int 1)) := by
  refine OCon.of (Ls := #[.val (.int p0), .val (.int p1), .val (.int p2), .val (.int p3), .unset, .unset, .unset, .unset, .unset, .unset, .unset]) pn_0 rfl rfl (fun m => by first | (simp [entryFrame, mkF, argsToLocals, Value.category, maxLocals]; done) | rfl) ?_
  intro p e s m below meth c T0 X0 K e0
  have N0 := Fr.nil n0
  refine o_iloadN X0 K at_0 1 rfl rfl ?_
  refine o_iconst X0 K (3 : Int32) at_1 2 rfl rfl ?_
  refine o_iand X0 K at_2 3 rfl ?_
  obtain ⟨k, h_k⟩ : ∃ z_ : Int32, z_ = (p0 &&& (3 : Int32)) := ⟨_, rfl⟩
  refine o_istore X0 K at_3 5 rfl #[.val (.int p0), .val (.int p1), .val (.int p2), .val (.int p3), .val (.int k), .unset, .unset, .unset, .unset, .unset, .unset] h_k.symm rfl ?_
  have l0 : (0 : Int32).toInt = 0 := rfl
  have l1 : (1 : Int32).toInt = 1 := rfl
  have l2 : (2 : Int32).toInt = 2 := rfl
  have l3 : (3 : Int32).toInt = 3 := rfl
  have l8 : (8 : Int32).toInt = 8 := rfl
  have l16 : (16 : Int32).toInt = 16 := rfl
  have l24 : (24 : Int32).toInt = 24 := rfl
  have l255 : (255 : Int32).toInt = 255 := rfl
  have hkr : 0 ≤ k.toInt ∧ k.toInt ≤ 3 := by rw [h_k]; exact c_and p0 3 (by decide)
  refine o_new X0 K at_5 8 rfl (w_0 hw) (w_1 hw) (w_2 hw) e0 (by decide) (by decide) ?_
  intro T_499 h_499 sf g_499 X_499 e_499 E_499 B_499 D_499
  have Z_499 : n0 ≤ h_499.size := Nat.le_trans Z0 E_499.1
  have f_500 := Sta.ext E_499 S_COMPACT_STRINGS
  have f_501 := Sta.ext E_499 S_DEFAULTCAPACITY_EMPTY_ELEMENTDATA
  have f_502 := A_de.ext E_499
  have f_503 := Sta.ext E_499 S_high
  have f_504 := Sta.ext E_499 S_cache
  have f_505 := A_ca.ext E_499
  have g_sf : n0 ≤ sf := by rw [g_499]; exact Z0
  have ne_de_sf : de ≠ sf := by rw [g_499]; exact Nat.ne_of_lt A_de.lt
  have ne_ca_sf : ca ≠ sf := by rw [g_499]; exact Nat.ne_of_lt A_ca.lt
  have F_coder__499 : Fld Z h_499 sf "java/lang/String" "coder" "B" (.int (0 : Int32)) := D_499 (Or.inr (w_27 hw)) (ty := .byte) (by decide)
  have F_value__499 : Fld Z h_499 sf "java/lang/String" "value" "[B" .null := D_499 (Or.inr (w_29 hw)) (ty := (.array .byte)) (by decide)
  refine o_dup X_499 K at_8 9 rfl rfl ?_
  refine o_iconst X_499 K (1 : Int32) at_9 10 rfl rfl ?_
  refine o_newarray X_499 K (n := 1) at_10 12 rfl (w_3 hw) e_499 (by decide) 1 (by decide) (by decide) (by decide) (by decide) rfl ?_
  intro T_506 h_506 fa g_506 X_506 e_506 E_506 A_506
  dsimp only [newarray.typeOf, defaultValue] at A_506
  have Z_506 : n0 ≤ h_506.size := Nat.le_trans Z_499 E_506.1
  have f_507 := Sta.ext E_506 f_500
  have f_508 := Sta.ext E_506 f_501
  have f_509 := f_502.ext E_506
  have f_510 := Sta.ext E_506 f_503
  have f_511 := Sta.ext E_506 f_504
  have f_512 := f_505.ext E_506
  have f_513 := Exa.ext E_506 B_499
  have f_514 := Fld.ext E_506 F_coder__499
  have f_515 := Fld.ext E_506 F_value__499
  have g_fa : n0 ≤ fa := by rw [g_506]; exact Z_499
  have ne_de_fa : de ≠ fa := by rw [g_506]; exact Nat.ne_of_lt f_502.lt
  have ne_ca_fa : ca ≠ fa := by rw [g_506]; exact Nat.ne_of_lt f_505.lt
  have ne_sf_fa : sf ≠ fa := by rw [g_506]; exact Nat.ne_of_lt B_499.lt
  refine o_dup X_506 K at_12 13 rfl rfl ?_
  refine o_iconst X_506 K (0 : Int32) at_13 14 rfl rfl ?_
  refine o_iloadN X_506 K at_14 15 rfl rfl ?_
  refine o_sipush X_506 K (255 : Int32) at_15 18 rfl rfl ?_
  refine o_iand X_506 K at_18 19 rfl ?_
  refine o_i2c X_506 K at_19 20 rfl ?_
  refine o_castore X_506 K (i := 0) (x' := ((p2 &&& (255 : Int32)).toUInt32.toUInt16.toUInt32.toInt32)) at_20 21 rfl e_506 A_506 (by decide) (by decide) (o_nc _) N0 g_fa ?_
  intro T_516 h_516 locs_516 X_516 e_516 W_516 A_516 N_516
  have Z_516 : n0 ≤ h_516.size := by rw [Wr.size W_516]; exact Z_506
  have f_517 := Sta.wr W_516 f_507
  have f_518 := Sta.wr W_516 f_508
  have f_519 := f_509.other W_516 ne_de_fa
  have f_520 := Sta.wr W_516 f_510
  have f_521 := Sta.wr W_516 f_511
  have f_522 := f_512.other W_516 ne_ca_fa
  have f_523 := Exa.wr W_516 f_513
  have f_524 := Fld.other W_516 f_514 (Or.inl ne_sf_fa)
  have f_525 := Fld.other W_516 f_515 (Or.inl ne_sf_fa)
  refine o_strinit X_516 K (cs := [((p2 &&& (255 : Int32)).toUInt32.toUInt16.toUInt32.toInt32)]) at_21 24 rfl (w_4 hw) (w_5 hw) (w_6 hw) (hws_ hw) (w_1 hw) e_516 Z_516 g_sf f_523 f_525 f_524 A_516 f_517 hcs rfl (fun j hj => by rcases (by omega : j = 0) with rfl <;> rfl) (by decide) (by decide) (o_all1 (o_and255 _)) rfl N_516 (by decide) 1 (Nat.le_of_eq rfl) (by decide) (by decide) (by decide) ?_
  intro T_526 h_526 locs_526 ft X_526 e_526 k_526 E_526 Fc_526 g_526 s_526 ne_ft_sf Fv_526 A_526 N_526
  have Z_526 : n0 ≤ h_526.size := Nat.le_trans Z_516 k_526.1
  have f_527 := f_519.keep k_526 (ninS ne_de_sf (nin0))
  have f_528 := f_522.keep k_526 (ninS ne_ca_sf (nin0))
  have f_529 := Exa.keep f_523 k_526
  have f_530 := A_516.keep k_526 (ninS (Ne.symm ne_sf_fa) (nin0))
  have f_531 := o_sta_keep f_517 k_526 (fun y_ hy_ cl_ hc_ => by rw [List.mem_singleton] at hy_; subst hy_; obtain ⟨c1_, -, d1_, -, -, d4_, -⟩ := f_523; cases hc_.symm.trans d1_; exact d4_)
  have f_532 := o_sta_keep f_518 k_526 (fun y_ hy_ cl_ hc_ => by rw [List.mem_singleton] at hy_; subst hy_; obtain ⟨c1_, -, d1_, -, -, d4_, -⟩ := f_523; cases hc_.symm.trans d1_; exact d4_)
  have f_533 := o_sta_keep f_520 k_526 (fun y_ hy_ cl_ hc_ => by rw [List.mem_singleton] at hy_; subst hy_; obtain ⟨c1_, -, d1_, -, -, d4_, -⟩ := f_523; cases hc_.symm.trans d1_; exact d4_)
  have f_534 := o_sta_keep f_521 k_526 (fun y_ hy_ cl_ hc_ => by rw [List.mem_singleton] at hy_; subst hy_; obtain ⟨c1_, -, d1_, -, -, d4_, -⟩ := f_523; cases hc_.symm.trans d1_; exact d4_)
  have ne_de_ft : de ≠ ft := Nat.ne_of_lt (Nat.lt_of_lt_of_le f_519.lt s_526)
  have ne_ca_ft : ca ≠ ft := Nat.ne_of_lt (Nat.lt_of_lt_of_le f_522.lt s_526)
  have ne_fa_ft : fa ≠ ft := Nat.ne_of_lt (Nat.lt_of_lt_of_le A_516.lt s_526)
  show OGo p e below _ n0 _ (T_526.setTop (mkF m 24 #[.val (.int p0), .val (.int p1), .val (.int p2), .val (.int p3), .val (.int k), .unset, .unset, .unset, .unset, .unset, .unset] [(.ref sf)]))
  refine o_astore X_526 K at_24 26 rfl #[.val (.int p0), .val (.int p1), .val (.int p2), .val (.int p3), .val (.int k), .val (.ref sf), .unset, .unset, .unset, .unset, .unset] rfl rfl ?_
  refine o_iloadN X_526 K at_26 27 rfl rfl ?_
  refine o_bipush X_526 K (8 : Int32) at_27 29 rfl rfl ?_
  refine o_iushr X_526 K at_29 30 rfl ?_
  refine o_sipush X_526 K (255 : Int32) at_30 33 rfl rfl ?_
  refine o_iand X_526 K at_33 34 rfl ?_
  refine o_i2c X_526 K at_34 35 rfl ?_
  refine o_invokestatic X_526 K at_35 38 rfl (w_30 hw) (w_31 hw) (w_2 hw) (w_32 hw) (by decide) [(.int ((((p2.toUInt32 >>> ((8 : Int32) &&& 31).toUInt32).toInt32) &&& (255 : Int32)).toUInt32.toUInt16.toUInt32.toInt32))] [] rfl  (c_sval l Z a0 hw n0 ((((p2.toUInt32 >>> ((8 : Int32) &&& 31).toUInt32).toInt32) &&& (255 : Int32)).toUInt32.toUInt16.toUInt32.toInt32) zcs h_526 Z_526 f_531 (hcs) (own_255 (o_and255 _).2)) e_526 rfl (lenOf pd__C_Ljava_lang_String_ rfl) (by decide) 0 (Nat.le_of_eq rfl) (by decide) (by decide) (by decide) N_526 ?_
  rintro _ T_535 h_535 locs_535 X_535 e_535 ⟨sv, rfl, k_535, gg_535_sx, sz_535_sx⟩ N_535
  have Z_535 : n0 ≤ h_535.size := Nat.le_trans Z_526 k_535.1
  have f_536 := f_527.keep k_535 (nin0)
  have f_537 := f_528.keep k_535 (nin0)
  have f_538 := o_sta_keep f_531 k_535 (o_plain0)
  have f_539 := o_sta_keep f_532 k_535 (o_plain0)
  have f_540 := o_sta_keep f_533 k_535 (o_plain0)
  have f_541 := o_sta_keep f_534 k_535 (o_plain0)
  have ne_de_sv : de ≠ sv := Nat.ne_of_lt (Nat.lt_of_lt_of_le f_527.lt sz_535_sx)
  have ne_ca_sv : ca ≠ sv := Nat.ne_of_lt (Nat.lt_of_lt_of_le f_528.lt sz_535_sx)
  show OGo p e below _ n0 _ (T_535.setTop (mkF m 38 #[.val (.int p0), .val (.int p1), .val (.int p2), .val (.int p3), .val (.int k), .val (.ref sf), .unset, .unset, .unset, .unset, .unset] [(.ref sv)]))
  refine o_astore X_535 K at_38 40 rfl #[.val (.int p0), .val (.int p1), .val (.int p2), .val (.int p3), .val (.int k), .val (.ref sf), .val (.ref sv), .unset, .unset, .unset, .unset] rfl rfl ?_
  refine o_new X_535 K at_40 43 rfl (w_0 hw) (w_1 hw) (w_2 hw) e_535 (by decide) (by decide) ?_
  intro T_542 h_542 sm g_542 X_542 e_542 E_542 B_542 D_542
  have Z_542 : n0 ≤ h_542.size := Nat.le_trans Z_535 E_542.1
  have f_543 := f_536.ext E_542
  have f_544 := f_537.ext E_542
  have f_545 := Sta.ext E_542 f_538
  have f_546 := Sta.ext E_542 f_539
  have f_547 := Sta.ext E_542 f_540
  have f_548 := Sta.ext E_542 f_541
  have g_sm : n0 ≤ sm := by rw [g_542]; exact Z_535
  have ne_de_sm : de ≠ sm := by rw [g_542]; exact Nat.ne_of_lt f_536.lt
  have ne_ca_sm : ca ≠ sm := by rw [g_542]; exact Nat.ne_of_lt f_537.lt
  have F_coder__542 : Fld Z h_542 sm "java/lang/String" "coder" "B" (.int (0 : Int32)) := D_542 (Or.inr (w_27 hw)) (ty := .byte) (by decide)
  have F_value__542 : Fld Z h_542 sm "java/lang/String" "value" "[B" .null := D_542 (Or.inr (w_29 hw)) (ty := (.array .byte)) (by decide)
  refine o_dup X_542 K at_43 44 rfl rfl ?_
  refine o_iconst X_542 K (2 : Int32) at_44 45 rfl rfl ?_
  refine o_newarray X_542 K (n := 2) at_45 47 rfl (w_3 hw) e_542 (by decide) 2 (by decide) (by decide) (by decide) (by decide) rfl ?_
  intro T_549 h_549 ma g_549 X_549 e_549 E_549 A_549
  dsimp only [newarray.typeOf, defaultValue] at A_549
  have Z_549 : n0 ≤ h_549.size := Nat.le_trans Z_542 E_549.1
  have f_550 := f_543.ext E_549
  have f_551 := f_544.ext E_549
  have f_552 := Sta.ext E_549 f_545
  have f_553 := Sta.ext E_549 f_546
  have f_554 := Sta.ext E_549 f_547
  have f_555 := Sta.ext E_549 f_548
  have f_556 := Exa.ext E_549 B_542
  have f_557 := Fld.ext E_549 F_coder__542
  have f_558 := Fld.ext E_549 F_value__542
  have g_ma : n0 ≤ ma := by rw [g_549]; exact Z_542
  have ne_de_ma : de ≠ ma := by rw [g_549]; exact Nat.ne_of_lt f_543.lt
  have ne_ca_ma : ca ≠ ma := by rw [g_549]; exact Nat.ne_of_lt f_544.lt
  have ne_sm_ma : sm ≠ ma := by rw [g_549]; exact Nat.ne_of_lt B_542.lt
  refine o_dup X_549 K at_47 48 rfl rfl ?_
  refine o_iconst X_549 K (0 : Int32) at_48 49 rfl rfl ?_
  refine o_iloadN X_549 K at_49 50 rfl rfl ?_
  refine o_bipush X_549 K (16 : Int32) at_50 52 rfl rfl ?_
  refine o_iushr X_549 K at_52 53 rfl ?_
  refine o_sipush X_549 K (255 : Int32) at_53 56 rfl rfl ?_
  refine o_iand X_549 K at_56 57 rfl ?_
  refine o_i2c X_549 K at_57 58 rfl ?_
  refine o_castore X_549 K (i := 0) (x' := ((((p2.toUInt32 >>> ((16 : Int32) &&& 31).toUInt32).toInt32) &&& (255 : Int32)).toUInt32.toUInt16.toUInt32.toInt32)) at_58 59 rfl e_549 A_549 (by decide) (by decide) (o_nc _) N_535 g_ma ?_
  intro T_559 h_559 locs_559 X_559 e_559 W_559 A_559 N_559
  have Z_559 : n0 ≤ h_559.size := by rw [Wr.size W_559]; exact Z_549
  have f_560 := f_550.other W_559 ne_de_ma
  have f_561 := f_551.other W_559 ne_ca_ma
  have f_562 := Sta.wr W_559 f_552
  have f_563 := Sta.wr W_559 f_553
  have f_564 := Sta.wr W_559 f_554
  have f_565 := Sta.wr W_559 f_555
  have f_566 := Exa.wr W_559 f_556
  have f_567 := Fld.other W_559 f_557 (Or.inl ne_sm_ma)
  have f_568 := Fld.other W_559 f_558 (Or.inl ne_sm_ma)
  refine o_dup X_559 K at_59 60 rfl rfl ?_
  refine o_iconst X_559 K (1 : Int32) at_60 61 rfl rfl ?_
  refine o_iloadN X_559 K at_61 62 rfl rfl ?_
  refine o_bipush X_559 K (24 : Int32) at_62 64 rfl rfl ?_
  refine o_iushr X_559 K at_64 65 rfl ?_
  refine o_sipush X_559 K (255 : Int32) at_65 68 rfl rfl ?_
  refine o_iand X_559 K at_68 69 rfl ?_
  refine o_i2c X_559 K at_69 70 rfl ?_
  refine o_castore X_559 K (i := 1) (x' := ((((p2.toUInt32 >>> ((24 : Int32) &&& 31).toUInt32).toInt32) &&& (255 : Int32)).toUInt32.toUInt16.toUInt32.toInt32)) at_70 71 rfl e_559 A_559 (by decide) (by decide) (o_nc _) N_559 g_ma ?_
  intro T_569 h_569 locs_569 X_569 e_569 W_569 A_569 N_569
  have Z_569 : n0 ≤ h_569.size := by rw [Wr.size W_569]; exact Z_559
  have f_570 := f_560.other W_569 ne_de_ma
  have f_571 := f_561.other W_569 ne_ca_ma
  have f_572 := Sta.wr W_569 f_562
  have f_573 := Sta.wr W_569 f_563
  have f_574 := Sta.wr W_569 f_564
  have f_575 := Sta.wr W_569 f_565
  have f_576 := Exa.wr W_569 f_566
  have f_577 := Fld.other W_569 f_567 (Or.inl ne_sm_ma)
  have f_578 := Fld.other W_569 f_568 (Or.inl ne_sm_ma)
  refine o_strinit X_569 K (cs := [((((p2.toUInt32 >>> ((16 : Int32) &&& 31).toUInt32).toInt32) &&& (255 : Int32)).toUInt32.toUInt16.toUInt32.toInt32), ((((p2.toUInt32 >>> ((24 : Int32) &&& 31).toUInt32).toInt32) &&& (255 : Int32)).toUInt32.toUInt16.toUInt32.toInt32)]) at_71 74 rfl (w_4 hw) (w_5 hw) (w_6 hw) (hws_ hw) (w_1 hw) e_569 Z_569 g_sm f_576 f_578 f_577 A_569 f_572 hcs rfl (fun j hj => by rcases (by omega : j = 0 ∨ j = 1) with rfl | rfl <;> rfl) (by decide) (by decide) (o_all2 (o_and255 _) (o_and255 _)) rfl N_569 (by decide) 1 (Nat.le_of_eq rfl) (by decide) (by decide) (by decide) ?_
  intro T_579 h_579 locs_579 mt X_579 e_579 k_579 E_579 Fc_579 g_579 s_579 ne_mt_sm Fv_579 A_579 N_579
  have Z_579 : n0 ≤ h_579.size := Nat.le_trans Z_569 k_579.1
  have f_580 := f_570.keep k_579 (ninS ne_de_sm (nin0))
  have f_581 := f_571.keep k_579 (ninS ne_ca_sm (nin0))
  have f_582 := Exa.keep f_576 k_579
  have f_583 := A_569.keep k_579 (ninS (Ne.symm ne_sm_ma) (nin0))
  have f_584 := o_sta_keep f_572 k_579 (fun y_ hy_ cl_ hc_ => by rw [List.mem_singleton] at hy_; subst hy_; obtain ⟨c1_, -, d1_, -, -, d4_, -⟩ := f_576; cases hc_.symm.trans d1_; exact d4_)
  have f_585 := o_sta_keep f_573 k_579 (fun y_ hy_ cl_ hc_ => by rw [List.mem_singleton] at hy_; subst hy_; obtain ⟨c1_, -, d1_, -, -, d4_, -⟩ := f_576; cases hc_.symm.trans d1_; exact d4_)
  have f_586 := o_sta_keep f_574 k_579 (fun y_ hy_ cl_ hc_ => by rw [List.mem_singleton] at hy_; subst hy_; obtain ⟨c1_, -, d1_, -, -, d4_, -⟩ := f_576; cases hc_.symm.trans d1_; exact d4_)
  have f_587 := o_sta_keep f_575 k_579 (fun y_ hy_ cl_ hc_ => by rw [List.mem_singleton] at hy_; subst hy_; obtain ⟨c1_, -, d1_, -, -, d4_, -⟩ := f_576; cases hc_.symm.trans d1_; exact d4_)
  have ne_de_mt : de ≠ mt := Nat.ne_of_lt (Nat.lt_of_lt_of_le f_570.lt s_579)
  have ne_ca_mt : ca ≠ mt := Nat.ne_of_lt (Nat.lt_of_lt_of_le f_571.lt s_579)
  have ne_ma_mt : ma ≠ mt := Nat.ne_of_lt (Nat.lt_of_lt_of_le A_569.lt s_579)
  show OGo p e below _ n0 _ (T_579.setTop (mkF m 74 #[.val (.int p0), .val (.int p1), .val (.int p2), .val (.int p3), .val (.int k), .val (.ref sf), .val (.ref sv), .unset, .unset, .unset, .unset] [(.ref sm)]))
  refine o_astore X_579 K at_74 76 rfl #[.val (.int p0), .val (.int p1), .val (.int p2), .val (.int p3), .val (.int k), .val (.ref sf), .val (.ref sv), .val (.ref sm), .unset, .unset, .unset] rfl rfl ?_
  refine o_new X_579 K at_76 79 rfl (w_44 hw) (w_45 hw) (w_46 hw) e_579 (by decide) (by decide) ?_
  intro T_588 h_588 pr g_588 X_588 e_588 E_588 B_588 D_588
  have Z_588 : n0 ≤ h_588.size := Nat.le_trans Z_579 E_588.1
  have f_589 := f_580.ext E_588
  have f_590 := f_581.ext E_588
  have f_591 := Sta.ext E_588 f_585
  have f_592 := Sta.ext E_588 f_586
  have f_593 := Sta.ext E_588 f_587
  have g_pr : n0 ≤ pr := by rw [g_588]; exact Z_579
  have ne_de_pr : de ≠ pr := by rw [g_588]; exact Nat.ne_of_lt f_580.lt
  have ne_ca_pr : ca ≠ pr := by rw [g_588]; exact Nat.ne_of_lt f_581.lt
  have F_listed__588 : Fld Z h_588 pr "com/example/outlet_to_office/outlettooffice/server/Problems" "listed" "Ljava/util/List;" .null := D_588 (Or.inr (w_76 hw)) (ty := (.object "java/util/List")) (by decide)
  have F_count__588 : Fld Z h_588 pr "com/example/outlet_to_office/outlettooffice/server/Problems" "count" "J" (.long (0 : Int64)) := D_588 (Or.inl (w_83 hw)) (ty := .long) (by decide)
  refine o_dup X_588 K at_79 80 rfl rfl ?_
  refine o_invokespecial X_588 K at_80 83 rfl rfl (w_47 hw) (w_48 hw) (w_46 hw) (w_49 hw) (by decide) [] [(.ref pr)] rfl  (c_prinit l Z a0 hw n0 pr de h_588 Z_588 f_591 B_588 F_listed__588 F_count__588 g_pr) e_588 rfl (lenOf pd___V rfl) (by decide) 1 (Nat.le_of_eq rfl) (by decide) (by decide) (by decide) N_579 ?_
  rintro _ T_594 h_594 locs_594 X_594 e_594 ⟨li, rfl, k_594, gg_594_li, sz_594_li, p_594f0, p_594f1, p_594f2, p_594f3, p_594f4, p_594f5, p_594f6⟩ N_594
  have Z_594 : n0 ≤ h_594.size := Nat.le_trans Z_588 k_594.1
  have f_595 := f_589.keep k_594 (ninS ne_de_pr (nin0))
  have f_596 := f_590.keep k_594 (ninS ne_ca_pr (nin0))
  have f_597 := o_sta_keep f_591 k_594 (o_plainS B_588 (o_plain0))
  have f_598 := o_sta_keep f_592 k_594 (o_plainS B_588 (o_plain0))
  have f_599 := o_sta_keep f_593 k_594 (o_plainS B_588 (o_plain0))
  have f_600 := Exa.keep B_588 k_594
  have ne_de_li : de ≠ li := Nat.ne_of_lt (Nat.lt_of_lt_of_le f_589.lt sz_594_li)
  have ne_ca_li : ca ≠ li := Nat.ne_of_lt (Nat.lt_of_lt_of_le f_590.lt sz_594_li)
  have ne_pr_li : pr ≠ li := Nat.ne_of_lt (Nat.lt_of_lt_of_le B_588.lt sz_594_li)
  show OGo p e below _ n0 _ (T_594.setTop (mkF m 83 #[.val (.int p0), .val (.int p1), .val (.int p2), .val (.int p3), .val (.int k), .val (.ref sf), .val (.ref sv), .val (.ref sm), .unset, .unset, .unset] [(.ref pr)]))
  refine o_astore X_594 K at_83 85 rfl #[.val (.int p0), .val (.int p1), .val (.int p2), .val (.int p3), .val (.int k), .val (.ref sf), .val (.ref sv), .val (.ref sm), .val (.ref pr), .unset, .unset] rfl rfl ?_
  refine o_aload X_594 K at_85 87 rfl rfl rfl ?_
  refine o_invokevirtual X_594 K at_87 90 rfl (w_77 hw) (w_78 hw) (w_80 hw) (w_79 hw) (w_46 hw) (w_81 hw) (by decide) p_594f0 [] [] rfl  (c_isE l Z a0 hw n0 pr (0 : Int64) h_594 Z_594 p_594f2 (rfl)) e_594 rfl (lenOf pd___Z rfl) (by decide) 0 (Nat.le_of_eq rfl) (by decide) (by decide) (by decide) N_594 ?_
  rintro _ T_601 h_601 locs_601 X_601 q_601 ⟨rfl, r_601⟩ N_601
  have e_601 := q_601.trans r_601
  show OGo p e below _ n0 _ (T_601.setTop (mkF m 90 #[.val (.int p0), .val (.int p1), .val (.int p2), .val (.int p3), .val (.int k), .val (.ref sf), .val (.ref sv), .val (.ref sm), .val (.ref pr), .unset, .unset] [(.int (1 : Int32))]))
  refine o_istore X_601 K at_90 92 rfl #[.val (.int p0), .val (.int p1), .val (.int p2), .val (.int p3), .val (.int k), .val (.ref sf), .val (.ref sv), .val (.ref sm), .val (.ref pr), .val (.int (1 : Int32)), .unset] rfl rfl ?_
  refine o_iload X_601 K at_92 94 rfl rfl ?_
  refine o_iconst X_601 K (1 : Int32) at_94 95 rfl rfl ?_
  refine o_icmp_lt X_601 K at_95 137 (by decide) (by decide) 98 rfl (fun hc95 => ?_) (fun hc95 => ?_)
  · refine o_iload X_601 K at_137 139 rfl rfl ?_
    refine o_iconst X_601 K (2 : Int32) at_139 140 rfl rfl ?_
    refine o_icmp_lt_t X_601 K at_140 184 (by decide) (by decide) (by omega) ?_
    refine o_iload X_601 K at_184 186 rfl rfl ?_
    refine o_iconst X_601 K (3 : Int32) at_186 187 rfl rfl ?_
    refine o_icmp_lt_t X_601 K at_187 231 (by decide) (by decide) (by omega) ?_
    refine o_aload X_601 K at_231 233 rfl rfl rfl ?_
    refine o_invokevirtual X_601 K at_233 236 rfl (w_77 hw) (w_78 hw) (w_80 hw) (w_79 hw) (w_46 hw) (w_81 hw) (by decide) p_594f0 [] [] rfl  (c_isE l Z a0 hw n0 pr (0 : Int64) h_594 Z_594 p_594f2 (rfl)) e_601 rfl (lenOf pd___Z rfl) (by decide) 0 (Nat.le_of_eq rfl) (by decide) (by decide) (by decide) N_601 ?_
    rintro _ T_602 h_602 locs_602 X_602 q_602 ⟨rfl, r_602⟩ N_602
    have e_602 := q_602.trans r_602
    show OGo p e below _ n0 _ (T_602.setTop (mkF m 236 #[.val (.int p0), .val (.int p1), .val (.int p2), .val (.int p3), .val (.int k), .val (.ref sf), .val (.ref sv), .val (.ref sm), .val (.ref pr), .val (.int (1 : Int32)), .unset] [(.int (1 : Int32))]))
    refine o_istore X_602 K at_236 238 rfl #[.val (.int p0), .val (.int p1), .val (.int p2), .val (.int p3), .val (.int k), .val (.ref sf), .val (.ref sv), .val (.ref sm), .val (.ref pr), .val (.int (1 : Int32)), .val (.int (1 : Int32))] rfl rfl ?_
    refine o_iload X_602 K at_238 240 rfl rfl ?_
    refine o_if_eq_f X_602 K at_240 243 rfl (by decide) ?_
    refine o_iload X_602 K at_243 245 rfl rfl ?_
    refine o_iload X_602 K at_245 247 rfl rfl ?_
    refine o_if_ne_f X_602 K at_247 250 rfl (Int32.toInt_inj.mp (by omega)) ?_
    refine o_iconst X_602 K (1 : Int32) at_250 251 rfl rfl ?_
    refine o_goto X_602 K at_251 255 (by decide) (by decide) ?_
    refine o_icmp_ne_f X_602 K at_255 258 rfl (by decide) ?_
    refine o_iconst X_602 K (1 : Int32) at_258 259 rfl rfl ?_
    refine o_goto X_602 K at_259 263 (by decide) (by decide) ?_
    refine o_ireturnN X_602 K (by decide) at_263 (by decide) (by decide) N_602 ?_
    exact rfl
  · refine o_aload X_601 K at_98 100 rfl rfl rfl ?_
    refine o_iloadN X_601 K at_100 101 rfl rfl ?_
    refine o_iconst X_601 K (1 : Int32) at_101 102 rfl rfl ?_
    refine o_iand X_601 K at_102 103 rfl ?_
    refine o_aload X_601 K at_103 105 rfl rfl rfl ?_
    refine o_aload X_601 K at_105 107 rfl rfl rfl ?_
    refine o_aload X_601 K at_107 109 rfl rfl rfl ?_
    refine o_iloadN X_601 K at_109 110 rfl rfl ?_
    refine o_invokestatic X_601 K at_110 113 rfl (w_84 hw) (w_85 hw) (w_86 hw) (w_87 hw) (by decide) [(.ref pr), (.int (p1 &&& (1 : Int32))), (.ref sf), (.ref sv), (.ref sm), (.int p3)] [] rfl  (c_laddA l Z a0 hw n0 pr li sf sv sm de ca (0 : Int64) p3 (p1 &&& (1 : Int32)) cf h_594 Z_594 f_597 f_595 f_598 f_599 f_596 p_594f0 p_594f1 p_594f2 g_pr p_594f3 p_594f4 p_594f5 p_594f6 gg_594_li ne_pr_li ne_de_pr ne_de_li ne_ca_pr ne_ca_li) e_601 rfl (lenOf pd__Lcom_example_outlet_to_office_outlettooffice_server_Problems_ILjava_lang_String_Ljava_lang_String_Ljava_lang_String_I_V rfl) (by decide) 0 (Nat.le_of_eq rfl) (by decide) (by decide) (by decide) N_601 ?_
    rintro _ T_603 h_603 locs_603 X_603 e_603 ⟨nd, rfl, k_603, gg_603_nd, sz_603_nd, p_603f0, p_603f1, p_603f2, p_603f3, p_603f4, p_603f5, p_603f6, p_603f7⟩ N_603
    have Z_603 : n0 ≤ h_603.size := Nat.le_trans Z_594 k_603.1
    have f_604 := f_595.keep k_603 (ninS ne_de_pr (ninS ne_de_li (nin0)))
    have f_605 := f_596.keep k_603 (ninS ne_ca_pr (ninS ne_ca_li (nin0)))
    have f_606 := o_sta_keep f_597 k_603 (o_plainS p_594f0 (o_plainS p_594f3 (o_plain0)))
    have f_607 := o_sta_keep f_598 k_603 (o_plainS p_594f0 (o_plainS p_594f3 (o_plain0)))
    have f_608 := o_sta_keep f_599 k_603 (o_plainS p_594f0 (o_plainS p_594f3 (o_plain0)))
    have f_609 := Exa.keep p_594f0 k_603
    have f_610 := Exa.keep p_594f3 k_603
    have ne_de_nd : de ≠ nd := Nat.ne_of_lt (Nat.lt_of_lt_of_le f_595.lt sz_603_nd)
    have ne_ca_nd : ca ≠ nd := Nat.ne_of_lt (Nat.lt_of_lt_of_le f_596.lt sz_603_nd)
    have ne_pr_nd : pr ≠ nd := Nat.ne_of_lt (Nat.lt_of_lt_of_le p_594f0.lt sz_603_nd)
    have ne_li_nd : li ≠ nd := Nat.ne_of_lt (Nat.lt_of_lt_of_le p_594f3.lt sz_603_nd)
    show OGo p e below _ n0 _ (T_603.setTop (mkF m 113 #[.val (.int p0), .val (.int p1), .val (.int p2), .val (.int p3), .val (.int k), .val (.ref sf), .val (.ref sv), .val (.ref sm), .val (.ref pr), .val (.int (1 : Int32)), .unset] []))
    refine o_aload X_603 K at_113 115 rfl rfl rfl ?_
    refine o_invokevirtual X_603 K at_115 118 rfl (w_77 hw) (w_78 hw) (w_80 hw) (w_79 hw) (w_46 hw) (w_81 hw) (by decide) p_603f0 [] [] rfl  (c_isN l Z a0 hw n0 pr ((0 : Int64) + (1 : Int64)) h_603 Z_603 p_603f2 (by decide)) e_603 rfl (lenOf pd___Z rfl) (by decide) 0 (Nat.le_of_eq rfl) (by decide) (by decide) (by decide) N_603 ?_
    rintro _ T_611 h_611 locs_611 X_611 q_611 ⟨rfl, r_611⟩ N_611
    have e_611 := q_611.trans r_611
    show OGo p e below _ n0 _ (T_611.setTop (mkF m 118 #[.val (.int p0), .val (.int p1), .val (.int p2), .val (.int p3), .val (.int k), .val (.ref sf), .val (.ref sv), .val (.ref sm), .val (.ref pr), .val (.int (1 : Int32)), .unset] [(.int (0 : Int32))]))
    refine o_istore X_611 K at_118 120 rfl #[.val (.int p0), .val (.int p1), .val (.int p2), .val (.int p3), .val (.int k), .val (.ref sf), .val (.ref sv), .val (.ref sm), .val (.ref pr), .val (.int (1 : Int32)), .val (.int (0 : Int32))] rfl rfl ?_
    refine o_iload X_611 K at_120 122 rfl rfl ?_
    refine o_if_eq_f X_611 K at_122 125 rfl (by decide) ?_
    refine o_iload X_611 K at_125 127 rfl rfl ?_
    refine o_if_ne_f X_611 K at_127 130 rfl (by decide) ?_
    refine o_iconst X_611 K (1 : Int32) at_130 131 rfl rfl ?_
    refine o_goto X_611 K at_131 135 (by decide) (by decide) ?_
    refine o_istore X_611 K at_135 137 rfl #[.val (.int p0), .val (.int p1), .val (.int p2), .val (.int p3), .val (.int k), .val (.ref sf), .val (.ref sv), .val (.ref sm), .val (.ref pr), .val (.int (1 : Int32)), .val (.int (0 : Int32))] rfl rfl ?_
    refine o_iload X_611 K at_137 139 rfl rfl ?_
    refine o_iconst X_611 K (2 : Int32) at_139 140 rfl rfl ?_
    refine o_icmp_lt X_611 K at_140 184 (by decide) (by decide) 143 rfl (fun hc140 => ?_) (fun hc140 => ?_)
    · refine o_iload X_611 K at_184 186 rfl rfl ?_
      refine o_iconst X_611 K (3 : Int32) at_186 187 rfl rfl ?_
      refine o_icmp_lt_t X_611 K at_187 231 (by decide) (by decide) (by omega) ?_
      refine o_aload X_611 K at_231 233 rfl rfl rfl ?_
      refine o_invokevirtual X_611 K at_233 236 rfl (w_77 hw) (w_78 hw) (w_80 hw) (w_79 hw) (w_46 hw) (w_81 hw) (by decide) p_603f0 [] [] rfl  (c_isN l Z a0 hw n0 pr ((0 : Int64) + (1 : Int64)) h_603 Z_603 p_603f2 (by decide)) e_611 rfl (lenOf pd___Z rfl) (by decide) 0 (Nat.le_of_eq rfl) (by decide) (by decide) (by decide) N_611 ?_
      rintro _ T_612 h_612 locs_612 X_612 q_612 ⟨rfl, r_612⟩ N_612
      have e_612 := q_612.trans r_612
      show OGo p e below _ n0 _ (T_612.setTop (mkF m 236 #[.val (.int p0), .val (.int p1), .val (.int p2), .val (.int p3), .val (.int k), .val (.ref sf), .val (.ref sv), .val (.ref sm), .val (.ref pr), .val (.int (1 : Int32)), .val (.int (0 : Int32))] [(.int (0 : Int32))]))
      refine o_istore X_612 K at_236 238 rfl #[.val (.int p0), .val (.int p1), .val (.int p2), .val (.int p3), .val (.int k), .val (.ref sf), .val (.ref sv), .val (.ref sm), .val (.ref pr), .val (.int (1 : Int32)), .val (.int (0 : Int32))] rfl rfl ?_
      refine o_iload X_612 K at_238 240 rfl rfl ?_
      refine o_if_eq_f X_612 K at_240 243 rfl (by decide) ?_
      refine o_iload X_612 K at_243 245 rfl rfl ?_
      refine o_iload X_612 K at_245 247 rfl rfl ?_
      refine o_if_ne_t X_612 K at_247 254 (by decide) (by decide) (fun q => by have q_ := congrArg Int32.toInt q; omega) ?_
      refine o_iconst X_612 K (0 : Int32) at_254 255 rfl rfl ?_
      refine o_icmp_ne_f X_612 K at_255 258 rfl (by decide) ?_
      refine o_iconst X_612 K (1 : Int32) at_258 259 rfl rfl ?_
      refine o_goto X_612 K at_259 263 (by decide) (by decide) ?_
      refine o_ireturnN X_612 K (by decide) at_263 (by decide) (by decide) N_612 ?_
      exact rfl
    · refine o_aload X_611 K at_143 145 rfl rfl rfl ?_
      refine o_iloadN X_611 K at_145 146 rfl rfl ?_
      refine o_iconst X_611 K (1 : Int32) at_146 147 rfl rfl ?_
      refine o_iushr X_611 K at_147 148 rfl ?_
      refine o_iconst X_611 K (1 : Int32) at_148 149 rfl rfl ?_
      refine o_iand X_611 K at_149 150 rfl ?_
      refine o_aload X_611 K at_150 152 rfl rfl rfl ?_
      refine o_aload X_611 K at_152 154 rfl rfl rfl ?_
      refine o_aload X_611 K at_154 156 rfl rfl rfl ?_
      refine o_iloadN X_611 K at_156 157 rfl rfl ?_
      refine o_invokestatic X_611 K at_157 160 rfl (w_84 hw) (w_85 hw) (w_86 hw) (w_87 hw) (by decide) [(.ref pr), (.int (((p1.toUInt32 >>> ((1 : Int32) &&& 31).toUInt32).toInt32) &&& (1 : Int32))), (.ref sm), (.ref sf), (.ref sv), (.int p3)] [] rfl  (c_laddB l Z a0 hw n0 pr li sm sf sv nd ca ((0 : Int64) + (1 : Int64)) ((0 : Int32) + (1 : Int32)) ((0 : Int32) + (1 : Int32)) p3 (((p1.toUInt32 >>> ((1 : Int32) &&& 31).toUInt32).toInt32) &&& (1 : Int32)) cf h_603 Z_603 f_607 f_608 f_605 p_603f0 p_603f1 p_603f2 g_pr p_603f3 p_603f4 p_603f5 p_603f6 gg_594_li ne_pr_li p_603f7 gg_603_nd (Ne.symm ne_pr_nd) (Ne.symm ne_li_nd) (by decide) ne_ca_pr ne_ca_li ne_ca_nd) e_611 rfl (lenOf pd__Lcom_example_outlet_to_office_outlettooffice_server_Problems_ILjava_lang_String_Ljava_lang_String_Ljava_lang_String_I_V rfl) (by decide) 0 (Nat.le_of_eq rfl) (by decide) (by decide) (by decide) N_611 ?_
      rintro _ T_613 h_613 locs_613 X_613 e_613 ⟨rfl, k_613, p_613f0, p_613f1, p_613f2, p_613f3, p_613f4, p_613f5, p_613f6, p_613f7⟩ N_613
      have Z_613 : n0 ≤ h_613.size := Nat.le_trans Z_603 k_613.1
      have f_614 := f_604.keep k_613 (ninS ne_de_pr (ninS ne_de_li (ninS ne_de_nd (nin0))))
      have f_615 := f_605.keep k_613 (ninS ne_ca_pr (ninS ne_ca_li (ninS ne_ca_nd (nin0))))
      have f_616 := o_sta_keep f_606 k_613 (o_plainS p_603f0 (o_plainS p_603f3 (o_plainA p_603f7 (o_plain0))))
      have f_617 := o_sta_keep f_607 k_613 (o_plainS p_603f0 (o_plainS p_603f3 (o_plainA p_603f7 (o_plain0))))
      have f_618 := o_sta_keep f_608 k_613 (o_plainS p_603f0 (o_plainS p_603f3 (o_plainA p_603f7 (o_plain0))))
      have f_619 := Exa.keep p_603f0 k_613
      have f_620 := Exa.keep p_603f3 k_613
      show OGo p e below _ n0 _ (T_613.setTop (mkF m 160 #[.val (.int p0), .val (.int p1), .val (.int p2), .val (.int p3), .val (.int k), .val (.ref sf), .val (.ref sv), .val (.ref sm), .val (.ref pr), .val (.int (1 : Int32)), .val (.int (0 : Int32))] []))
      refine o_aload X_613 K at_160 162 rfl rfl rfl ?_
      refine o_invokevirtual X_613 K at_162 165 rfl (w_77 hw) (w_78 hw) (w_80 hw) (w_79 hw) (w_46 hw) (w_81 hw) (by decide) p_613f0 [] [] rfl  (c_isN l Z a0 hw n0 pr (((0 : Int64) + (1 : Int64)) + (1 : Int64)) h_613 Z_613 p_613f2 (by decide)) e_613 rfl (lenOf pd___Z rfl) (by decide) 0 (Nat.le_of_eq rfl) (by decide) (by decide) (by decide) N_613 ?_
      rintro _ T_621 h_621 locs_621 X_621 q_621 ⟨rfl, r_621⟩ N_621
      have e_621 := q_621.trans r_621
      show OGo p e below _ n0 _ (T_621.setTop (mkF m 165 #[.val (.int p0), .val (.int p1), .val (.int p2), .val (.int p3), .val (.int k), .val (.ref sf), .val (.ref sv), .val (.ref sm), .val (.ref pr), .val (.int (1 : Int32)), .val (.int (0 : Int32))] [(.int (0 : Int32))]))
      refine o_istore X_621 K at_165 167 rfl #[.val (.int p0), .val (.int p1), .val (.int p2), .val (.int p3), .val (.int k), .val (.ref sf), .val (.ref sv), .val (.ref sm), .val (.ref pr), .val (.int (1 : Int32)), .val (.int (0 : Int32))] rfl rfl ?_
      refine o_iload X_621 K at_167 169 rfl rfl ?_
      refine o_if_eq_f X_621 K at_169 172 rfl (by decide) ?_
      refine o_iload X_621 K at_172 174 rfl rfl ?_
      refine o_if_ne_f X_621 K at_174 177 rfl (by decide) ?_
      refine o_iconst X_621 K (1 : Int32) at_177 178 rfl rfl ?_
      refine o_goto X_621 K at_178 182 (by decide) (by decide) ?_
      refine o_istore X_621 K at_182 184 rfl #[.val (.int p0), .val (.int p1), .val (.int p2), .val (.int p3), .val (.int k), .val (.ref sf), .val (.ref sv), .val (.ref sm), .val (.ref pr), .val (.int (1 : Int32)), .val (.int (0 : Int32))] rfl rfl ?_
      refine o_iload X_621 K at_184 186 rfl rfl ?_
      refine o_iconst X_621 K (3 : Int32) at_186 187 rfl rfl ?_
      refine o_icmp_lt X_621 K at_187 231 (by decide) (by decide) 190 rfl (fun hc187 => ?_) (fun hc187 => ?_)
      · refine o_aload X_621 K at_231 233 rfl rfl rfl ?_
        refine o_invokevirtual X_621 K at_233 236 rfl (w_77 hw) (w_78 hw) (w_80 hw) (w_79 hw) (w_46 hw) (w_81 hw) (by decide) p_613f0 [] [] rfl  (c_isN l Z a0 hw n0 pr (((0 : Int64) + (1 : Int64)) + (1 : Int64)) h_613 Z_613 p_613f2 (by decide)) e_621 rfl (lenOf pd___Z rfl) (by decide) 0 (Nat.le_of_eq rfl) (by decide) (by decide) (by decide) N_621 ?_
        rintro _ T_622 h_622 locs_622 X_622 q_622 ⟨rfl, r_622⟩ N_622
        have e_622 := q_622.trans r_622
        show OGo p e below _ n0 _ (T_622.setTop (mkF m 236 #[.val (.int p0), .val (.int p1), .val (.int p2), .val (.int p3), .val (.int k), .val (.ref sf), .val (.ref sv), .val (.ref sm), .val (.ref pr), .val (.int (1 : Int32)), .val (.int (0 : Int32))] [(.int (0 : Int32))]))
        refine o_istore X_622 K at_236 238 rfl #[.val (.int p0), .val (.int p1), .val (.int p2), .val (.int p3), .val (.int k), .val (.ref sf), .val (.ref sv), .val (.ref sm), .val (.ref pr), .val (.int (1 : Int32)), .val (.int (0 : Int32))] rfl rfl ?_
        refine o_iload X_622 K at_238 240 rfl rfl ?_
        refine o_if_eq_f X_622 K at_240 243 rfl (by decide) ?_
        refine o_iload X_622 K at_243 245 rfl rfl ?_
        refine o_iload X_622 K at_245 247 rfl rfl ?_
        refine o_if_ne_t X_622 K at_247 254 (by decide) (by decide) (fun q => by have q_ := congrArg Int32.toInt q; omega) ?_
        refine o_iconst X_622 K (0 : Int32) at_254 255 rfl rfl ?_
        refine o_icmp_ne_f X_622 K at_255 258 rfl (by decide) ?_
        refine o_iconst X_622 K (1 : Int32) at_258 259 rfl rfl ?_
        refine o_goto X_622 K at_259 263 (by decide) (by decide) ?_
        refine o_ireturnN X_622 K (by decide) at_263 (by decide) (by decide) N_622 ?_
        exact rfl
      · refine o_aload X_621 K at_190 192 rfl rfl rfl ?_
        refine o_iloadN X_621 K at_192 193 rfl rfl ?_
        refine o_iconst X_621 K (2 : Int32) at_193 194 rfl rfl ?_
        refine o_iushr X_621 K at_194 195 rfl ?_
        refine o_iconst X_621 K (1 : Int32) at_195 196 rfl rfl ?_
        refine o_iand X_621 K at_196 197 rfl ?_
        refine o_aload X_621 K at_197 199 rfl rfl rfl ?_
        refine o_aload X_621 K at_199 201 rfl rfl rfl ?_
        refine o_aload X_621 K at_201 203 rfl rfl rfl ?_
        refine o_iloadN X_621 K at_203 204 rfl rfl ?_
        refine o_invokestatic X_621 K at_204 207 rfl (w_84 hw) (w_85 hw) (w_86 hw) (w_87 hw) (by decide) [(.ref pr), (.int (((p1.toUInt32 >>> ((2 : Int32) &&& 31).toUInt32).toInt32) &&& (1 : Int32))), (.ref sv), (.ref sm), (.ref sf), (.int p3)] [] rfl  (c_laddB l Z a0 hw n0 pr li sv sm sf nd ca (((0 : Int64) + (1 : Int64)) + (1 : Int64)) (((0 : Int32) + (1 : Int32)) + (1 : Int32)) (((0 : Int32) + (1 : Int32)) + (1 : Int32)) p3 (((p1.toUInt32 >>> ((2 : Int32) &&& 31).toUInt32).toInt32) &&& (1 : Int32)) cf h_613 Z_613 f_617 f_618 f_615 p_613f0 p_613f1 p_613f2 g_pr p_613f3 p_613f4 p_613f5 p_613f6 gg_594_li ne_pr_li p_613f7 gg_603_nd (Ne.symm ne_pr_nd) (Ne.symm ne_li_nd) (by decide) ne_ca_pr ne_ca_li ne_ca_nd) e_621 rfl (lenOf pd__Lcom_example_outlet_to_office_outlettooffice_server_Problems_ILjava_lang_String_Ljava_lang_String_Ljava_lang_String_I_V rfl) (by decide) 0 (Nat.le_of_eq rfl) (by decide) (by decide) (by decide) N_621 ?_
        rintro _ T_623 h_623 locs_623 X_623 e_623 ⟨rfl, k_623, p_623f0, p_623f1, p_623f2, p_623f3, p_623f4, p_623f5, p_623f6, p_623f7⟩ N_623
        have Z_623 : n0 ≤ h_623.size := Nat.le_trans Z_613 k_623.1
        have f_624 := f_614.keep k_623 (ninS ne_de_pr (ninS ne_de_li (ninS ne_de_nd (nin0))))
        have f_625 := f_615.keep k_623 (ninS ne_ca_pr (ninS ne_ca_li (ninS ne_ca_nd (nin0))))
        have f_626 := o_sta_keep f_616 k_623 (o_plainS p_613f0 (o_plainS p_613f3 (o_plainA p_613f7 (o_plain0))))
        have f_627 := o_sta_keep f_617 k_623 (o_plainS p_613f0 (o_plainS p_613f3 (o_plainA p_613f7 (o_plain0))))
        have f_628 := o_sta_keep f_618 k_623 (o_plainS p_613f0 (o_plainS p_613f3 (o_plainA p_613f7 (o_plain0))))
        have f_629 := Exa.keep p_613f0 k_623
        have f_630 := Exa.keep p_613f3 k_623
        show OGo p e below _ n0 _ (T_623.setTop (mkF m 207 #[.val (.int p0), .val (.int p1), .val (.int p2), .val (.int p3), .val (.int k), .val (.ref sf), .val (.ref sv), .val (.ref sm), .val (.ref pr), .val (.int (1 : Int32)), .val (.int (0 : Int32))] []))
        refine o_aload X_623 K at_207 209 rfl rfl rfl ?_
        refine o_invokevirtual X_623 K at_209 212 rfl (w_77 hw) (w_78 hw) (w_80 hw) (w_79 hw) (w_46 hw) (w_81 hw) (by decide) p_623f0 [] [] rfl  (c_isN l Z a0 hw n0 pr ((((0 : Int64) + (1 : Int64)) + (1 : Int64)) + (1 : Int64)) h_623 Z_623 p_623f2 (by decide)) e_623 rfl (lenOf pd___Z rfl) (by decide) 0 (Nat.le_of_eq rfl) (by decide) (by decide) (by decide) N_623 ?_
        rintro _ T_631 h_631 locs_631 X_631 q_631 ⟨rfl, r_631⟩ N_631
        have e_631 := q_631.trans r_631
        show OGo p e below _ n0 _ (T_631.setTop (mkF m 212 #[.val (.int p0), .val (.int p1), .val (.int p2), .val (.int p3), .val (.int k), .val (.ref sf), .val (.ref sv), .val (.ref sm), .val (.ref pr), .val (.int (1 : Int32)), .val (.int (0 : Int32))] [(.int (0 : Int32))]))
        refine o_istore X_631 K at_212 214 rfl #[.val (.int p0), .val (.int p1), .val (.int p2), .val (.int p3), .val (.int k), .val (.ref sf), .val (.ref sv), .val (.ref sm), .val (.ref pr), .val (.int (1 : Int32)), .val (.int (0 : Int32))] rfl rfl ?_
        refine o_iload X_631 K at_214 216 rfl rfl ?_
        refine o_if_eq_f X_631 K at_216 219 rfl (by decide) ?_
        refine o_iload X_631 K at_219 221 rfl rfl ?_
        refine o_if_ne_f X_631 K at_221 224 rfl (by decide) ?_
        refine o_iconst X_631 K (1 : Int32) at_224 225 rfl rfl ?_
        refine o_goto X_631 K at_225 229 (by decide) (by decide) ?_
        refine o_istore X_631 K at_229 231 rfl #[.val (.int p0), .val (.int p1), .val (.int p2), .val (.int p3), .val (.int k), .val (.ref sf), .val (.ref sv), .val (.ref sm), .val (.ref pr), .val (.int (1 : Int32)), .val (.int (0 : Int32))] rfl rfl ?_
        refine o_aload X_631 K at_231 233 rfl rfl rfl ?_
        refine o_invokevirtual X_631 K at_233 236 rfl (w_77 hw) (w_78 hw) (w_80 hw) (w_79 hw) (w_46 hw) (w_81 hw) (by decide) p_623f0 [] [] rfl  (c_isN l Z a0 hw n0 pr ((((0 : Int64) + (1 : Int64)) + (1 : Int64)) + (1 : Int64)) h_623 Z_623 p_623f2 (by decide)) e_631 rfl (lenOf pd___Z rfl) (by decide) 0 (Nat.le_of_eq rfl) (by decide) (by decide) (by decide) N_631 ?_
        rintro _ T_632 h_632 locs_632 X_632 q_632 ⟨rfl, r_632⟩ N_632
        have e_632 := q_632.trans r_632
        show OGo p e below _ n0 _ (T_632.setTop (mkF m 236 #[.val (.int p0), .val (.int p1), .val (.int p2), .val (.int p3), .val (.int k), .val (.ref sf), .val (.ref sv), .val (.ref sm), .val (.ref pr), .val (.int (1 : Int32)), .val (.int (0 : Int32))] [(.int (0 : Int32))]))
        refine o_istore X_632 K at_236 238 rfl #[.val (.int p0), .val (.int p1), .val (.int p2), .val (.int p3), .val (.int k), .val (.ref sf), .val (.ref sv), .val (.ref sm), .val (.ref pr), .val (.int (1 : Int32)), .val (.int (0 : Int32))] rfl rfl ?_
        refine o_iload X_632 K at_238 240 rfl rfl ?_
        refine o_if_eq_f X_632 K at_240 243 rfl (by decide) ?_
        refine o_iload X_632 K at_243 245 rfl rfl ?_
        refine o_iload X_632 K at_245 247 rfl rfl ?_
        refine o_if_ne_t X_632 K at_247 254 (by decide) (by decide) (fun q => by have q_ := congrArg Int32.toInt q; omega) ?_
        refine o_iconst X_632 K (0 : Int32) at_254 255 rfl rfl ?_
        refine o_icmp_ne_f X_632 K at_255 258 rfl (by decide) ?_
        refine o_iconst X_632 K (1 : Int32) at_258 259 rfl rfl ?_
        refine o_goto X_632 K at_259 263 (by decide) (by decide) ?_
        refine o_ireturnN X_632 K (by decide) at_263 (by decide) (by decide) N_632 ?_
        exact rfl
theorem own_lenq {args : Array Value} {s : State} {t : Term} {x : Addr} {c : Cell} {k : Int32} {ty : FieldType} (ht : t.eval args s none [] s = some (.ref x)) (A : Arr s s.heap x c ty) (h : (Jvm.Cond.eq (.length t) (.int k)).value args s none s [] = some true) : c.slots.size < 2147483648 ∧ c.slots.size.toInt32 = k := by
  obtain ⟨u, v, hu, hv, -, -⟩ := cmp_v (Or.inl h)
  rw [Term.int_eval] at hv
  cases hv
  have ha := A.fin (Vm.Alike.refl _)
  have hu' := hu
  simp only [Term.eval, ht, ha, Option.bind_eq_bind, Option.bind_some] at hu'
  split at hu'
  · rename_i q
    cases hu'
    simp only [Cond.value, hu, Term.int_eval] at h
    simp at h
    exact ⟨q, h⟩
  · cases hu'
theorem own_oar {args : Array Value} {s : State} {t : Term} {x : Addr} {k : Int32} {n : Nat} {ty : FieldType} (hf : Fit s) (ht : t.eval args s none [] s = some (.ref x)) (h1 : (Cond.arrayOf t ty).value args s none s [] = some true) (h2 : (Jvm.Cond.eq (.length t) (.int k)).value args s none s [] = some true) (hk : k.toInt = (n : Int)) : ∃ f, OAr s s.heap x ty n f := by
  obtain ⟨c, A⟩ := Arr.start ht h1
  obtain ⟨q1, q2⟩ := own_lenq ht A h2
  have q3 : c.slots.size = n := by
    have q4 := o_len q1
    rw [q2, hk] at q4
    omega
  refine ⟨fun j => c.slots[j]?.getD .null, c, A, q3, by omega, fun j hj => ?_, fun j hj => ?_⟩
  · simp [Array.getElem?_eq_getElem (show j < c.slots.size by omega)]
  · obtain ⟨v, e1, e2⟩ := elem_fit (j := j.toInt32) hf A (by rw [o_nat (by omega), Int32.lt_iff_toInt_lt, o_len (by omega)]; have z0 : (0 : Int32).toInt = 0 := rfl; omega)
    rw [o_nat (by omega)] at e1
    show fits ty (c.slots[j]?.getD .null) = true
    rw [e1]
    exact e2
theorem own_oar0 {Z : State} {h : Heap} {x : Addr} {ty : FieldType} {f g : Nat → Value} (A : OAr Z h x ty 0 f) : OAr Z h x ty 0 g := A.congr fun j hj => absurd hj (Nat.not_lt_zero j)
theorem own_stint {args : Array Value} {s : State} {t : Term} {k : Int32} (h : (Jvm.Cond.eq t (.int k)).value args s none s [] = some true) : t.eval args s none [] s = some (.int k) := by
  obtain ⟨u, v, hu, hv, -, -⟩ := cmp_v (Or.inl h)
  rw [Term.int_eval] at hv
  cases hv
  simp only [Cond.value, hu, Term.int_eval] at h
  cases u <;> simp at h
  rw [hu, h]
set_option maxHeartbeats 4000000 in
theorem comes_1 {Post : Tables → Env → Array Value → State → Outcome → State → Prop} (hpost : ∀ tb e args s v u, (limb_1_1.after args s (.returned v) u = true ∧ limb_1_2.after args s (.returned v) u = true ∧ True) → FrameEnd s (.returned v) u (Jvm.fieldLocs frame_1_writes args s ++ Jvm.arrayLocs frame_1_arrays args s ++ Jvm.staticLocs frame_1_statics s) 48 192 → Post tb e args s (.returned v) u) :
    ArmFor flags0 classFile x code maxLocals ret World_1 tables_1 room_1 Calls_1 rest_1 Pre_1 Post := by
  intro l hfl _ _ p e ha hc hk s m args below hf hA hF happ hP
  obtain ⟨hcalls, hrest, hpre⟩ := hP
  obtain ⟨-, -, -, hnamed, -, -, -, hat⟩ := (Spec.applies_iff hf).mp happ
  obtain ⟨hg, hn⟩ := and_e (Cond.before_iff.mp (show (Jvm.Cond.and given_1 narrow_1).before args s = true from hpre))
  obtain ⟨g1, g2⟩ := and_e hg
  obtain ⟨g3, g4⟩ := and_e g2
  obtain ⟨g5, g6⟩ := and_e g4
  obtain ⟨g7, g8⟩ := and_e g6
  obtain ⟨w0, w1, w2, w3, rfl⟩ : ∃ w0 w1 w2 w3 : Value, args = #[w0, w1, w2, w3] := by
    have hs : args.size = 4 := by simpa [Cond.value, given_1] using g1
    obtain ⟨L⟩ := args
    match L, hs with
    | [w0, w1, w2, w3], _ => exact ⟨w0, w1, w2, w3, rfl⟩
  have hw := fun d (hd : d ∈ tables_1) => atoms_spec (ws := Jvm.Cond.code x code maxLocals ret :: tables_1) hat d (List.mem_cons_of_mem _ hd)
  have hfit : Fit s := fun {y c} hc i hi => by
    obtain ⟨ha, rfl⟩ := Array.getElem?_eq_some_iff.mp hc
    have q := List.all_eq_true.mp ((Array.all_eq_true_iff_forall_mem.mp hF) _ (Array.getElem_mem ha)) i (List.mem_range.mpr hi)
    simpa [Array.getElem?_eq_getElem hi] using q
  obtain ⟨hsets, hown0⟩ := atoms_of _ (rest_1_c_eq ▸ (show rest_1_c.before _ s = true from hrest))
  have hr0 := Cond.before_iff.mp hown0
  have ncs := not_v (Cond.before_iff.mp (hsets _ (List.mem_of_getElem? (i := 2) rfl)))
  obtain ⟨zcs, ecs⟩ := is_v (Cond.before_iff.mp (hsets _ (List.mem_of_getElem? (i := 1) rfl)))
  have Scs : Sta s s.heap "java/lang/String" "COMPACT_STRINGS" "Z" (.int zcs) := Sta.start ecs (Or.inl (hsets _ (List.mem_of_getElem? (i := 0) rfl)))
  have hcs : ¬ (zcs = (0 : Int32)) := gotF (Cond.eq_ints ecs (Term.int_eval (0))) ncs
  obtain ⟨i0, ei0⟩ := is_v g3
  obtain rfl : w0 = (.int i0) := Option.some.inj ei0
  obtain ⟨i1, ei1⟩ := is_v g5
  obtain rfl : w1 = (.int i1) := Option.some.inj ei1
  obtain ⟨i2, ei2⟩ := is_v g7
  obtain rfl : w2 = (.int i2) := Option.some.inj ei2
  obtain ⟨i3, ei3⟩ := is_v g8
  obtain rfl : w3 = (.int i3) := Option.some.inj ei3
  obtain ⟨de, vde⟩ := arr_v (Cond.before_iff.mp (hsets _ (List.mem_of_getElem? (i := 15) rfl)))
  obtain ⟨fde, Ade⟩ := own_oar (n := 0) hfit vde (Cond.before_iff.mp (hsets _ (List.mem_of_getElem? (i := 15) rfl))) (Cond.before_iff.mp (hsets _ (List.mem_of_getElem? (i := 17) rfl))) rfl
  have Sde := Sta.start vde (Or.inr ⟨(w_53 hw), (hsets _ (List.mem_of_getElem? (i := 11) rfl))⟩)
  have vhi := own_stint (Cond.before_iff.mp (hsets _ (List.mem_of_getElem? (i := 21) rfl)))
  have Shi := Sta.start vhi (Or.inl (hsets _ (List.mem_of_getElem? (i := 19) rfl)))
  obtain ⟨ca, vca⟩ := arr_v (Cond.before_iff.mp (hsets _ (List.mem_of_getElem? (i := 22) rfl)))
  obtain ⟨cf, Aca⟩ := own_oar (n := 256) hfit vca (Cond.before_iff.mp (hsets _ (List.mem_of_getElem? (i := 22) rfl))) (Cond.before_iff.mp (hsets _ (List.mem_of_getElem? (i := 24) rfl))) rfl
  have Sca := Sta.start vca (Or.inr ⟨(w_101 hw), (hsets _ (List.mem_of_getElem? (i := 20) rfl))⟩)
  obtain ⟨n, o, h1, h2, h3, _, L, rfl, ⟨rfl, N⟩, hq⟩ := rm0 l s _ hw s.heap.size i0 i1 i2 i3 zcs de ca cf s.heap (Nat.le_refl _) Scs hcs Sde (own_oar0 Ade) Shi Sca Aca tables_1 p e ha hc hk s m _ below hf ((Spec.applies_iff_loose hf).mp happ).1 ⟨rfl, State.Warmed39.refl s, rfl⟩ trivial
  refine ⟨n, _, h1, h2, h3, hpost _ _ _ _ _ _ ⟨Cond.after_iff.mpr rfl, Cond.after_iff.mpr (eq_i res_at (Term.int_eval (1)) rfl), trivial⟩ ⟨hq.1, hq.2.1, (hq.2.2.sift fun y hy => Or.inr (N y hy)).mono (by decide) (by decide)⟩⟩
theorem main_1_1 : Claimed_1_1 := comes_1 fun _ _ _ _ _ _ h hF => ⟨h.1, hF⟩
theorem main_1_2 : Claimed_1_2 := comes_1 fun _ _ _ _ _ _ h hF => ⟨h.2.1, hF⟩
end Jvm.Pilot.@@N@@
namespace Jvm.Pilot.@@N@@
open Jvm Jvm.ClassFile Sem Op Lib Jvm.Free Jvm.Stand Jvm.Pilot.@@N@@.Jvm.D
/-! MADE BY PROGRAM (witnessworld.py) out of the Statement's table words and the real class files: 36 classes; the members and pool entries that the words name. The judged class is class 1, her method 1. -/
namespace start1
open Jvm.ClassFile
def u (s : String) : CpInfo := .utf8 (stringToUtf16 s)
/-- a pool by its gaps: so many unusable entries, then the entry; so many at the end -/
def gap : Nat → List CpInfo → List CpInfo
  | 0, r => r
  | n + 1, r => .unusable :: gap n r
def poolList (es : List (Nat × CpInfo)) (last : Nat) : List CpInfo := es.foldr (fun e r => gap e.1 (e.2 :: r)) (gap last [])
def pool (es : List (Nat × CpInfo)) (last : Nat) : Array CpInfo := ⟨poolList es last⟩
def fileOf (pool : Array CpInfo) (this : Nat) (attrs : Array Attribute := #[]) (ms : Array MethodInfo := #[]) (fl : Nat := 33) (sup : Nat := 0) (ifs : Array Nat := #[]) (fds : Array FieldInfo := #[]) : ClassFile where
  minorVersion := 0
  majorVersion := 65
  constantPool := pool
  accessFlags := fl
  thisClass := this
  superClass := sup
  interfaces := ifs
  fields := fds
  methods := ms
  attributes := attrs
def plain (name : String) (sup : Option ClassId) : Class where
  name := name
  kind := .ordinary
  loader := none
  accessFlags := 33
  super := sup
  interfaces := #[]
  cf := none
  fields := #[]
  methods := #[]
  instanceTypes := #[]
  staticTypes := #[]
  resolved := #[]
  callSites := []
  init := .initialized
  statics := none
  mirror := none

def pool0 : Array CpInfo := pool [(5, u "<init>"), (0, u "()V"), (1, .class_ 10), (1, u "java/lang/Object")] 113

def k0c0 : Code := { maxStack := 0, maxLocals := 1, code := object_method_1_code, exceptionTable := #[], attributes := #[] }
def k0m0 : Method := { name := "<init>", desc := "()V", sig := { parameters := [], returnType := none }, accessFlags := 1, code := some k0c0 }
/-- java/lang/Object -/
def k0 : Class := { plain "java/lang/Object" none with
  accessFlags := 33
  interfaces := #[]
  cf := some (fileOf pool0 8 #[] #[{ accessFlags := 1, nameIndex := 5, descriptorIndex := 6, attributes := #[] }] 33 0 #[] #[])
  fields := #[]
  methods := #[k0m0]
  instanceTypes := #[]
  staticTypes := #[]
  resolved := Array.replicate 124 none
  statics := none }

def pool1 : Array CpInfo := pool [(2, .class_ 4), (0, .nameAndType 5 6), (0, u "java/lang/Object"), (0, u "<init>"), (0, u "()V"), (0, .class_ 8), (0, u "java/lang/String"), (0, .methodref 7 10), (0, .nameAndType 5 11), (0, u "([C)V"), (0, .methodref 7 13), (0, .nameAndType 14 15), (0, u "valueOf"), (0, u "(C)Ljava/lang/String;"), (0, .class_ 17), (0, u "com/example/outlet_to_office/outlettooffice/server/Problems"), (0, .methodref 16 3), (0, .methodref 16 20), (0, .nameAndType 21 22), (0, u "isEmpty"), (0, u "()Z"), (0, .methodref 24 25), (0, .class_ 26), (0, .nameAndType 27 28), (0, u "com/example/outlet_to_office/outlettooffice/server/ProblemsIsEmptyPinLaw"), (0, u "add"), (0, u "(Lcom/example/outlet_to_office/outlettooffice/server/Problems;ILjava/lang/String;Ljava/lang/String;Ljava/lang/String;I)V"), (0, .methodref 16 30), (0, .nameAndType 27 31), (0, u "(Ljava/lang/String;Ljava/lang/String;Ljava/lang/String;)V"), (0, .methodref 16 33), (0, .nameAndType 27 34), (0, u "(Ljava/lang/String;Ljava/lang/String;Ljava/lang/String;I)V"), (2, u "law"), (0, u "(IIII)Z")] 3

def k1m0 : Method := { name := "<init>", desc := "()V", sig := { parameters := [], returnType := none }, accessFlags := 1, code := none }
def k1c1 : Code := { maxStack := 7, maxLocals := 11, code := code, exceptionTable := #[], attributes := #[] }
def k1m1 : Method := { name := "law", desc := "(IIII)Z", sig := { parameters := [.int, .int, .int, .int], returnType := some .boolean }, accessFlags := 9, code := some k1c1 }
def k1c2 : Code := { maxStack := 5, maxLocals := 6, code := method_3_code, exceptionTable := #[], attributes := #[] }
def k1m2 : Method := { name := "add", desc := "(Lcom/example/outlet_to_office/outlettooffice/server/Problems;ILjava/lang/String;Ljava/lang/String;Ljava/lang/String;I)V", sig := { parameters := [(.object "com/example/outlet_to_office/outlettooffice/server/Problems"), .int, (.object "java/lang/String"), (.object "java/lang/String"), (.object "java/lang/String"), .int], returnType := none }, accessFlags := 10, code := some k1c2 }
/-- com/example/outlet_to_office/outlettooffice/server/ProblemsIsEmptyPinLaw -/
def k1 : Class := { plain "com/example/outlet_to_office/outlettooffice/server/ProblemsIsEmptyPinLaw" (some 0) with
  accessFlags := 49
  interfaces := #[]
  cf := some (fileOf pool1 24 #[] #[{ accessFlags := 1, nameIndex := 5, descriptorIndex := 6, attributes := #[] }, { accessFlags := 9, nameIndex := 37, descriptorIndex := 38, attributes := #[] }, { accessFlags := 10, nameIndex := 27, descriptorIndex := 28, attributes := #[] }] 49 2 #[] #[])
  fields := #[]
  methods := #[k1m0, k1m1, k1m2]
  instanceTypes := #[]
  staticTypes := #[]
  resolved := Array.replicate 42 none
  statics := none }

def pool2 : Array CpInfo := pool [(1, .class_ 2), (0, u "java/io/Serializable"), (0, .class_ 4), (0, u "java/lang/Object")] 2

/-- java/io/Serializable -/
def k2 : Class := { plain "java/io/Serializable" (some 0) with
  accessFlags := 1537
  interfaces := #[]
  cf := some (fileOf pool2 1 #[] #[] 1537 3 #[] #[])
  fields := #[]
  methods := #[]
  instanceTypes := #[]
  staticTypes := #[]
  resolved := Array.replicate 7 none
  statics := none }

def pool3 : Array CpInfo := pool [(1, .class_ 2), (0, u "java/lang/Comparable"), (0, .class_ 4), (0, u "java/lang/Object")] 7

/-- java/lang/Comparable -/
def k3 : Class := { plain "java/lang/Comparable" (some 0) with
  accessFlags := 1537
  interfaces := #[]
  cf := some (fileOf pool3 1 #[] #[] 1537 3 #[] #[])
  fields := #[]
  methods := #[]
  instanceTypes := #[]
  staticTypes := #[]
  resolved := Array.replicate 12 none
  statics := none }

def pool4 : Array CpInfo := pool [(2, .class_ 4), (1, u "java/lang/CharSequence"), (42, .class_ 48), (0, u "java/lang/CharSequence$1CodePointIterator"), (10, .class_ 60), (0, u "java/lang/CharSequence$1CharIterator"), (5, .class_ 67), (0, u "java/lang/Object")] 63

/-- java/lang/CharSequence -/
def k4 : Class := { plain "java/lang/CharSequence" (some 0) with
  accessFlags := 1537
  interfaces := #[]
  cf := some (fileOf pool4 2 #[.nestMembers #[47, 59]] #[] 1537 66 #[] #[])
  fields := #[]
  methods := #[]
  instanceTypes := #[]
  staticTypes := #[]
  resolved := Array.replicate 131 none
  statics := none }

def pool5 : Array CpInfo := pool [(1, .class_ 2), (0, u "java/lang/constant/Constable"), (0, .class_ 4), (0, u "java/lang/Object")] 6

/-- java/lang/constant/Constable -/
def k5 : Class := { plain "java/lang/constant/Constable" (some 0) with
  accessFlags := 1537
  interfaces := #[]
  cf := some (fileOf pool5 1 #[] #[] 1537 3 #[] #[])
  fields := #[]
  methods := #[]
  instanceTypes := #[]
  staticTypes := #[]
  resolved := Array.replicate 11 none
  statics := none }

def pool6 : Array CpInfo := pool [(1, .class_ 2), (0, u "java/lang/constant/ConstantDesc"), (0, .class_ 4), (0, u "java/lang/Object")] 32

/-- java/lang/constant/ConstantDesc -/
def k6 : Class := { plain "java/lang/constant/ConstantDesc" (some 0) with
  accessFlags := 1537
  interfaces := #[]
  cf := some (fileOf pool6 1 #[] #[] 1537 3 #[] #[])
  fields := #[]
  methods := #[]
  instanceTypes := #[]
  staticTypes := #[]
  resolved := Array.replicate 37 none
  statics := none }

def pool7 : Array CpInfo := pool [(1, .methodref 2 3), (0, .class_ 4), (0, .nameAndType 5 6), (0, u "java/lang/Object"), (0, u "<init>"), (0, u "()V"), (2, .fieldref 10 11), (0, .class_ 12), (0, .nameAndType 13 14), (0, u "java/lang/String"), (0, u "value"), (0, u "[B"), (0, .fieldref 10 16), (0, .nameAndType 17 18), (0, u "coder"), (0, u "B"), (2, u "hash"), (0, u "I"), (2, u "hashIsZero"), (0, u "Z"), (0, .methodref 10 28), (0, .nameAndType 5 29), (0, u "([CIILjava/lang/Void;)V"), (8, .fieldref 10 39), (0, .nameAndType 40 26), (0, u "COMPACT_STRINGS"), (1, .class_ 44), (1, u "java/lang/StringUTF16"), (0, u "compress"), (1, .methodref 42 48), (0, .nameAndType 49 50), (0, u "coderFromArrayLen"), (0, u "([BI)B"), (2, u "toBytes"), (53, .class_ 109), (1, u "java/lang/StringLatin1"), (67, .methodref 42 178), (0, .nameAndType 45 179), (0, u "([CII)[B"), (29, .methodref 10 210), (0, .nameAndType 5 211), (0, u "([BB)V"), (157, u "(C)Z"), (205, .class_ 576), (0, u "java/lang/CharSequence"), (22, u "CASE_INSENSITIVE_ORDER"), (0, u "Ljava/util/Comparator;"), (181, u "valueOf"), (0, u "(C)Ljava/lang/String;"), (226, u "([C)V"), (4, .methodref 107 1016), (0, .nameAndType 1017 369), (0, u "canEncode"), (0, .methodref 107 1019), (0, .nameAndType 53 1020), (0, u "(C)[B"), (80, u "serialPersistentFields"), (0, u "[Ljava/io/ObjectStreamField;"), (0, .class_ 1104), (0, u "java/lang/String$CaseInsensitiveComparator"), (1, .class_ 1107), (0, u "java/io/Serializable"), (0, .class_ 1109), (0, u "java/lang/Comparable"), (0, .class_ 1111), (0, u "java/lang/constant/Constable"), (0, .class_ 1113), (0, u "java/lang/constant/ConstantDesc"), (2, u "serialVersionUID"), (0, u "J"), (3, u "REPL"), (0, u "C"), (2, u "LATIN1"), (1, u "UTF16")] 323

def k7m0 : Method := { name := "<init>", desc := "()V", sig := { parameters := [], returnType := none }, accessFlags := 1, code := none }
def k7c1 : Code := { maxStack := 5, maxLocals := 2, code := jdk_42_method_3_code, exceptionTable := #[], attributes := #[] }
def k7m1 : Method := { name := "<init>", desc := "([C)V", sig := { parameters := [(.array .char)], returnType := none }, accessFlags := 1, code := some k7c1 }
def k7c2 : Code := { maxStack := 4, maxLocals := 1, code := jdk_42_method_139_code, exceptionTable := #[], attributes := #[] }
def k7m2 : Method := { name := "valueOf", desc := "(C)Ljava/lang/String;", sig := { parameters := [.char], returnType := some (.object "java/lang/String") }, accessFlags := 9, code := some k7c2 }
def k7c3 : Code := { maxStack := 4, maxLocals := 6, code := jdk_42_method_149_code, exceptionTable := #[], attributes := #[] }
def k7m3 : Method := { name := "<init>", desc := "([CIILjava/lang/Void;)V", sig := { parameters := [(.array .char), .int, .int, (.object "java/lang/Void")], returnType := none }, accessFlags := 2, code := some k7c3 }
def k7c4 : Code := { maxStack := 2, maxLocals := 3, code := jdk_42_method_151_code, exceptionTable := #[], attributes := #[] }
def k7m4 : Method := { name := "<init>", desc := "([BB)V", sig := { parameters := [(.array .byte), .byte], returnType := none }, accessFlags := 0, code := some k7c4 }
/-- java/lang/String -/
def k7 : Class := { plain "java/lang/String" (some 0) with
  accessFlags := 49
  interfaces := #[2, 3, 4, 5, 6]
  cf := some (fileOf pool7 10 #[.nestMembers #[1103]] #[{ accessFlags := 1, nameIndex := 5, descriptorIndex := 6, attributes := #[] }, { accessFlags := 1, nameIndex := 5, descriptorIndex := 1010, attributes := #[] }, { accessFlags := 9, nameIndex := 782, descriptorIndex := 783, attributes := #[] }, { accessFlags := 2, nameIndex := 5, descriptorIndex := 29, attributes := #[] }, { accessFlags := 0, nameIndex := 5, descriptorIndex := 211, attributes := #[] }] 49 2 #[1106, 1108, 575, 1110, 1112] #[{ accessFlags := 18, nameIndex := 13, descriptorIndex := 14, attributes := #[] }, { accessFlags := 18, nameIndex := 17, descriptorIndex := 18, attributes := #[] }, { accessFlags := 2, nameIndex := 21, descriptorIndex := 22, attributes := #[] }, { accessFlags := 2, nameIndex := 25, descriptorIndex := 26, attributes := #[] }, { accessFlags := 26, nameIndex := 1116, descriptorIndex := 1117, attributes := #[] }, { accessFlags := 24, nameIndex := 40, descriptorIndex := 26, attributes := #[] }, { accessFlags := 26, nameIndex := 1101, descriptorIndex := 1102, attributes := #[] }, { accessFlags := 26, nameIndex := 1121, descriptorIndex := 1122, attributes := #[] }, { accessFlags := 25, nameIndex := 599, descriptorIndex := 600, attributes := #[] }, { accessFlags := 24, nameIndex := 1125, descriptorIndex := 18, attributes := #[] }, { accessFlags := 24, nameIndex := 1127, descriptorIndex := 18, attributes := #[] }])
  fields := #[{ name := "value", type := (.array .byte), accessFlags := 18, slot := 0, constantValue := 0 }, { name := "coder", type := .byte, accessFlags := 18, slot := 1, constantValue := 0 }, { name := "hash", type := .int, accessFlags := 2, slot := 2, constantValue := 0 }, { name := "hashIsZero", type := .boolean, accessFlags := 2, slot := 3, constantValue := 0 }, { name := "serialVersionUID", type := .long, accessFlags := 26, slot := 0, constantValue := 0 }, { name := "COMPACT_STRINGS", type := .boolean, accessFlags := 24, slot := 1, constantValue := 0 }, { name := "serialPersistentFields", type := (.array (.object "java/io/ObjectStreamField")), accessFlags := 26, slot := 2, constantValue := 0 }, { name := "REPL", type := .char, accessFlags := 26, slot := 3, constantValue := 0 }, { name := "CASE_INSENSITIVE_ORDER", type := (.object "java/util/Comparator"), accessFlags := 25, slot := 4, constantValue := 0 }, { name := "LATIN1", type := .byte, accessFlags := 24, slot := 5, constantValue := 0 }, { name := "UTF16", type := .byte, accessFlags := 24, slot := 6, constantValue := 0 }]
  methods := #[k7m0, k7m1, k7m2, k7m3, k7m4]
  instanceTypes := #[(.array .byte), .byte, .int, .boolean]
  staticTypes := #[.long, .boolean, (.array (.object "java/io/ObjectStreamField")), .char, (.object "java/util/Comparator"), .byte, .byte]
  resolved := Array.replicate 1451 none
  statics := some 0 }

def pool8 : Array CpInfo := pool [(6, .class_ 8), (1, u "java/lang/Object"), (0, u "<init>"), (0, u "()V"), (1, .class_ 14), (1, u "java/lang/StringUTF16"), (31, u "$assertionsDisabled"), (0, u "Z"), (13, u "HI_BYTE_SHIFT"), (0, u "I"), (2, u "LO_BYTE_SHIFT"), (49, .methodref 12 116), (0, .nameAndType 117 118), (0, u "compress"), (0, u "([CI[BII)I"), (3, u "([CII)[B"), (138, u "coderFromArrayLen"), (0, u "([BI)B"), (106, .class_ 371), (1, u "java/lang/StringUTF16$LinesSpliterator"), (58, u "MAX_LENGTH"), (196, .class_ 628), (0, u "java/lang/StringUTF16$CodePointsSpliterator"), (0, .class_ 630), (0, u "java/lang/StringUTF16$CharsSpliterator")] 4

def k8m0 : Method := { name := "<init>", desc := "()V", sig := { parameters := [], returnType := none }, accessFlags := 0, code := none }
def k8c1 : Code := { maxStack := 2, maxLocals := 2, code := jdk_52_method_15_code, exceptionTable := #[], attributes := #[] }
def k8m1 : Method := { name := "coderFromArrayLen", desc := "([BI)B", sig := { parameters := [(.array .byte), .int], returnType := some .byte }, accessFlags := 8, code := some k8c1 }
def k8c2 : Code := { maxStack := 5, maxLocals := 6, code := jdk_52_method_16_code, exceptionTable := #[], attributes := #[] }
def k8m2 : Method := { name := "compress", desc := "([CII)[B", sig := { parameters := [(.array .char), .int, .int], returnType := some (.array .byte) }, accessFlags := 9, code := some k8c2 }
def k8c3 : Code := { maxStack := 3, maxLocals := 7, code := jdk_52_method_21_code, exceptionTable := #[], attributes := #[] }
def k8m3 : Method := { name := "compress", desc := "([CI[BII)I", sig := { parameters := [(.array .char), .int, (.array .byte), .int, .int], returnType := some .int }, accessFlags := 9, code := some k8c3 }
/-- java/lang/StringUTF16 -/
def k8 : Class := { plain "java/lang/StringUTF16" (some 0) with
  accessFlags := 48
  interfaces := #[]
  cf := some (fileOf pool8 12 #[.nestMembers #[627, 629, 369]] #[{ accessFlags := 0, nameIndex := 9, descriptorIndex := 10, attributes := #[] }, { accessFlags := 8, nameIndex := 261, descriptorIndex := 262, attributes := #[] }, { accessFlags := 9, nameIndex := 117, descriptorIndex := 122, attributes := #[] }, { accessFlags := 9, nameIndex := 117, descriptorIndex := 118, attributes := #[] }] 48 6 #[] #[{ accessFlags := 26, nameIndex := 61, descriptorIndex := 62, attributes := #[] }, { accessFlags := 26, nameIndex := 65, descriptorIndex := 62, attributes := #[] }, { accessFlags := 24, nameIndex := 430, descriptorIndex := 62, attributes := #[] }, { accessFlags := 4120, nameIndex := 46, descriptorIndex := 47, attributes := #[] }])
  fields := #[{ name := "HI_BYTE_SHIFT", type := .int, accessFlags := 26, slot := 0, constantValue := 0 }, { name := "LO_BYTE_SHIFT", type := .int, accessFlags := 26, slot := 1, constantValue := 0 }, { name := "MAX_LENGTH", type := .int, accessFlags := 24, slot := 2, constantValue := 0 }, { name := "$assertionsDisabled", type := .boolean, accessFlags := 4120, slot := 3, constantValue := 0 }]
  methods := #[k8m0, k8m1, k8m2, k8m3]
  instanceTypes := #[]
  staticTypes := #[.int, .int, .int, .boolean]
  resolved := Array.replicate 635 none
  statics := none }

def pool9 : Array CpInfo := pool [(4, .class_ 6), (1, u "java/lang/Object"), (0, u "<init>"), (0, u "()V"), (5, .class_ 16), (1, u "java/lang/StringLatin1"), (73, u "canEncode"), (14, u "(C)Z"), (15, u "$assertionsDisabled"), (0, u "Z"), (98, .class_ 223), (1, u "java/lang/StringLatin1$LinesSpliterator"), (156, u "toBytes"), (1, u "(C)[B"), (7, .class_ 391), (0, u "java/lang/StringLatin1$CharsSpliterator")] 3

def k9m0 : Method := { name := "<init>", desc := "()V", sig := { parameters := [], returnType := none }, accessFlags := 0, code := none }
def k9c1 : Code := { maxStack := 2, maxLocals := 1, code := jdk_43_method_3_code, exceptionTable := #[], attributes := #[] }
def k9m1 : Method := { name := "canEncode", desc := "(C)Z", sig := { parameters := [.char], returnType := some .boolean }, accessFlags := 9, code := some k9c1 }
def k9c2 : Code := { maxStack := 4, maxLocals := 1, code := jdk_43_method_46_code, exceptionTable := #[], attributes := #[] }
def k9m2 : Method := { name := "toBytes", desc := "(C)[B", sig := { parameters := [.char], returnType := some (.array .byte) }, accessFlags := 9, code := some k9c2 }
/-- java/lang/StringLatin1 -/
def k9 : Class := { plain "java/lang/StringLatin1" (some 0) with
  accessFlags := 48
  interfaces := #[]
  cf := some (fileOf pool9 14 #[.nestMembers #[390, 221]] #[{ accessFlags := 0, nameIndex := 7, descriptorIndex := 8, attributes := #[] }, { accessFlags := 9, nameIndex := 90, descriptorIndex := 105, attributes := #[] }, { accessFlags := 9, nameIndex := 380, descriptorIndex := 382, attributes := #[] }] 48 4 #[] #[{ accessFlags := 4120, nameIndex := 121, descriptorIndex := 122, attributes := #[] }])
  fields := #[{ name := "$assertionsDisabled", type := .boolean, accessFlags := 4120, slot := 0, constantValue := 0 }]
  methods := #[k9m0, k9m1, k9m2]
  instanceTypes := #[]
  staticTypes := #[.boolean]
  resolved := Array.replicate 395 none
  statics := none }

def pool10 : Array CpInfo := pool [(1, .methodref 2 3), (0, .class_ 4), (0, .nameAndType 5 6), (0, u "java/lang/Object"), (0, u "<init>"), (0, u "()V"), (0, .class_ 8), (0, u "java/util/ArrayList"), (0, .methodref 7 3), (0, .fieldref 11 12), (0, .class_ 13), (0, .nameAndType 14 15), (0, u "com/example/outlet_to_office/outlettooffice/server/Problems"), (0, u "listed"), (0, u "Ljava/util/List;"), (0, .class_ 17), (0, u "com/example/outlet_to_office/outlettooffice/server/Problem"), (0, .methodref 16 19), (0, .nameAndType 5 20), (0, u "(Ljava/lang/String;Ljava/lang/String;Ljava/lang/String;)V"), (0, .methodref 11 22), (0, .nameAndType 23 24), (0, u "add"), (0, u "(Lcom/example/outlet_to_office/outlettooffice/server/Problem;)V"), (0, .methodref 26 27), (0, .class_ 28), (0, .nameAndType 29 30), (0, u "java/lang/Integer"), (0, u "valueOf"), (0, u "(I)Ljava/lang/Integer;"), (0, .methodref 16 32), (0, .nameAndType 5 33), (0, u "(Ljava/lang/String;Ljava/lang/String;Ljava/lang/String;Ljava/lang/Integer;)V"), (0, .interfaceMethodref 35 36), (0, .class_ 37), (0, .nameAndType 38 39), (0, u "java/util/List"), (0, u "size"), (0, u "()I"), (0, .interfaceMethodref 35 41), (0, .nameAndType 23 42), (0, u "(Ljava/lang/Object;)Z"), (0, .fieldref 11 44), (0, .nameAndType 45 46), (0, u "count"), (0, u "J"), (28, u "MISSING"), (0, u "Ljava/lang/String;"), (3, u "WRONG_TYPE"), (2, u "INVALID"), (2, u "INVALID_QUERY_PARAMETER"), (2, u "VALIDATION_VIOLATION"), (0, u "MAX_LISTED"), (0, u "I"), (5, u "(Ljava/lang/String;Ljava/lang/String;Ljava/lang/String;I)V"), (1, u "isEmpty"), (0, u "()Z")] 22

def k10c0 : Code := { maxStack := 3, maxLocals := 1, code := prog_22_method_1_code, exceptionTable := #[], attributes := #[] }
def k10m0 : Method := { name := "<init>", desc := "()V", sig := { parameters := [], returnType := none }, accessFlags := 1, code := some k10c0 }
def k10c1 : Code := { maxStack := 6, maxLocals := 4, code := prog_22_method_2_code, exceptionTable := #[], attributes := #[] }
def k10m1 : Method := { name := "add", desc := "(Ljava/lang/String;Ljava/lang/String;Ljava/lang/String;)V", sig := { parameters := [(.object "java/lang/String"), (.object "java/lang/String"), (.object "java/lang/String")], returnType := none }, accessFlags := 1, code := some k10c1 }
def k10c2 : Code := { maxStack := 7, maxLocals := 5, code := prog_22_method_3_code, exceptionTable := #[], attributes := #[] }
def k10m2 : Method := { name := "add", desc := "(Ljava/lang/String;Ljava/lang/String;Ljava/lang/String;I)V", sig := { parameters := [(.object "java/lang/String"), (.object "java/lang/String"), (.object "java/lang/String"), .int], returnType := none }, accessFlags := 1, code := some k10c2 }
def k10c3 : Code := { maxStack := 5, maxLocals := 2, code := prog_22_method_4_code, exceptionTable := #[], attributes := #[] }
def k10m3 : Method := { name := "add", desc := "(Lcom/example/outlet_to_office/outlettooffice/server/Problem;)V", sig := { parameters := [(.object "com/example/outlet_to_office/outlettooffice/server/Problem")], returnType := none }, accessFlags := 2, code := some k10c3 }
def k10c4 : Code := { maxStack := 4, maxLocals := 1, code := prog_22_method_5_code, exceptionTable := #[], attributes := #[] }
def k10m4 : Method := { name := "isEmpty", desc := "()Z", sig := { parameters := [], returnType := some .boolean }, accessFlags := 1, code := some k10c4 }
/-- com/example/outlet_to_office/outlettooffice/server/Problems -/
def k10 : Class := { plain "com/example/outlet_to_office/outlettooffice/server/Problems" (some 0) with
  accessFlags := 49
  interfaces := #[]
  cf := some (fileOf pool10 11 #[] #[{ accessFlags := 1, nameIndex := 5, descriptorIndex := 6, attributes := #[] }, { accessFlags := 1, nameIndex := 23, descriptorIndex := 20, attributes := #[] }, { accessFlags := 1, nameIndex := 23, descriptorIndex := 97, attributes := #[] }, { accessFlags := 2, nameIndex := 23, descriptorIndex := 24, attributes := #[] }, { accessFlags := 1, nameIndex := 99, descriptorIndex := 100, attributes := #[] }] 49 2 #[] #[{ accessFlags := 25, nameIndex := 75, descriptorIndex := 76, attributes := #[] }, { accessFlags := 25, nameIndex := 80, descriptorIndex := 76, attributes := #[] }, { accessFlags := 25, nameIndex := 83, descriptorIndex := 76, attributes := #[] }, { accessFlags := 25, nameIndex := 86, descriptorIndex := 76, attributes := #[] }, { accessFlags := 25, nameIndex := 89, descriptorIndex := 76, attributes := #[] }, { accessFlags := 25, nameIndex := 90, descriptorIndex := 91, attributes := #[] }, { accessFlags := 18, nameIndex := 14, descriptorIndex := 15, attributes := #[] }, { accessFlags := 2, nameIndex := 45, descriptorIndex := 46, attributes := #[] }])
  fields := #[{ name := "MISSING", type := (.object "java/lang/String"), accessFlags := 25, slot := 0, constantValue := 0 }, { name := "WRONG_TYPE", type := (.object "java/lang/String"), accessFlags := 25, slot := 1, constantValue := 0 }, { name := "INVALID", type := (.object "java/lang/String"), accessFlags := 25, slot := 2, constantValue := 0 }, { name := "INVALID_QUERY_PARAMETER", type := (.object "java/lang/String"), accessFlags := 25, slot := 3, constantValue := 0 }, { name := "VALIDATION_VIOLATION", type := (.object "java/lang/String"), accessFlags := 25, slot := 4, constantValue := 0 }, { name := "MAX_LISTED", type := .int, accessFlags := 25, slot := 5, constantValue := 0 }, { name := "listed", type := (.object "java/util/List"), accessFlags := 18, slot := 0, constantValue := 0 }, { name := "count", type := .long, accessFlags := 2, slot := 1, constantValue := 0 }]
  methods := #[k10m0, k10m1, k10m2, k10m3, k10m4]
  instanceTypes := #[(.object "java/util/List"), .long]
  staticTypes := #[(.object "java/lang/String"), (.object "java/lang/String"), (.object "java/lang/String"), (.object "java/lang/String"), (.object "java/lang/String"), .int]
  resolved := Array.replicate 123 none
  statics := none }

def pool11 : Array CpInfo := pool [(8, .class_ 10), (1, u "java/lang/Iterable"), (24, .class_ 36), (0, u "java/lang/Object")] 25

/-- java/lang/Iterable -/
def k11 : Class := { plain "java/lang/Iterable" (some 0) with
  accessFlags := 1537
  interfaces := #[]
  cf := some (fileOf pool11 8 #[] #[] 1537 35 #[] #[])
  fields := #[]
  methods := #[]
  instanceTypes := #[]
  staticTypes := #[]
  resolved := Array.replicate 62 none
  statics := none }

def pool12 : Array CpInfo := pool [(10, .class_ 12), (1, u "java/util/Collection"), (47, .class_ 61), (0, u "java/lang/Object"), (0, .class_ 63), (0, u "java/lang/Iterable")] 51

/-- java/util/Collection -/
def k12 : Class := { plain "java/util/Collection" (some 0) with
  accessFlags := 1537
  interfaces := #[11]
  cf := some (fileOf pool12 10 #[] #[] 1537 60 #[62] #[])
  fields := #[]
  methods := #[]
  instanceTypes := #[]
  staticTypes := #[]
  resolved := Array.replicate 115 none
  statics := none }

def pool13 : Array CpInfo := pool [(1, .methodref 2 3), (0, .class_ 4), (0, .nameAndType 5 6), (0, u "java/lang/Object"), (0, u "<init>"), (0, u "()V"), (1, .class_ 10), (1, u "java/util/AbstractCollection"), (66, .class_ 78), (0, u "java/util/Collection")] 81

def k13c0 : Code := { maxStack := 1, maxLocals := 1, code := jdk_22_method_1_code, exceptionTable := #[], attributes := #[] }
def k13m0 : Method := { name := "<init>", desc := "()V", sig := { parameters := [], returnType := none }, accessFlags := 4, code := some k13c0 }
/-- java/util/AbstractCollection -/
def k13 : Class := { plain "java/util/AbstractCollection" (some 0) with
  accessFlags := 1057
  interfaces := #[12]
  cf := some (fileOf pool13 8 #[] #[{ accessFlags := 4, nameIndex := 5, descriptorIndex := 6, attributes := #[] }] 1057 2 #[77] #[])
  fields := #[]
  methods := #[k13m0]
  instanceTypes := #[]
  staticTypes := #[]
  resolved := Array.replicate 160 none
  statics := none }

def pool14 : Array CpInfo := pool [(8, .class_ 10), (1, u "java/util/SequencedCollection"), (15, .class_ 27), (0, u "java/lang/Object"), (0, .class_ 29), (0, u "java/util/Collection")] 27

/-- java/util/SequencedCollection -/
def k14 : Class := { plain "java/util/SequencedCollection" (some 0) with
  accessFlags := 1537
  interfaces := #[12]
  cf := some (fileOf pool14 8 #[] #[] 1537 26 #[28] #[])
  fields := #[]
  methods := #[]
  instanceTypes := #[]
  staticTypes := #[]
  resolved := Array.replicate 57 none
  statics := none }

def pool15 : Array CpInfo := pool [(8, .class_ 10), (1, u "java/util/List"), (49, u "add"), (3, u "(Ljava/lang/Object;)Z"), (14, u "size"), (0, u "()I"), (22, .class_ 104), (0, u "java/lang/Object"), (15, .class_ 121), (0, u "java/util/SequencedCollection")] 129

def k15m0 : Method := { name := "size", desc := "()I", sig := { parameters := [], returnType := some .int }, accessFlags := 1025, code := none }
def k15m1 : Method := { name := "add", desc := "(Ljava/lang/Object;)Z", sig := { parameters := [(.object "java/lang/Object")], returnType := some .boolean }, accessFlags := 1025, code := none }
/-- java/util/List -/
def k15 : Class := { plain "java/util/List" (some 0) with
  accessFlags := 1537
  interfaces := #[14]
  cf := some (fileOf pool15 8 #[] #[{ accessFlags := 1025, nameIndex := 79, descriptorIndex := 80, attributes := #[] }, { accessFlags := 1025, nameIndex := 60, descriptorIndex := 64, attributes := #[] }] 1537 103 #[120] #[])
  fields := #[]
  methods := #[k15m0, k15m1]
  instanceTypes := #[]
  staticTypes := #[]
  resolved := Array.replicate 251 none
  statics := none }

def pool16 : Array CpInfo := pool [(1, .methodref 2 3), (0, .class_ 4), (0, .nameAndType 5 6), (0, u "java/util/AbstractCollection"), (0, u "<init>"), (0, u "()V"), (0, .fieldref 8 9), (0, .class_ 10), (0, .nameAndType 11 12), (0, u "java/util/AbstractList"), (0, u "modCount"), (0, u "I"), (64, .class_ 78), (0, u "java/util/AbstractList$Itr"), (3, .class_ 83), (0, u "java/util/AbstractList$ListItr"), (9, .class_ 94), (0, u "java/util/AbstractList$RandomAccessSubList"), (3, .class_ 99), (0, u "java/util/AbstractList$SubList"), (33, .class_ 134), (0, u "java/util/List"), (73, .class_ 209), (0, u "java/util/AbstractList$SubList$1"), (0, .class_ 211), (0, u "java/util/AbstractList$RandomAccessSpliterator")] 6

def k16c0 : Code := { maxStack := 2, maxLocals := 1, code := jdk_39_method_1_code, exceptionTable := #[], attributes := #[] }
def k16m0 : Method := { name := "<init>", desc := "()V", sig := { parameters := [], returnType := none }, accessFlags := 4, code := some k16c0 }
/-- java/util/AbstractList -/
def k16 : Class := { plain "java/util/AbstractList" (some 13) with
  accessFlags := 1057
  interfaces := #[15]
  cf := some (fileOf pool16 8 #[.nestMembers #[93, 98, 208, 210, 82, 77]] #[{ accessFlags := 4, nameIndex := 5, descriptorIndex := 6, attributes := #[] }] 1057 2 #[133] #[{ accessFlags := 132, nameIndex := 11, descriptorIndex := 12, attributes := #[] }])
  fields := #[{ name := "modCount", type := .int, accessFlags := 132, slot := 0, constantValue := 0 }]
  methods := #[k16m0]
  instanceTypes := #[.int]
  staticTypes := #[]
  resolved := Array.replicate 218 none
  statics := none }

def pool17 : Array CpInfo := pool [(1, .class_ 2), (0, u "java/util/RandomAccess"), (0, .class_ 4), (0, u "java/lang/Object")] 2

/-- java/util/RandomAccess -/
def k17 : Class := { plain "java/util/RandomAccess" (some 0) with
  accessFlags := 1537
  interfaces := #[]
  cf := some (fileOf pool17 1 #[] #[] 1537 3 #[] #[])
  fields := #[]
  methods := #[]
  instanceTypes := #[]
  staticTypes := #[]
  resolved := Array.replicate 7 none
  statics := none }

def pool18 : Array CpInfo := pool [(1, .class_ 2), (0, u "java/lang/Cloneable"), (0, .class_ 4), (0, u "java/lang/Object")] 2

/-- java/lang/Cloneable -/
def k18 : Class := { plain "java/lang/Cloneable" (some 0) with
  accessFlags := 1537
  interfaces := #[]
  cf := some (fileOf pool18 1 #[] #[] 1537 3 #[] #[])
  fields := #[]
  methods := #[]
  instanceTypes := #[]
  staticTypes := #[]
  resolved := Array.replicate 7 none
  statics := none }

def pool19 : Array CpInfo := pool [(1, .methodref 2 3), (0, .class_ 4), (0, .nameAndType 5 6), (0, u "java/util/AbstractList"), (0, u "<init>"), (0, u "()V"), (0, .class_ 8), (0, u "java/lang/Object"), (0, .fieldref 10 11), (0, .class_ 12), (0, .nameAndType 13 14), (0, u "java/util/ArrayList"), (0, u "elementData"), (0, u "[Ljava/lang/Object;"), (2, u "EMPTY_ELEMENTDATA"), (21, .fieldref 10 40), (0, .nameAndType 41 14), (0, u "DEFAULTCAPACITY_EMPTY_ELEMENTDATA"), (5, u "()[Ljava/lang/Object;"), (0, .fieldref 10 49), (0, .nameAndType 50 51), (0, u "size"), (0, u "I"), (11, .fieldref 10 64), (0, .nameAndType 65 51), (0, u "modCount"), (3, .methodref 10 70), (0, .nameAndType 71 72), (0, u "grow"), (0, u "(I)[Ljava/lang/Object;"), (6, .methodref 80 81), (0, .class_ 82), (0, .nameAndType 83 84), (0, u "java/lang/Math"), (0, u "max"), (0, u "(II)I"), (11, u "(Ljava/lang/Object;)Z"), (32, .methodref 10 130), (0, .nameAndType 71 47), (0, .methodref 10 132), (0, .nameAndType 133 134), (0, u "add"), (0, u "(Ljava/lang/Object;[Ljava/lang/Object;I)V"), (13, .class_ 149), (0, u "java/util/List"), (36, u "()I"), (75, .class_ 263), (0, u "java/util/ArrayList$ListItr"), (3, .class_ 268), (0, u "java/util/ArrayList$Itr"), (7, .class_ 277), (0, u "java/util/ArrayList$SubList"), (12, .class_ 291), (0, u "java/util/ArrayList$ArrayListSpliterator"), (37, .class_ 330), (0, u "java/util/RandomAccess"), (0, .class_ 332), (0, u "java/lang/Cloneable"), (0, .class_ 334), (0, u "java/io/Serializable"), (0, u "serialVersionUID"), (0, u "J"), (3, u "DEFAULT_CAPACITY"), (159, .class_ 501), (0, u "java/util/ArrayList$SubList$2"), (0, .class_ 503), (0, u "java/util/ArrayList$SubList$1")] 5

def k19c0 : Code := { maxStack := 2, maxLocals := 1, code := jdk_38_method_2_code, exceptionTable := #[], attributes := #[] }
def k19m0 : Method := { name := "<init>", desc := "()V", sig := { parameters := [], returnType := none }, accessFlags := 1, code := some k19c0 }
def k19c1 : Code := { maxStack := 4, maxLocals := 4, code := jdk_38_method_6_code, exceptionTable := #[], attributes := #[] }
def k19m1 : Method := { name := "grow", desc := "(I)[Ljava/lang/Object;", sig := { parameters := [.int], returnType := some (.array (.object "java/lang/Object")) }, accessFlags := 2, code := some k19c1 }
def k19c2 : Code := { maxStack := 3, maxLocals := 1, code := jdk_38_method_7_code, exceptionTable := #[], attributes := #[] }
def k19m2 : Method := { name := "grow", desc := "()[Ljava/lang/Object;", sig := { parameters := [], returnType := some (.array (.object "java/lang/Object")) }, accessFlags := 2, code := some k19c2 }
def k19c3 : Code := { maxStack := 1, maxLocals := 1, code := jdk_38_method_8_code, exceptionTable := #[], attributes := #[] }
def k19m3 : Method := { name := "size", desc := "()I", sig := { parameters := [], returnType := some .int }, accessFlags := 1, code := some k19c3 }
def k19c4 : Code := { maxStack := 3, maxLocals := 4, code := jdk_38_method_24_code, exceptionTable := #[], attributes := #[] }
def k19m4 : Method := { name := "add", desc := "(Ljava/lang/Object;[Ljava/lang/Object;I)V", sig := { parameters := [(.object "java/lang/Object"), (.array (.object "java/lang/Object")), .int], returnType := none }, accessFlags := 2, code := some k19c4 }
def k19c5 : Code := { maxStack := 4, maxLocals := 2, code := jdk_38_method_25_code, exceptionTable := #[], attributes := #[] }
def k19m5 : Method := { name := "add", desc := "(Ljava/lang/Object;)Z", sig := { parameters := [(.object "java/lang/Object")], returnType := some .boolean }, accessFlags := 1, code := some k19c5 }
/-- java/util/ArrayList -/
def k19 : Class := { plain "java/util/ArrayList" (some 16) with
  accessFlags := 33
  interfaces := #[15, 17, 18, 2]
  cf := some (fileOf pool19 10 #[.nestMembers #[290, 276, 500, 502, 262, 267]] #[{ accessFlags := 1, nameIndex := 5, descriptorIndex := 6, attributes := #[] }, { accessFlags := 2, nameIndex := 71, descriptorIndex := 72, attributes := #[] }, { accessFlags := 2, nameIndex := 71, descriptorIndex := 47, attributes := #[] }, { accessFlags := 1, nameIndex := 50, descriptorIndex := 186, attributes := #[] }, { accessFlags := 2, nameIndex := 133, descriptorIndex := 134, attributes := #[] }, { accessFlags := 1, nameIndex := 133, descriptorIndex := 96, attributes := #[] }] 33 2 #[148, 329, 331, 333] #[{ accessFlags := 26, nameIndex := 335, descriptorIndex := 336, attributes := #[] }, { accessFlags := 26, nameIndex := 340, descriptorIndex := 51, attributes := #[] }, { accessFlags := 26, nameIndex := 17, descriptorIndex := 14, attributes := #[] }, { accessFlags := 26, nameIndex := 41, descriptorIndex := 14, attributes := #[] }, { accessFlags := 128, nameIndex := 13, descriptorIndex := 14, attributes := #[] }, { accessFlags := 2, nameIndex := 50, descriptorIndex := 51, attributes := #[] }])
  fields := #[{ name := "serialVersionUID", type := .long, accessFlags := 26, slot := 0, constantValue := 0 }, { name := "DEFAULT_CAPACITY", type := .int, accessFlags := 26, slot := 1, constantValue := 0 }, { name := "EMPTY_ELEMENTDATA", type := (.array (.object "java/lang/Object")), accessFlags := 26, slot := 2, constantValue := 0 }, { name := "DEFAULTCAPACITY_EMPTY_ELEMENTDATA", type := (.array (.object "java/lang/Object")), accessFlags := 26, slot := 3, constantValue := 0 }, { name := "elementData", type := (.array (.object "java/lang/Object")), accessFlags := 128, slot := 1, constantValue := 0 }, { name := "size", type := .int, accessFlags := 2, slot := 2, constantValue := 0 }]
  methods := #[k19m0, k19m1, k19m2, k19m3, k19m4, k19m5]
  instanceTypes := #[.int, (.array (.object "java/lang/Object")), .int]
  staticTypes := #[.long, .int, (.array (.object "java/lang/Object")), (.array (.object "java/lang/Object"))]
  resolved := Array.replicate 509 none
  statics := some 1 }

def pool20 : Array CpInfo := pool [(1, .methodref 2 3), (0, .class_ 4), (0, .nameAndType 5 6), (0, u "java/lang/Object"), (0, u "<init>"), (0, u "()V"), (0, .class_ 8), (0, u "java/lang/Record")] 13

def k20c0 : Code := { maxStack := 1, maxLocals := 1, code := jdk_30_method_1_code, exceptionTable := #[], attributes := #[] }
def k20m0 : Method := { name := "<init>", desc := "()V", sig := { parameters := [], returnType := none }, accessFlags := 4, code := some k20c0 }
/-- java/lang/Record -/
def k20 : Class := { plain "java/lang/Record" (some 0) with
  accessFlags := 1057
  interfaces := #[]
  cf := some (fileOf pool20 7 #[] #[{ accessFlags := 4, nameIndex := 5, descriptorIndex := 6, attributes := #[] }] 1057 2 #[] #[])
  fields := #[]
  methods := #[k20m0]
  instanceTypes := #[]
  staticTypes := #[]
  resolved := Array.replicate 22 none
  statics := none }

def pool21 : Array CpInfo := pool [(1, .methodref 2 3), (0, .class_ 4), (0, .nameAndType 5 6), (0, u "java/lang/Record"), (0, u "<init>"), (0, u "()V"), (0, .fieldref 8 9), (0, .class_ 10), (0, .nameAndType 11 12), (0, u "com/example/outlet_to_office/outlettooffice/server/Problem"), (0, u "field"), (0, u "Ljava/lang/String;"), (0, .fieldref 8 14), (0, .nameAndType 15 12), (0, u "type"), (0, .fieldref 8 17), (0, .nameAndType 18 12), (0, u "message"), (0, .fieldref 8 20), (0, .nameAndType 21 22), (0, u "line"), (0, u "Ljava/lang/Integer;"), (0, .methodref 8 24), (0, .nameAndType 5 25), (0, u "(Ljava/lang/String;Ljava/lang/String;Ljava/lang/String;Ljava/lang/Integer;)V"), (12, u "(Ljava/lang/String;Ljava/lang/String;Ljava/lang/String;)V")] 30

def k21c0 : Code := { maxStack := 5, maxLocals := 4, code := prog_21_method_1_code, exceptionTable := #[], attributes := #[] }
def k21m0 : Method := { name := "<init>", desc := "(Ljava/lang/String;Ljava/lang/String;Ljava/lang/String;)V", sig := { parameters := [(.object "java/lang/String"), (.object "java/lang/String"), (.object "java/lang/String")], returnType := none }, accessFlags := 1, code := some k21c0 }
def k21c1 : Code := { maxStack := 2, maxLocals := 5, code := prog_21_method_2_code, exceptionTable := #[], attributes := #[] }
def k21m1 : Method := { name := "<init>", desc := "(Ljava/lang/String;Ljava/lang/String;Ljava/lang/String;Ljava/lang/Integer;)V", sig := { parameters := [(.object "java/lang/String"), (.object "java/lang/String"), (.object "java/lang/String"), (.object "java/lang/Integer")], returnType := none }, accessFlags := 1, code := some k21c1 }
/-- com/example/outlet_to_office/outlettooffice/server/Problem -/
def k21 : Class := { plain "com/example/outlet_to_office/outlettooffice/server/Problem" (some 20) with
  accessFlags := 49
  interfaces := #[]
  cf := some (fileOf pool21 8 #[] #[{ accessFlags := 1, nameIndex := 5, descriptorIndex := 38, attributes := #[] }, { accessFlags := 1, nameIndex := 5, descriptorIndex := 25, attributes := #[] }] 49 2 #[] #[{ accessFlags := 18, nameIndex := 11, descriptorIndex := 12, attributes := #[] }, { accessFlags := 18, nameIndex := 15, descriptorIndex := 12, attributes := #[] }, { accessFlags := 18, nameIndex := 18, descriptorIndex := 12, attributes := #[] }, { accessFlags := 18, nameIndex := 21, descriptorIndex := 22, attributes := #[] }])
  fields := #[{ name := "field", type := (.object "java/lang/String"), accessFlags := 18, slot := 0, constantValue := 0 }, { name := "type", type := (.object "java/lang/String"), accessFlags := 18, slot := 1, constantValue := 0 }, { name := "message", type := (.object "java/lang/String"), accessFlags := 18, slot := 2, constantValue := 0 }, { name := "line", type := (.object "java/lang/Integer"), accessFlags := 18, slot := 3, constantValue := 0 }]
  methods := #[k21m0, k21m1]
  instanceTypes := #[(.object "java/lang/String"), (.object "java/lang/String"), (.object "java/lang/String"), (.object "java/lang/Integer")]
  staticTypes := #[]
  resolved := Array.replicate 69 none
  statics := none }

def pool22 : Array CpInfo := pool [(1, .methodref 2 3), (0, .class_ 4), (0, .nameAndType 5 6), (0, u "java/lang/Object"), (0, u "<init>"), (0, u "()V"), (1, .class_ 10), (1, u "java/lang/Number"), (2, .class_ 14), (0, u "java/io/Serializable"), (0, u "serialVersionUID"), (0, u "J")] 20

def k22c0 : Code := { maxStack := 1, maxLocals := 1, code := jdk_18_method_1_code, exceptionTable := #[], attributes := #[] }
def k22m0 : Method := { name := "<init>", desc := "()V", sig := { parameters := [], returnType := none }, accessFlags := 1, code := some k22c0 }
/-- java/lang/Number -/
def k22 : Class := { plain "java/lang/Number" (some 0) with
  accessFlags := 1057
  interfaces := #[2]
  cf := some (fileOf pool22 8 #[] #[{ accessFlags := 1, nameIndex := 5, descriptorIndex := 6, attributes := #[] }] 1057 2 #[13] #[{ accessFlags := 26, nameIndex := 15, descriptorIndex := 16, attributes := #[] }])
  fields := #[{ name := "serialVersionUID", type := .long, accessFlags := 26, slot := 0, constantValue := 0 }]
  methods := #[k22m0]
  instanceTypes := #[]
  staticTypes := #[.long]
  resolved := Array.replicate 37 none
  statics := none }

def pool23 : Array CpInfo := pool [(1, .class_ 2), (0, u "java/lang/Integer"), (16, u "digits"), (0, u "[C"), (46, u "<init>"), (17, u "DigitOnes"), (0, u "[B"), (2, u "DigitTens"), (10, .nameAndType 67 101), (0, u "()V"), (85, u "valueOf"), (0, u "(I)Ljava/lang/Integer;"), (0, .class_ 190), (0, u "java/lang/Integer$IntegerCache"), (0, .fieldref 189 192), (0, .nameAndType 193 194), (0, u "high"), (0, u "I"), (0, .fieldref 189 196), (0, .nameAndType 197 198), (0, u "cache"), (0, u "[Ljava/lang/Integer;"), (0, .methodref 1 200), (0, .nameAndType 67 201), (0, u "(I)V"), (0, .methodref 203 100), (0, .class_ 204), (0, u "java/lang/Number"), (0, .fieldref 1 206), (0, .nameAndType 207 194), (0, u "value"), (94, u "TYPE"), (0, u "Ljava/lang/Class;"), (0, .class_ 305), (0, u "java/lang/Comparable"), (0, .class_ 307), (0, u "java/lang/constant/Constable"), (0, .class_ 309), (0, u "java/lang/constant/ConstantDesc"), (0, u "MIN_VALUE"), (1, u "MAX_VALUE"), (3, u "SIZE"), (1, u "BYTES"), (1, u "serialVersionUID"), (0, u "J")] 131

def k23c0 : Code := { maxStack := 3, maxLocals := 1, code := jdk_33_method_22_code, exceptionTable := #[], attributes := #[] }
def k23m0 : Method := { name := "valueOf", desc := "(I)Ljava/lang/Integer;", sig := { parameters := [.int], returnType := some (.object "java/lang/Integer") }, accessFlags := 9, code := some k23c0 }
def k23c1 : Code := { maxStack := 2, maxLocals := 2, code := jdk_33_method_23_code, exceptionTable := #[], attributes := #[] }
def k23m1 : Method := { name := "<init>", desc := "(I)V", sig := { parameters := [.int], returnType := none }, accessFlags := 1, code := some k23c1 }
/-- java/lang/Integer -/
def k23 : Class := { plain "java/lang/Integer" (some 22) with
  accessFlags := 49
  interfaces := #[3, 5, 6]
  cf := some (fileOf pool23 1 #[.nestMembers #[189]] #[{ accessFlags := 9, nameIndex := 187, descriptorIndex := 188, attributes := #[] }, { accessFlags := 1, nameIndex := 67, descriptorIndex := 201, attributes := #[] }] 49 203 #[304, 306, 308] #[{ accessFlags := 25, nameIndex := 310, descriptorIndex := 194, attributes := #[] }, { accessFlags := 25, nameIndex := 312, descriptorIndex := 194, attributes := #[] }, { accessFlags := 25, nameIndex := 302, descriptorIndex := 303, attributes := #[] }, { accessFlags := 24, nameIndex := 19, descriptorIndex := 20, attributes := #[] }, { accessFlags := 24, nameIndex := 89, descriptorIndex := 86, attributes := #[] }, { accessFlags := 24, nameIndex := 85, descriptorIndex := 86, attributes := #[] }, { accessFlags := 18, nameIndex := 207, descriptorIndex := 194, attributes := #[] }, { accessFlags := 25, nameIndex := 316, descriptorIndex := 194, attributes := #[] }, { accessFlags := 25, nameIndex := 318, descriptorIndex := 194, attributes := #[] }, { accessFlags := 26, nameIndex := 320, descriptorIndex := 321, attributes := #[] }])
  fields := #[{ name := "MIN_VALUE", type := .int, accessFlags := 25, slot := 0, constantValue := 0 }, { name := "MAX_VALUE", type := .int, accessFlags := 25, slot := 1, constantValue := 0 }, { name := "TYPE", type := (.object "java/lang/Class"), accessFlags := 25, slot := 2, constantValue := 0 }, { name := "digits", type := (.array .char), accessFlags := 24, slot := 3, constantValue := 0 }, { name := "DigitTens", type := (.array .byte), accessFlags := 24, slot := 4, constantValue := 0 }, { name := "DigitOnes", type := (.array .byte), accessFlags := 24, slot := 5, constantValue := 0 }, { name := "value", type := .int, accessFlags := 18, slot := 0, constantValue := 0 }, { name := "SIZE", type := .int, accessFlags := 25, slot := 6, constantValue := 0 }, { name := "BYTES", type := .int, accessFlags := 25, slot := 7, constantValue := 0 }, { name := "serialVersionUID", type := .long, accessFlags := 26, slot := 8, constantValue := 0 }]
  methods := #[k23m0, k23m1]
  instanceTypes := #[.int]
  staticTypes := #[.int, .int, (.object "java/lang/Class"), (.array .char), (.array .byte), (.array .byte), .int, .int, .long]
  resolved := Array.replicate 453 none
  statics := none }

def pool24 : Array CpInfo := pool [(2, .class_ 4), (1, u "java/lang/Object"), (0, u "<init>"), (0, u "()V"), (0, .class_ 8), (0, u "java/lang/Integer"), (7, .class_ 18), (1, u "java/lang/Integer$IntegerCache"), (0, u "$assertionsDisabled"), (0, u "Z"), (26, u "high"), (0, u "I"), (8, u "archivedCache"), (0, u "[Ljava/lang/Integer;"), (12, u "cache"), (0, u "low")] 27

def k24m0 : Method := { name := "<init>", desc := "()V", sig := { parameters := [], returnType := none }, accessFlags := 2, code := none }
/-- java/lang/Integer$IntegerCache -/
def k24 : Class := { plain "java/lang/Integer$IntegerCache" (some 0) with
  accessFlags := 48
  interfaces := #[]
  cf := some (fileOf pool24 16 #[.nestHost 7] #[{ accessFlags := 2, nameIndex := 5, descriptorIndex := 6, attributes := #[] }] 48 2 #[] #[{ accessFlags := 24, nameIndex := 72, descriptorIndex := 48, attributes := #[] }, { accessFlags := 24, nameIndex := 47, descriptorIndex := 48, attributes := #[] }, { accessFlags := 24, nameIndex := 71, descriptorIndex := 58, attributes := #[] }, { accessFlags := 8, nameIndex := 57, descriptorIndex := 58, attributes := #[] }, { accessFlags := 4120, nameIndex := 19, descriptorIndex := 20, attributes := #[] }])
  fields := #[{ name := "low", type := .int, accessFlags := 24, slot := 0, constantValue := 0 }, { name := "high", type := .int, accessFlags := 24, slot := 1, constantValue := 0 }, { name := "cache", type := (.array (.object "java/lang/Integer")), accessFlags := 24, slot := 2, constantValue := 0 }, { name := "archivedCache", type := (.array (.object "java/lang/Integer")), accessFlags := 8, slot := 3, constantValue := 0 }, { name := "$assertionsDisabled", type := .boolean, accessFlags := 4120, slot := 4, constantValue := 0 }]
  methods := #[k24m0]
  instanceTypes := #[]
  staticTypes := #[.int, .int, (.array (.object "java/lang/Integer")), (.array (.object "java/lang/Integer")), .boolean]
  resolved := Array.replicate 100 none
  statics := some 2 }

def pool25 : Array CpInfo := pool [(1, .class_ 2), (0, u "java/lang/Math"), (1, .class_ 6), (1, u "java/lang/Object"), (0, u "<init>"), (0, u "()V"), (89, .class_ 100), (1, u "java/lang/Math$RandomNumberGeneratorHolder"), (71, u "negativeZeroFloatBits"), (0, u "J"), (2, u "negativeZeroDoubleBits"), (21, u "max"), (46, u "$assertionsDisabled"), (0, u "Z"), (88, u "(II)I"), (2, u "twoToTheDoubleScaleDown"), (0, u "D"), (4, u "twoToTheDoubleScaleUp"), (9, u "E"), (3, u "PI"), (2, u "TAU"), (2, u "DEGREES_TO_RADIANS"), (0, u "RADIANS_TO_DEGREES")] 94

def k25m0 : Method := { name := "<init>", desc := "()V", sig := { parameters := [], returnType := none }, accessFlags := 2, code := none }
def k25c1 : Code := { maxStack := 2, maxLocals := 2, code := jdk_29_method_65_code, exceptionTable := #[], attributes := #[] }
def k25m1 : Method := { name := "max", desc := "(II)I", sig := { parameters := [.int, .int], returnType := some .int }, accessFlags := 9, code := some k25c1 }
/-- java/lang/Math -/
def k25 : Class := { plain "java/lang/Math" (some 0) with
  accessFlags := 49
  interfaces := #[]
  cf := some (fileOf pool25 1 #[.nestMembers #[98]] #[{ accessFlags := 2, nameIndex := 7, descriptorIndex := 8, attributes := #[] }, { accessFlags := 9, nameIndex := 198, descriptorIndex := 335, attributes := #[] }] 49 4 #[] #[{ accessFlags := 25, nameIndex := 354, descriptorIndex := 339, attributes := #[] }, { accessFlags := 25, nameIndex := 358, descriptorIndex := 339, attributes := #[] }, { accessFlags := 25, nameIndex := 361, descriptorIndex := 339, attributes := #[] }, { accessFlags := 26, nameIndex := 364, descriptorIndex := 339, attributes := #[] }, { accessFlags := 26, nameIndex := 365, descriptorIndex := 339, attributes := #[] }, { accessFlags := 26, nameIndex := 172, descriptorIndex := 173, attributes := #[] }, { accessFlags := 26, nameIndex := 176, descriptorIndex := 173, attributes := #[] }, { accessFlags := 8, nameIndex := 344, descriptorIndex := 339, attributes := #[] }, { accessFlags := 8, nameIndex := 338, descriptorIndex := 339, attributes := #[] }, { accessFlags := 4120, nameIndex := 245, descriptorIndex := 246, attributes := #[] }])
  fields := #[{ name := "E", type := .double, accessFlags := 25, slot := 0, constantValue := 0 }, { name := "PI", type := .double, accessFlags := 25, slot := 1, constantValue := 0 }, { name := "TAU", type := .double, accessFlags := 25, slot := 2, constantValue := 0 }, { name := "DEGREES_TO_RADIANS", type := .double, accessFlags := 26, slot := 3, constantValue := 0 }, { name := "RADIANS_TO_DEGREES", type := .double, accessFlags := 26, slot := 4, constantValue := 0 }, { name := "negativeZeroFloatBits", type := .long, accessFlags := 26, slot := 5, constantValue := 0 }, { name := "negativeZeroDoubleBits", type := .long, accessFlags := 26, slot := 6, constantValue := 0 }, { name := "twoToTheDoubleScaleUp", type := .double, accessFlags := 8, slot := 7, constantValue := 0 }, { name := "twoToTheDoubleScaleDown", type := .double, accessFlags := 8, slot := 8, constantValue := 0 }, { name := "$assertionsDisabled", type := .boolean, accessFlags := 4120, slot := 9, constantValue := 0 }]
  methods := #[k25m0, k25m1]
  instanceTypes := #[]
  staticTypes := #[.double, .double, .double, .double, .double, .long, .long, .double, .double, .boolean]
  resolved := Array.replicate 460 none
  statics := none }

def pool26 : Array CpInfo := pool [(2, .class_ 4), (1, u "java/lang/Object"), (0, u "<init>"), (0, u "()V"), (17, .class_ 26), (1, u "jdk/internal/util/Preconditions"), (28, .class_ 56), (0, u "jdk/internal/util/Preconditions$4"), (57, .class_ 115), (0, u "jdk/internal/util/Preconditions$1"), (7, u "SIOOBE_FORMATTER"), (0, u "Ljava/util/function/BiFunction;"), (0, .class_ 126), (0, u "jdk/internal/util/Preconditions$2"), (3, u "AIOOBE_FORMATTER"), (0, .class_ 132), (0, u "jdk/internal/util/Preconditions$3"), (3, u "IOOBE_FORMATTER")] 57

def k26m0 : Method := { name := "<init>", desc := "()V", sig := { parameters := [], returnType := none }, accessFlags := 1, code := none }
/-- jdk/internal/util/Preconditions -/
def k26 : Class := { plain "jdk/internal/util/Preconditions" (some 0) with
  accessFlags := 33
  interfaces := #[]
  cf := some (fileOf pool26 24 #[.nestMembers #[55, 131, 125, 114]] #[{ accessFlags := 1, nameIndex := 5, descriptorIndex := 6, attributes := #[] }] 33 2 #[] #[{ accessFlags := 25, nameIndex := 123, descriptorIndex := 124, attributes := #[] }, { accessFlags := 25, nameIndex := 130, descriptorIndex := 124, attributes := #[] }, { accessFlags := 25, nameIndex := 136, descriptorIndex := 124, attributes := #[] }])
  fields := #[{ name := "SIOOBE_FORMATTER", type := (.object "java/util/function/BiFunction"), accessFlags := 25, slot := 0, constantValue := 0 }, { name := "AIOOBE_FORMATTER", type := (.object "java/util/function/BiFunction"), accessFlags := 25, slot := 1, constantValue := 0 }, { name := "IOOBE_FORMATTER", type := (.object "java/util/function/BiFunction"), accessFlags := 25, slot := 2, constantValue := 0 }]
  methods := #[k26m0]
  instanceTypes := #[]
  staticTypes := #[(.object "java/util/function/BiFunction"), (.object "java/util/function/BiFunction"), (.object "java/util/function/BiFunction")]
  resolved := Array.replicate 194 none
  statics := some 3 }

def pool27 : Array CpInfo := pool [(9, u "<init>"), (6, .class_ 18), (1, u "java/lang/Object"), (0, u "()V"), (1, .class_ 23), (1, u "jdk/internal/util/ArraysSupport"), (0, u "LOG2_ARRAY_LONG_INDEX_SCALE"), (0, u "I"), (2, u "U"), (0, u "Ljdk/internal/misc/Unsafe;"), (8, u "BIG_ENDIAN"), (0, u "Z"), (8, u "LOG2_BYTE_BIT_SIZE"), (4, u "LOG2_ARRAY_INT_INDEX_SCALE"), (54, u "JLA"), (0, u "Ljdk/internal/access/JavaLangAccess;"), (11, u "LOG2_ARRAY_BOOLEAN_INDEX_SCALE"), (9, u "LOG2_ARRAY_BYTE_INDEX_SCALE"), (5, u "LOG2_ARRAY_CHAR_INDEX_SCALE"), (5, u "LOG2_ARRAY_SHORT_INDEX_SCALE"), (18, u "LOG2_ARRAY_FLOAT_INDEX_SCALE"), (24, u "LOG2_ARRAY_DOUBLE_INDEX_SCALE"), (89, u "T_BOOLEAN"), (2, u "T_CHAR"), (1, u "T_FLOAT"), (1, u "T_DOUBLE"), (1, u "T_BYTE"), (1, u "T_SHORT"), (1, u "T_INT"), (1, u "T_LONG"), (1, u "SOFT_MAX_ARRAY_LENGTH")] 83

def k27m0 : Method := { name := "<init>", desc := "()V", sig := { parameters := [], returnType := none }, accessFlags := 2, code := none }
/-- jdk/internal/util/ArraysSupport -/
def k27 : Class := { plain "jdk/internal/util/ArraysSupport" (some 0) with
  accessFlags := 33
  interfaces := #[]
  cf := some (fileOf pool27 21 #[] #[{ accessFlags := 2, nameIndex := 9, descriptorIndex := 19, attributes := #[] }] 33 16 #[] #[{ accessFlags := 24, nameIndex := 28, descriptorIndex := 29, attributes := #[] }, { accessFlags := 26, nameIndex := 38, descriptorIndex := 39, attributes := #[] }, { accessFlags := 25, nameIndex := 121, descriptorIndex := 25, attributes := #[] }, { accessFlags := 25, nameIndex := 131, descriptorIndex := 25, attributes := #[] }, { accessFlags := 25, nameIndex := 137, descriptorIndex := 25, attributes := #[] }, { accessFlags := 25, nameIndex := 143, descriptorIndex := 25, attributes := #[] }, { accessFlags := 25, nameIndex := 53, descriptorIndex := 25, attributes := #[] }, { accessFlags := 25, nameIndex := 24, descriptorIndex := 25, attributes := #[] }, { accessFlags := 25, nameIndex := 162, descriptorIndex := 25, attributes := #[] }, { accessFlags := 25, nameIndex := 187, descriptorIndex := 25, attributes := #[] }, { accessFlags := 26, nameIndex := 48, descriptorIndex := 25, attributes := #[] }, { accessFlags := 25, nameIndex := 277, descriptorIndex := 25, attributes := #[] }, { accessFlags := 25, nameIndex := 280, descriptorIndex := 25, attributes := #[] }, { accessFlags := 25, nameIndex := 282, descriptorIndex := 25, attributes := #[] }, { accessFlags := 25, nameIndex := 284, descriptorIndex := 25, attributes := #[] }, { accessFlags := 25, nameIndex := 286, descriptorIndex := 25, attributes := #[] }, { accessFlags := 25, nameIndex := 288, descriptorIndex := 25, attributes := #[] }, { accessFlags := 25, nameIndex := 290, descriptorIndex := 25, attributes := #[] }, { accessFlags := 25, nameIndex := 292, descriptorIndex := 25, attributes := #[] }, { accessFlags := 26, nameIndex := 108, descriptorIndex := 109, attributes := #[] }, { accessFlags := 25, nameIndex := 294, descriptorIndex := 25, attributes := #[] }])
  fields := #[{ name := "U", type := (.object "jdk/internal/misc/Unsafe"), accessFlags := 24, slot := 0, constantValue := 0 }, { name := "BIG_ENDIAN", type := .boolean, accessFlags := 26, slot := 1, constantValue := 0 }, { name := "LOG2_ARRAY_BOOLEAN_INDEX_SCALE", type := .int, accessFlags := 25, slot := 2, constantValue := 0 }, { name := "LOG2_ARRAY_BYTE_INDEX_SCALE", type := .int, accessFlags := 25, slot := 3, constantValue := 0 }, { name := "LOG2_ARRAY_CHAR_INDEX_SCALE", type := .int, accessFlags := 25, slot := 4, constantValue := 0 }, { name := "LOG2_ARRAY_SHORT_INDEX_SCALE", type := .int, accessFlags := 25, slot := 5, constantValue := 0 }, { name := "LOG2_ARRAY_INT_INDEX_SCALE", type := .int, accessFlags := 25, slot := 6, constantValue := 0 }, { name := "LOG2_ARRAY_LONG_INDEX_SCALE", type := .int, accessFlags := 25, slot := 7, constantValue := 0 }, { name := "LOG2_ARRAY_FLOAT_INDEX_SCALE", type := .int, accessFlags := 25, slot := 8, constantValue := 0 }, { name := "LOG2_ARRAY_DOUBLE_INDEX_SCALE", type := .int, accessFlags := 25, slot := 9, constantValue := 0 }, { name := "LOG2_BYTE_BIT_SIZE", type := .int, accessFlags := 26, slot := 10, constantValue := 0 }, { name := "T_BOOLEAN", type := .int, accessFlags := 25, slot := 11, constantValue := 0 }, { name := "T_CHAR", type := .int, accessFlags := 25, slot := 12, constantValue := 0 }, { name := "T_FLOAT", type := .int, accessFlags := 25, slot := 13, constantValue := 0 }, { name := "T_DOUBLE", type := .int, accessFlags := 25, slot := 14, constantValue := 0 }, { name := "T_BYTE", type := .int, accessFlags := 25, slot := 15, constantValue := 0 }, { name := "T_SHORT", type := .int, accessFlags := 25, slot := 16, constantValue := 0 }, { name := "T_INT", type := .int, accessFlags := 25, slot := 17, constantValue := 0 }, { name := "T_LONG", type := .int, accessFlags := 25, slot := 18, constantValue := 0 }, { name := "JLA", type := (.object "jdk/internal/access/JavaLangAccess"), accessFlags := 26, slot := 19, constantValue := 0 }, { name := "SOFT_MAX_ARRAY_LENGTH", type := .int, accessFlags := 25, slot := 20, constantValue := 0 }]
  methods := #[k27m0]
  instanceTypes := #[]
  staticTypes := #[(.object "jdk/internal/misc/Unsafe"), .boolean, .int, .int, .int, .int, .int, .int, .int, .int, .int, .int, .int, .int, .int, .int, .int, .int, .int, (.object "jdk/internal/access/JavaLangAccess"), .int]
  resolved := Array.replicate 378 none
  statics := none }

/-- the primitive byte -/
def k28 : Class := { plain "byte" none with kind := .primitive 'B', accessFlags := 0x411 }
/-- [B -/
def k29 : Class := { plain "[B" (some 0) with kind := .array 28 .byte, interfaces := #[18, 2], accessFlags := 1041 }

/-- the primitive char -/
def k30 : Class := { plain "char" none with kind := .primitive 'C', accessFlags := 0x411 }
/-- [C -/
def k31 : Class := { plain "[C" (some 0) with kind := .array 30 .char, interfaces := #[18, 2], accessFlags := 1041 }

/-- the primitive int -/
def k32 : Class := { plain "int" none with kind := .primitive 'I', accessFlags := 0x411 }
/-- [I -/
def k33 : Class := { plain "[I" (some 0) with kind := .array 32 .int, interfaces := #[18, 2], accessFlags := 1041 }

/-- [Ljava/lang/Integer; -/
def k34 : Class := { plain "[Ljava/lang/Integer;" (some 0) with kind := .array 23 (.object "java/lang/Integer"), interfaces := #[18, 2], accessFlags := 1041 }

/-- [Ljava/lang/Object; -/
def k35 : Class := { plain "[Ljava/lang/Object;" (some 0) with kind := .array 0 (.object "java/lang/Object"), interfaces := #[18, 2], accessFlags := 1041 }

def heap : Heap := #[{ cls := 7, slots := #[.long 0, .int 1, .null, .int 0, .null, .int 0, .int 0], vm := .statics 7 },
  { cls := 19, slots := #[.long 0, .int 0, .ref 261, .ref 262], vm := .statics 19 },
  { cls := 24, slots := #[.int 0, .int 127, .ref 4, .null, .int 0], vm := .statics 24 },
  { cls := 26, slots := #[.null, .null, .null], vm := .statics 26 },
  { cls := 34, slots := #[.ref 5, .ref 6, .ref 7, .ref 8, .ref 9, .ref 10, .ref 11, .ref 12, .ref 13, .ref 14, .ref 15, .ref 16, .ref 17, .ref 18, .ref 19, .ref 20, .ref 21, .ref 22, .ref 23, .ref 24, .ref 25, .ref 26, .ref 27, .ref 28, .ref 29, .ref 30, .ref 31, .ref 32, .ref 33, .ref 34, .ref 35, .ref 36, .ref 37, .ref 38, .ref 39, .ref 40, .ref 41, .ref 42, .ref 43, .ref 44, .ref 45, .ref 46, .ref 47, .ref 48, .ref 49, .ref 50, .ref 51, .ref 52, .ref 53, .ref 54, .ref 55, .ref 56, .ref 57, .ref 58, .ref 59, .ref 60, .ref 61, .ref 62, .ref 63, .ref 64, .ref 65, .ref 66, .ref 67, .ref 68, .ref 69, .ref 70, .ref 71, .ref 72, .ref 73, .ref 74, .ref 75, .ref 76, .ref 77, .ref 78, .ref 79, .ref 80, .ref 81, .ref 82, .ref 83, .ref 84, .ref 85, .ref 86, .ref 87, .ref 88, .ref 89, .ref 90, .ref 91, .ref 92, .ref 93, .ref 94, .ref 95, .ref 96, .ref 97, .ref 98, .ref 99, .ref 100, .ref 101, .ref 102, .ref 103, .ref 104, .ref 105, .ref 106, .ref 107, .ref 108, .ref 109, .ref 110, .ref 111, .ref 112, .ref 113, .ref 114, .ref 115, .ref 116, .ref 117, .ref 118, .ref 119, .ref 120, .ref 121, .ref 122, .ref 123, .ref 124, .ref 125, .ref 126, .ref 127, .ref 128, .ref 129, .ref 130, .ref 131, .ref 132, .ref 133, .ref 134, .ref 135, .ref 136, .ref 137, .ref 138, .ref 139, .ref 140, .ref 141, .ref 142, .ref 143, .ref 144, .ref 145, .ref 146, .ref 147, .ref 148, .ref 149, .ref 150, .ref 151, .ref 152, .ref 153, .ref 154, .ref 155, .ref 156, .ref 157, .ref 158, .ref 159, .ref 160, .ref 161, .ref 162, .ref 163, .ref 164, .ref 165, .ref 166, .ref 167, .ref 168, .ref 169, .ref 170, .ref 171, .ref 172, .ref 173, .ref 174, .ref 175, .ref 176, .ref 177, .ref 178, .ref 179, .ref 180, .ref 181, .ref 182, .ref 183, .ref 184, .ref 185, .ref 186, .ref 187, .ref 188, .ref 189, .ref 190, .ref 191, .ref 192, .ref 193, .ref 194, .ref 195, .ref 196, .ref 197, .ref 198, .ref 199, .ref 200, .ref 201, .ref 202, .ref 203, .ref 204, .ref 205, .ref 206, .ref 207, .ref 208, .ref 209, .ref 210, .ref 211, .ref 212, .ref 213, .ref 214, .ref 215, .ref 216, .ref 217, .ref 218, .ref 219, .ref 220, .ref 221, .ref 222, .ref 223, .ref 224, .ref 225, .ref 226, .ref 227, .ref 228, .ref 229, .ref 230, .ref 231, .ref 232, .ref 233, .ref 234, .ref 235, .ref 236, .ref 237, .ref 238, .ref 239, .ref 240, .ref 241, .ref 242, .ref 243, .ref 244, .ref 245, .ref 246, .ref 247, .ref 248, .ref 249, .ref 250, .ref 251, .ref 252, .ref 253, .ref 254, .ref 255, .ref 256, .ref 257, .ref 258, .ref 259, .ref 260], vm := .none },
  { cls := 23, slots := #[.int (-128)], vm := .none },
  { cls := 23, slots := #[.int (-127)], vm := .none },
  { cls := 23, slots := #[.int (-126)], vm := .none },
  { cls := 23, slots := #[.int (-125)], vm := .none },
  { cls := 23, slots := #[.int (-124)], vm := .none },
  { cls := 23, slots := #[.int (-123)], vm := .none },
  { cls := 23, slots := #[.int (-122)], vm := .none },
  { cls := 23, slots := #[.int (-121)], vm := .none },
  { cls := 23, slots := #[.int (-120)], vm := .none },
  { cls := 23, slots := #[.int (-119)], vm := .none },
  { cls := 23, slots := #[.int (-118)], vm := .none },
  { cls := 23, slots := #[.int (-117)], vm := .none },
  { cls := 23, slots := #[.int (-116)], vm := .none },
  { cls := 23, slots := #[.int (-115)], vm := .none },
  { cls := 23, slots := #[.int (-114)], vm := .none },
  { cls := 23, slots := #[.int (-113)], vm := .none },
  { cls := 23, slots := #[.int (-112)], vm := .none },
  { cls := 23, slots := #[.int (-111)], vm := .none },
  { cls := 23, slots := #[.int (-110)], vm := .none },
  { cls := 23, slots := #[.int (-109)], vm := .none },
  { cls := 23, slots := #[.int (-108)], vm := .none },
  { cls := 23, slots := #[.int (-107)], vm := .none },
  { cls := 23, slots := #[.int (-106)], vm := .none },
  { cls := 23, slots := #[.int (-105)], vm := .none },
  { cls := 23, slots := #[.int (-104)], vm := .none },
  { cls := 23, slots := #[.int (-103)], vm := .none },
  { cls := 23, slots := #[.int (-102)], vm := .none },
  { cls := 23, slots := #[.int (-101)], vm := .none },
  { cls := 23, slots := #[.int (-100)], vm := .none },
  { cls := 23, slots := #[.int (-99)], vm := .none },
  { cls := 23, slots := #[.int (-98)], vm := .none },
  { cls := 23, slots := #[.int (-97)], vm := .none },
  { cls := 23, slots := #[.int (-96)], vm := .none },
  { cls := 23, slots := #[.int (-95)], vm := .none },
  { cls := 23, slots := #[.int (-94)], vm := .none },
  { cls := 23, slots := #[.int (-93)], vm := .none },
  { cls := 23, slots := #[.int (-92)], vm := .none },
  { cls := 23, slots := #[.int (-91)], vm := .none },
  { cls := 23, slots := #[.int (-90)], vm := .none },
  { cls := 23, slots := #[.int (-89)], vm := .none },
  { cls := 23, slots := #[.int (-88)], vm := .none },
  { cls := 23, slots := #[.int (-87)], vm := .none },
  { cls := 23, slots := #[.int (-86)], vm := .none },
  { cls := 23, slots := #[.int (-85)], vm := .none },
  { cls := 23, slots := #[.int (-84)], vm := .none },
  { cls := 23, slots := #[.int (-83)], vm := .none },
  { cls := 23, slots := #[.int (-82)], vm := .none },
  { cls := 23, slots := #[.int (-81)], vm := .none },
  { cls := 23, slots := #[.int (-80)], vm := .none },
  { cls := 23, slots := #[.int (-79)], vm := .none },
  { cls := 23, slots := #[.int (-78)], vm := .none },
  { cls := 23, slots := #[.int (-77)], vm := .none },
  { cls := 23, slots := #[.int (-76)], vm := .none },
  { cls := 23, slots := #[.int (-75)], vm := .none },
  { cls := 23, slots := #[.int (-74)], vm := .none },
  { cls := 23, slots := #[.int (-73)], vm := .none },
  { cls := 23, slots := #[.int (-72)], vm := .none },
  { cls := 23, slots := #[.int (-71)], vm := .none },
  { cls := 23, slots := #[.int (-70)], vm := .none },
  { cls := 23, slots := #[.int (-69)], vm := .none },
  { cls := 23, slots := #[.int (-68)], vm := .none },
  { cls := 23, slots := #[.int (-67)], vm := .none },
  { cls := 23, slots := #[.int (-66)], vm := .none },
  { cls := 23, slots := #[.int (-65)], vm := .none },
  { cls := 23, slots := #[.int (-64)], vm := .none },
  { cls := 23, slots := #[.int (-63)], vm := .none },
  { cls := 23, slots := #[.int (-62)], vm := .none },
  { cls := 23, slots := #[.int (-61)], vm := .none },
  { cls := 23, slots := #[.int (-60)], vm := .none },
  { cls := 23, slots := #[.int (-59)], vm := .none },
  { cls := 23, slots := #[.int (-58)], vm := .none },
  { cls := 23, slots := #[.int (-57)], vm := .none },
  { cls := 23, slots := #[.int (-56)], vm := .none },
  { cls := 23, slots := #[.int (-55)], vm := .none },
  { cls := 23, slots := #[.int (-54)], vm := .none },
  { cls := 23, slots := #[.int (-53)], vm := .none },
  { cls := 23, slots := #[.int (-52)], vm := .none },
  { cls := 23, slots := #[.int (-51)], vm := .none },
  { cls := 23, slots := #[.int (-50)], vm := .none },
  { cls := 23, slots := #[.int (-49)], vm := .none },
  { cls := 23, slots := #[.int (-48)], vm := .none },
  { cls := 23, slots := #[.int (-47)], vm := .none },
  { cls := 23, slots := #[.int (-46)], vm := .none },
  { cls := 23, slots := #[.int (-45)], vm := .none },
  { cls := 23, slots := #[.int (-44)], vm := .none },
  { cls := 23, slots := #[.int (-43)], vm := .none },
  { cls := 23, slots := #[.int (-42)], vm := .none },
  { cls := 23, slots := #[.int (-41)], vm := .none },
  { cls := 23, slots := #[.int (-40)], vm := .none },
  { cls := 23, slots := #[.int (-39)], vm := .none },
  { cls := 23, slots := #[.int (-38)], vm := .none },
  { cls := 23, slots := #[.int (-37)], vm := .none },
  { cls := 23, slots := #[.int (-36)], vm := .none },
  { cls := 23, slots := #[.int (-35)], vm := .none },
  { cls := 23, slots := #[.int (-34)], vm := .none },
  { cls := 23, slots := #[.int (-33)], vm := .none },
  { cls := 23, slots := #[.int (-32)], vm := .none },
  { cls := 23, slots := #[.int (-31)], vm := .none },
  { cls := 23, slots := #[.int (-30)], vm := .none },
  { cls := 23, slots := #[.int (-29)], vm := .none },
  { cls := 23, slots := #[.int (-28)], vm := .none },
  { cls := 23, slots := #[.int (-27)], vm := .none },
  { cls := 23, slots := #[.int (-26)], vm := .none },
  { cls := 23, slots := #[.int (-25)], vm := .none },
  { cls := 23, slots := #[.int (-24)], vm := .none },
  { cls := 23, slots := #[.int (-23)], vm := .none },
  { cls := 23, slots := #[.int (-22)], vm := .none },
  { cls := 23, slots := #[.int (-21)], vm := .none },
  { cls := 23, slots := #[.int (-20)], vm := .none },
  { cls := 23, slots := #[.int (-19)], vm := .none },
  { cls := 23, slots := #[.int (-18)], vm := .none },
  { cls := 23, slots := #[.int (-17)], vm := .none },
  { cls := 23, slots := #[.int (-16)], vm := .none },
  { cls := 23, slots := #[.int (-15)], vm := .none },
  { cls := 23, slots := #[.int (-14)], vm := .none },
  { cls := 23, slots := #[.int (-13)], vm := .none },
  { cls := 23, slots := #[.int (-12)], vm := .none },
  { cls := 23, slots := #[.int (-11)], vm := .none },
  { cls := 23, slots := #[.int (-10)], vm := .none },
  { cls := 23, slots := #[.int (-9)], vm := .none },
  { cls := 23, slots := #[.int (-8)], vm := .none },
  { cls := 23, slots := #[.int (-7)], vm := .none },
  { cls := 23, slots := #[.int (-6)], vm := .none },
  { cls := 23, slots := #[.int (-5)], vm := .none },
  { cls := 23, slots := #[.int (-4)], vm := .none },
  { cls := 23, slots := #[.int (-3)], vm := .none },
  { cls := 23, slots := #[.int (-2)], vm := .none },
  { cls := 23, slots := #[.int (-1)], vm := .none },
  { cls := 23, slots := #[.int (0)], vm := .none },
  { cls := 23, slots := #[.int (1)], vm := .none },
  { cls := 23, slots := #[.int (2)], vm := .none },
  { cls := 23, slots := #[.int (3)], vm := .none },
  { cls := 23, slots := #[.int (4)], vm := .none },
  { cls := 23, slots := #[.int (5)], vm := .none },
  { cls := 23, slots := #[.int (6)], vm := .none },
  { cls := 23, slots := #[.int (7)], vm := .none },
  { cls := 23, slots := #[.int (8)], vm := .none },
  { cls := 23, slots := #[.int (9)], vm := .none },
  { cls := 23, slots := #[.int (10)], vm := .none },
  { cls := 23, slots := #[.int (11)], vm := .none },
  { cls := 23, slots := #[.int (12)], vm := .none },
  { cls := 23, slots := #[.int (13)], vm := .none },
  { cls := 23, slots := #[.int (14)], vm := .none },
  { cls := 23, slots := #[.int (15)], vm := .none },
  { cls := 23, slots := #[.int (16)], vm := .none },
  { cls := 23, slots := #[.int (17)], vm := .none },
  { cls := 23, slots := #[.int (18)], vm := .none },
  { cls := 23, slots := #[.int (19)], vm := .none },
  { cls := 23, slots := #[.int (20)], vm := .none },
  { cls := 23, slots := #[.int (21)], vm := .none },
  { cls := 23, slots := #[.int (22)], vm := .none },
  { cls := 23, slots := #[.int (23)], vm := .none },
  { cls := 23, slots := #[.int (24)], vm := .none },
  { cls := 23, slots := #[.int (25)], vm := .none },
  { cls := 23, slots := #[.int (26)], vm := .none },
  { cls := 23, slots := #[.int (27)], vm := .none },
  { cls := 23, slots := #[.int (28)], vm := .none },
  { cls := 23, slots := #[.int (29)], vm := .none },
  { cls := 23, slots := #[.int (30)], vm := .none },
  { cls := 23, slots := #[.int (31)], vm := .none },
  { cls := 23, slots := #[.int (32)], vm := .none },
  { cls := 23, slots := #[.int (33)], vm := .none },
  { cls := 23, slots := #[.int (34)], vm := .none },
  { cls := 23, slots := #[.int (35)], vm := .none },
  { cls := 23, slots := #[.int (36)], vm := .none },
  { cls := 23, slots := #[.int (37)], vm := .none },
  { cls := 23, slots := #[.int (38)], vm := .none },
  { cls := 23, slots := #[.int (39)], vm := .none },
  { cls := 23, slots := #[.int (40)], vm := .none },
  { cls := 23, slots := #[.int (41)], vm := .none },
  { cls := 23, slots := #[.int (42)], vm := .none },
  { cls := 23, slots := #[.int (43)], vm := .none },
  { cls := 23, slots := #[.int (44)], vm := .none },
  { cls := 23, slots := #[.int (45)], vm := .none },
  { cls := 23, slots := #[.int (46)], vm := .none },
  { cls := 23, slots := #[.int (47)], vm := .none },
  { cls := 23, slots := #[.int (48)], vm := .none },
  { cls := 23, slots := #[.int (49)], vm := .none },
  { cls := 23, slots := #[.int (50)], vm := .none },
  { cls := 23, slots := #[.int (51)], vm := .none },
  { cls := 23, slots := #[.int (52)], vm := .none },
  { cls := 23, slots := #[.int (53)], vm := .none },
  { cls := 23, slots := #[.int (54)], vm := .none },
  { cls := 23, slots := #[.int (55)], vm := .none },
  { cls := 23, slots := #[.int (56)], vm := .none },
  { cls := 23, slots := #[.int (57)], vm := .none },
  { cls := 23, slots := #[.int (58)], vm := .none },
  { cls := 23, slots := #[.int (59)], vm := .none },
  { cls := 23, slots := #[.int (60)], vm := .none },
  { cls := 23, slots := #[.int (61)], vm := .none },
  { cls := 23, slots := #[.int (62)], vm := .none },
  { cls := 23, slots := #[.int (63)], vm := .none },
  { cls := 23, slots := #[.int (64)], vm := .none },
  { cls := 23, slots := #[.int (65)], vm := .none },
  { cls := 23, slots := #[.int (66)], vm := .none },
  { cls := 23, slots := #[.int (67)], vm := .none },
  { cls := 23, slots := #[.int (68)], vm := .none },
  { cls := 23, slots := #[.int (69)], vm := .none },
  { cls := 23, slots := #[.int (70)], vm := .none },
  { cls := 23, slots := #[.int (71)], vm := .none },
  { cls := 23, slots := #[.int (72)], vm := .none },
  { cls := 23, slots := #[.int (73)], vm := .none },
  { cls := 23, slots := #[.int (74)], vm := .none },
  { cls := 23, slots := #[.int (75)], vm := .none },
  { cls := 23, slots := #[.int (76)], vm := .none },
  { cls := 23, slots := #[.int (77)], vm := .none },
  { cls := 23, slots := #[.int (78)], vm := .none },
  { cls := 23, slots := #[.int (79)], vm := .none },
  { cls := 23, slots := #[.int (80)], vm := .none },
  { cls := 23, slots := #[.int (81)], vm := .none },
  { cls := 23, slots := #[.int (82)], vm := .none },
  { cls := 23, slots := #[.int (83)], vm := .none },
  { cls := 23, slots := #[.int (84)], vm := .none },
  { cls := 23, slots := #[.int (85)], vm := .none },
  { cls := 23, slots := #[.int (86)], vm := .none },
  { cls := 23, slots := #[.int (87)], vm := .none },
  { cls := 23, slots := #[.int (88)], vm := .none },
  { cls := 23, slots := #[.int (89)], vm := .none },
  { cls := 23, slots := #[.int (90)], vm := .none },
  { cls := 23, slots := #[.int (91)], vm := .none },
  { cls := 23, slots := #[.int (92)], vm := .none },
  { cls := 23, slots := #[.int (93)], vm := .none },
  { cls := 23, slots := #[.int (94)], vm := .none },
  { cls := 23, slots := #[.int (95)], vm := .none },
  { cls := 23, slots := #[.int (96)], vm := .none },
  { cls := 23, slots := #[.int (97)], vm := .none },
  { cls := 23, slots := #[.int (98)], vm := .none },
  { cls := 23, slots := #[.int (99)], vm := .none },
  { cls := 23, slots := #[.int (100)], vm := .none },
  { cls := 23, slots := #[.int (101)], vm := .none },
  { cls := 23, slots := #[.int (102)], vm := .none },
  { cls := 23, slots := #[.int (103)], vm := .none },
  { cls := 23, slots := #[.int (104)], vm := .none },
  { cls := 23, slots := #[.int (105)], vm := .none },
  { cls := 23, slots := #[.int (106)], vm := .none },
  { cls := 23, slots := #[.int (107)], vm := .none },
  { cls := 23, slots := #[.int (108)], vm := .none },
  { cls := 23, slots := #[.int (109)], vm := .none },
  { cls := 23, slots := #[.int (110)], vm := .none },
  { cls := 23, slots := #[.int (111)], vm := .none },
  { cls := 23, slots := #[.int (112)], vm := .none },
  { cls := 23, slots := #[.int (113)], vm := .none },
  { cls := 23, slots := #[.int (114)], vm := .none },
  { cls := 23, slots := #[.int (115)], vm := .none },
  { cls := 23, slots := #[.int (116)], vm := .none },
  { cls := 23, slots := #[.int (117)], vm := .none },
  { cls := 23, slots := #[.int (118)], vm := .none },
  { cls := 23, slots := #[.int (119)], vm := .none },
  { cls := 23, slots := #[.int (120)], vm := .none },
  { cls := 23, slots := #[.int (121)], vm := .none },
  { cls := 23, slots := #[.int (122)], vm := .none },
  { cls := 23, slots := #[.int (123)], vm := .none },
  { cls := 23, slots := #[.int (124)], vm := .none },
  { cls := 23, slots := #[.int (125)], vm := .none },
  { cls := 23, slots := #[.int (126)], vm := .none },
  { cls := 23, slots := #[.int (127)], vm := .none },
  { cls := 35, slots := #[], vm := .none },
  { cls := 35, slots := #[], vm := .none }]
def classes : Array Class := #[k0, k1, k2, k3, k4, k5, k6, k7, k8, k9, k10, k11, k12, k13, k14, k15, k16, k17, k18, k19, k20, k21, k22, k23, k24, k25, k26, k27, k28, k29, k30, k31, k32, k33, k34, k35]
def interned : List (Array UInt16 × Addr) := []
def slotsUsed : Nat := 531
def theMethod : MethodId := ⟨1, 1⟩
def args0 : Array Value := #[.int 3, .int 5, .int 65, .int 7]
def aboutOver (below : List Frame) : State where
  vm := { classes := classes, interned := interned.toArray }
  heap := heap
  slotsUsed := slotsUsed
  threads := #[{ frames := .invoking theMethod args0 :: below }]
def below0 : List Frame := [.native { method := ⟨0, 0⟩, args := #[] }]
def about1 : State := aboutOver below0
def p0 : Program := .bare "" "" ""
def e0 : Env := launch0.env 0 0 0
theorem w_frames : about1.frames = Frame.invoking theMethod args0 :: below0 := rfl
set_option maxRecDepth 65536 in
theorem w_args : argsFit about1.vm theMethod args0 = true := by decide +kernel
set_option maxRecDepth 65536 in
theorem w_heap : heapFits about1 = true := by decide +kernel
set_option maxRecDepth 65536 in
theorem w_runnable : about1.curStatus? = some .runnable := by decide +kernel
set_option maxRecDepth 65536 in
theorem w_alone : about1.alone = true := by decide +kernel
set_option maxRecDepth 65536 in
theorem w_named : about1.methodNamed? x = some theMethod := by decide +kernel
set_option maxRecDepth 65536 in
theorem w_hears : about1.hears theMethod below0 = true := by decide +kernel
set_option maxRecDepth 65536 in
theorem w_ripe : about1.ripe theMethod args0 below0 = true := by decide +kernel
theorem w_running : about1.status = .running := rfl
set_option maxRecDepth 65536 in
theorem w_room : about1.hasRoom e0.platform room_1 = true :=
  launch0.hasRoom_least _ room_1 (by decide +kernel) (by decide +kernel) (by decide +kernel) (by decide +kernel) (by decide +kernel) (by decide +kernel)
theorem allAtoms_all (ts : List Jvm.Cond) (a : Array Jvm.Value) (st : Jvm.State) : (allAtoms ts).before a st = ts.all (fun c => c.before a st) := by
  induction ts with
  | nil => rfl
  | cons c t ih =>
    show (Jvm.Cond.and c (allAtoms t)).before a st = _
    rw [Jvm.Cond.before_and, ih, List.all_cons]
def words1 : List Jvm.Cond := Jvm.Cond.code x code maxLocals ret :: tables_1
/-- a 'code' word, met by the world's own term for the bytes: nothing is compared byte by byte -/
theorem code_word {y : MethodName} {bytes : ByteArray} {mx : Nat} {rt : Option FieldType} {a : Array Value} {s : State} {m : MethodId} {meth : Method} {c : Code} (h1 : s.methodNamed? y = some m) (h2 : s.vm.method? m = some meth) (h3 : meth.code = some c) (h4 : c.code = bytes)
    (h5 : (c.maxLocals == mx && c.exceptionTable.isEmpty && decide (c.maxStack ≤ mostOperands) && decide (meth.sig.returnType = rt) && !meth.locks && decide (parseMethodDescriptor y.desc = some meth.sig)) = true) : (Jvm.Cond.code y bytes mx rt).before a s = true := by
  simp only [Bool.and_eq_true, beq_iff_eq, Bool.not_eq_true', decide_eq_true_eq] at h5
  obtain ⟨⟨⟨⟨⟨g1, g2⟩, g3⟩, g4⟩, g5⟩, g6⟩ := h5
  simp [Cond.before, Cond.holds, Cond.value, h1, h2, h3, h4, g1, g2, g3, g4, g5, g6]
def isCode : Jvm.Cond → Bool
  | .code _ _ _ _ => true
  | _ => false
theorem all_split {L : List Jvm.Cond} {P : Jvm.Cond → Bool} (h1 : L.all (fun c => isCode c || P c) = true) (h2 : ∀ c ∈ L.filter isCode, P c = true) : L.all P = true := by
  refine List.all_eq_true.mpr fun c hc => ?_
  have h := List.all_eq_true.mp h1 c hc
  rcases Bool.eq_false_or_eq_true (isCode c) with hi | hi
  · exact h2 c (List.mem_filter.mpr ⟨hc, hi⟩)
  · simpa [hi] using h
set_option maxRecDepth 65536 in
theorem w_c0 : (Jvm.Cond.code x code maxLocals ret).before args0 about1 = true := code_word (m := ⟨1, 1⟩) (meth := k1m1) (c := k1c1) (by decide +kernel) rfl rfl rfl (by decide +kernel)
set_option maxRecDepth 65536 in
theorem w_c1 : (Jvm.Cond.code ({ cls := "java/lang/String", name := "<init>", desc := "([C)V" } : Jvm.MethodName) jdk_42_method_3_code (2 : Nat) (Option.none : Option Jvm.ClassFile.FieldType)).before args0 about1 = true := code_word (m := ⟨7, 1⟩) (meth := k7m1) (c := k7c1) (by decide +kernel) rfl rfl rfl (by decide +kernel)
set_option maxRecDepth 65536 in
theorem w_c2 : (Jvm.Cond.code ({ cls := "java/lang/String", name := "<init>", desc := "([CIILjava/lang/Void;)V" } : Jvm.MethodName) jdk_42_method_149_code (6 : Nat) (Option.none : Option Jvm.ClassFile.FieldType)).before args0 about1 = true := code_word (m := ⟨7, 3⟩) (meth := k7m3) (c := k7c3) (by decide +kernel) rfl rfl rfl (by decide +kernel)
set_option maxRecDepth 65536 in
theorem w_c3 : (Jvm.Cond.code ({ cls := "java/lang/Object", name := "<init>", desc := "()V" } : Jvm.MethodName) object_method_1_code (1 : Nat) (Option.none : Option Jvm.ClassFile.FieldType)).before args0 about1 = true := code_word (m := ⟨0, 0⟩) (meth := k0m0) (c := k0c0) (by decide +kernel) rfl rfl rfl (by decide +kernel)
set_option maxRecDepth 65536 in
theorem w_c4 : (Jvm.Cond.code ({ cls := "java/lang/StringUTF16", name := "compress", desc := "([CII)[B" } : Jvm.MethodName) jdk_52_method_16_code (6 : Nat) (Option.some (Jvm.ClassFile.FieldType.array Jvm.ClassFile.FieldType.byte))).before args0 about1 = true := code_word (m := ⟨8, 2⟩) (meth := k8m2) (c := k8c2) (by decide +kernel) rfl rfl rfl (by decide +kernel)
set_option maxRecDepth 65536 in
theorem w_c5 : (Jvm.Cond.code ({ cls := "java/lang/StringUTF16", name := "compress", desc := "([CI[BII)I" } : Jvm.MethodName) jdk_52_method_21_code (7 : Nat) (Option.some Jvm.ClassFile.FieldType.int)).before args0 about1 = true := code_word (m := ⟨8, 3⟩) (meth := k8m3) (c := k8c3) (by decide +kernel) rfl rfl rfl (by decide +kernel)
set_option maxRecDepth 65536 in
theorem w_c6 : (Jvm.Cond.code ({ cls := "java/lang/StringUTF16", name := "coderFromArrayLen", desc := "([BI)B" } : Jvm.MethodName) jdk_52_method_15_code (2 : Nat) (Option.some Jvm.ClassFile.FieldType.byte)).before args0 about1 = true := code_word (m := ⟨8, 1⟩) (meth := k8m1) (c := k8c1) (by decide +kernel) rfl rfl rfl (by decide +kernel)
set_option maxRecDepth 65536 in
theorem w_c7 : (Jvm.Cond.code ({ cls := "java/lang/String", name := "valueOf", desc := "(C)Ljava/lang/String;" } : Jvm.MethodName) jdk_42_method_139_code (1 : Nat) (Option.some (Jvm.ClassFile.FieldType.object "java/lang/String"))).before args0 about1 = true := code_word (m := ⟨7, 2⟩) (meth := k7m2) (c := k7c2) (by decide +kernel) rfl rfl rfl (by decide +kernel)
set_option maxRecDepth 65536 in
theorem w_c8 : (Jvm.Cond.code ({ cls := "java/lang/StringLatin1", name := "canEncode", desc := "(C)Z" } : Jvm.MethodName) jdk_43_method_3_code (1 : Nat) (Option.some Jvm.ClassFile.FieldType.boolean)).before args0 about1 = true := code_word (m := ⟨9, 1⟩) (meth := k9m1) (c := k9c1) (by decide +kernel) rfl rfl rfl (by decide +kernel)
set_option maxRecDepth 65536 in
theorem w_c9 : (Jvm.Cond.code ({ cls := "java/lang/StringLatin1", name := "toBytes", desc := "(C)[B" } : Jvm.MethodName) jdk_43_method_46_code (1 : Nat) (Option.some (Jvm.ClassFile.FieldType.array Jvm.ClassFile.FieldType.byte))).before args0 about1 = true := code_word (m := ⟨9, 2⟩) (meth := k9m2) (c := k9c2) (by decide +kernel) rfl rfl rfl (by decide +kernel)
set_option maxRecDepth 65536 in
theorem w_c10 : (Jvm.Cond.code ({ cls := "java/lang/String", name := "<init>", desc := "([BB)V" } : Jvm.MethodName) jdk_42_method_151_code (3 : Nat) (Option.none : Option Jvm.ClassFile.FieldType)).before args0 about1 = true := code_word (m := ⟨7, 4⟩) (meth := k7m4) (c := k7c4) (by decide +kernel) rfl rfl rfl (by decide +kernel)
set_option maxRecDepth 65536 in
theorem w_c11 : (Jvm.Cond.code ({ cls := "com/example/outlet_to_office/outlettooffice/server/Problems", name := "<init>", desc := "()V" } : Jvm.MethodName) prog_22_method_1_code (1 : Nat) (Option.none : Option Jvm.ClassFile.FieldType)).before args0 about1 = true := code_word (m := ⟨10, 0⟩) (meth := k10m0) (c := k10c0) (by decide +kernel) rfl rfl rfl (by decide +kernel)
set_option maxRecDepth 65536 in
theorem w_c12 : (Jvm.Cond.code ({ cls := "java/util/ArrayList", name := "<init>", desc := "()V" } : Jvm.MethodName) jdk_38_method_2_code (1 : Nat) (Option.none : Option Jvm.ClassFile.FieldType)).before args0 about1 = true := code_word (m := ⟨19, 0⟩) (meth := k19m0) (c := k19c0) (by decide +kernel) rfl rfl rfl (by decide +kernel)
set_option maxRecDepth 65536 in
theorem w_c13 : (Jvm.Cond.code ({ cls := "java/util/AbstractList", name := "<init>", desc := "()V" } : Jvm.MethodName) jdk_39_method_1_code (1 : Nat) (Option.none : Option Jvm.ClassFile.FieldType)).before args0 about1 = true := code_word (m := ⟨16, 0⟩) (meth := k16m0) (c := k16c0) (by decide +kernel) rfl rfl rfl (by decide +kernel)
set_option maxRecDepth 65536 in
theorem w_c14 : (Jvm.Cond.code ({ cls := "java/util/AbstractCollection", name := "<init>", desc := "()V" } : Jvm.MethodName) jdk_22_method_1_code (1 : Nat) (Option.none : Option Jvm.ClassFile.FieldType)).before args0 about1 = true := code_word (m := ⟨13, 0⟩) (meth := k13m0) (c := k13c0) (by decide +kernel) rfl rfl rfl (by decide +kernel)
set_option maxRecDepth 65536 in
theorem w_c15 : (Jvm.Cond.code ({ cls := "com/example/outlet_to_office/outlettooffice/server/Problems", name := "isEmpty", desc := "()Z" } : Jvm.MethodName) prog_22_method_5_code (1 : Nat) (Option.some Jvm.ClassFile.FieldType.boolean)).before args0 about1 = true := code_word (m := ⟨10, 4⟩) (meth := k10m4) (c := k10c4) (by decide +kernel) rfl rfl rfl (by decide +kernel)
set_option maxRecDepth 65536 in
theorem w_c16 : (Jvm.Cond.code ({ cls := "com/example/outlet_to_office/outlettooffice/server/ProblemsIsEmptyPinLaw", name := "add", desc := "(Lcom/example/outlet_to_office/outlettooffice/server/Problems;ILjava/lang/String;Ljava/lang/String;Ljava/lang/String;I)V" } : Jvm.MethodName) method_3_code (6 : Nat) (Option.none : Option Jvm.ClassFile.FieldType)).before args0 about1 = true := code_word (m := ⟨1, 2⟩) (meth := k1m2) (c := k1c2) (by decide +kernel) rfl rfl rfl (by decide +kernel)
set_option maxRecDepth 65536 in
theorem w_c17 : (Jvm.Cond.code ({ cls := "com/example/outlet_to_office/outlettooffice/server/Problems", name := "add", desc := "(Ljava/lang/String;Ljava/lang/String;Ljava/lang/String;I)V" } : Jvm.MethodName) prog_22_method_3_code (5 : Nat) (Option.none : Option Jvm.ClassFile.FieldType)).before args0 about1 = true := code_word (m := ⟨10, 2⟩) (meth := k10m2) (c := k10c2) (by decide +kernel) rfl rfl rfl (by decide +kernel)
set_option maxRecDepth 65536 in
theorem w_c18 : (Jvm.Cond.code ({ cls := "java/lang/Integer", name := "valueOf", desc := "(I)Ljava/lang/Integer;" } : Jvm.MethodName) jdk_33_method_22_code (1 : Nat) (Option.some (Jvm.ClassFile.FieldType.object "java/lang/Integer"))).before args0 about1 = true := code_word (m := ⟨23, 0⟩) (meth := k23m0) (c := k23c0) (by decide +kernel) rfl rfl rfl (by decide +kernel)
set_option maxRecDepth 65536 in
theorem w_c19 : (Jvm.Cond.code ({ cls := "java/lang/Integer", name := "<init>", desc := "(I)V" } : Jvm.MethodName) jdk_33_method_23_code (2 : Nat) (Option.none : Option Jvm.ClassFile.FieldType)).before args0 about1 = true := code_word (m := ⟨23, 1⟩) (meth := k23m1) (c := k23c1) (by decide +kernel) rfl rfl rfl (by decide +kernel)
set_option maxRecDepth 65536 in
theorem w_c20 : (Jvm.Cond.code ({ cls := "java/lang/Number", name := "<init>", desc := "()V" } : Jvm.MethodName) jdk_18_method_1_code (1 : Nat) (Option.none : Option Jvm.ClassFile.FieldType)).before args0 about1 = true := code_word (m := ⟨22, 0⟩) (meth := k22m0) (c := k22c0) (by decide +kernel) rfl rfl rfl (by decide +kernel)
set_option maxRecDepth 65536 in
theorem w_c21 : (Jvm.Cond.code ({ cls := "com/example/outlet_to_office/outlettooffice/server/Problem", name := "<init>", desc := "(Ljava/lang/String;Ljava/lang/String;Ljava/lang/String;Ljava/lang/Integer;)V" } : Jvm.MethodName) prog_21_method_2_code (5 : Nat) (Option.none : Option Jvm.ClassFile.FieldType)).before args0 about1 = true := code_word (m := ⟨21, 1⟩) (meth := k21m1) (c := k21c1) (by decide +kernel) rfl rfl rfl (by decide +kernel)
set_option maxRecDepth 65536 in
theorem w_c22 : (Jvm.Cond.code ({ cls := "java/lang/Record", name := "<init>", desc := "()V" } : Jvm.MethodName) jdk_30_method_1_code (1 : Nat) (Option.none : Option Jvm.ClassFile.FieldType)).before args0 about1 = true := code_word (m := ⟨20, 0⟩) (meth := k20m0) (c := k20c0) (by decide +kernel) rfl rfl rfl (by decide +kernel)
set_option maxRecDepth 65536 in
theorem w_c23 : (Jvm.Cond.code ({ cls := "com/example/outlet_to_office/outlettooffice/server/Problems", name := "add", desc := "(Lcom/example/outlet_to_office/outlettooffice/server/Problem;)V" } : Jvm.MethodName) prog_22_method_4_code (2 : Nat) (Option.none : Option Jvm.ClassFile.FieldType)).before args0 about1 = true := code_word (m := ⟨10, 3⟩) (meth := k10m3) (c := k10c3) (by decide +kernel) rfl rfl rfl (by decide +kernel)
set_option maxRecDepth 65536 in
theorem w_c24 : (Jvm.Cond.code ({ cls := "java/util/ArrayList", name := "size", desc := "()I" } : Jvm.MethodName) jdk_38_method_8_code (1 : Nat) (Option.some Jvm.ClassFile.FieldType.int)).before args0 about1 = true := code_word (m := ⟨19, 3⟩) (meth := k19m3) (c := k19c3) (by decide +kernel) rfl rfl rfl (by decide +kernel)
set_option maxRecDepth 65536 in
theorem w_c25 : (Jvm.Cond.code ({ cls := "java/util/ArrayList", name := "add", desc := "(Ljava/lang/Object;)Z" } : Jvm.MethodName) jdk_38_method_25_code (2 : Nat) (Option.some Jvm.ClassFile.FieldType.boolean)).before args0 about1 = true := code_word (m := ⟨19, 5⟩) (meth := k19m5) (c := k19c5) (by decide +kernel) rfl rfl rfl (by decide +kernel)
set_option maxRecDepth 65536 in
theorem w_c26 : (Jvm.Cond.code ({ cls := "java/util/ArrayList", name := "add", desc := "(Ljava/lang/Object;[Ljava/lang/Object;I)V" } : Jvm.MethodName) jdk_38_method_24_code (4 : Nat) (Option.none : Option Jvm.ClassFile.FieldType)).before args0 about1 = true := code_word (m := ⟨19, 4⟩) (meth := k19m4) (c := k19c4) (by decide +kernel) rfl rfl rfl (by decide +kernel)
set_option maxRecDepth 65536 in
theorem w_c27 : (Jvm.Cond.code ({ cls := "java/util/ArrayList", name := "grow", desc := "()[Ljava/lang/Object;" } : Jvm.MethodName) jdk_38_method_7_code (1 : Nat) (Option.some (Jvm.ClassFile.FieldType.array (Jvm.ClassFile.FieldType.object "java/lang/Object")))).before args0 about1 = true := code_word (m := ⟨19, 2⟩) (meth := k19m2) (c := k19c2) (by decide +kernel) rfl rfl rfl (by decide +kernel)
set_option maxRecDepth 65536 in
theorem w_c28 : (Jvm.Cond.code ({ cls := "java/util/ArrayList", name := "grow", desc := "(I)[Ljava/lang/Object;" } : Jvm.MethodName) jdk_38_method_6_code (4 : Nat) (Option.some (Jvm.ClassFile.FieldType.array (Jvm.ClassFile.FieldType.object "java/lang/Object")))).before args0 about1 = true := code_word (m := ⟨19, 1⟩) (meth := k19m1) (c := k19c1) (by decide +kernel) rfl rfl rfl (by decide +kernel)
set_option maxRecDepth 65536 in
theorem w_c29 : (Jvm.Cond.code ({ cls := "java/lang/Math", name := "max", desc := "(II)I" } : Jvm.MethodName) jdk_29_method_65_code (2 : Nat) (Option.some Jvm.ClassFile.FieldType.int)).before args0 about1 = true := code_word (m := ⟨25, 1⟩) (meth := k25m1) (c := k25c1) (by decide +kernel) rfl rfl rfl (by decide +kernel)
set_option maxRecDepth 65536 in
theorem w_c30 : (Jvm.Cond.code ({ cls := "com/example/outlet_to_office/outlettooffice/server/Problems", name := "add", desc := "(Ljava/lang/String;Ljava/lang/String;Ljava/lang/String;)V" } : Jvm.MethodName) prog_22_method_2_code (4 : Nat) (Option.none : Option Jvm.ClassFile.FieldType)).before args0 about1 = true := code_word (m := ⟨10, 1⟩) (meth := k10m1) (c := k10c1) (by decide +kernel) rfl rfl rfl (by decide +kernel)
set_option maxRecDepth 65536 in
theorem w_c31 : (Jvm.Cond.code ({ cls := "com/example/outlet_to_office/outlettooffice/server/Problem", name := "<init>", desc := "(Ljava/lang/String;Ljava/lang/String;Ljava/lang/String;)V" } : Jvm.MethodName) prog_21_method_1_code (4 : Nat) (Option.none : Option Jvm.ClassFile.FieldType)).before args0 about1 = true := code_word (m := ⟨21, 0⟩) (meth := k21m0) (c := k21c0) (by decide +kernel) rfl rfl rfl (by decide +kernel)
def codes1 : List Jvm.Cond := [Jvm.Cond.code x code maxLocals ret, Jvm.Cond.code ({ cls := "java/lang/String", name := "<init>", desc := "([C)V" } : Jvm.MethodName) jdk_42_method_3_code (2 : Nat) (Option.none : Option Jvm.ClassFile.FieldType), Jvm.Cond.code ({ cls := "java/lang/String", name := "<init>", desc := "([CIILjava/lang/Void;)V" } : Jvm.MethodName) jdk_42_method_149_code (6 : Nat) (Option.none : Option Jvm.ClassFile.FieldType), Jvm.Cond.code ({ cls := "java/lang/Object", name := "<init>", desc := "()V" } : Jvm.MethodName) object_method_1_code (1 : Nat) (Option.none : Option Jvm.ClassFile.FieldType), Jvm.Cond.code ({ cls := "java/lang/StringUTF16", name := "compress", desc := "([CII)[B" } : Jvm.MethodName) jdk_52_method_16_code (6 : Nat) (Option.some (Jvm.ClassFile.FieldType.array Jvm.ClassFile.FieldType.byte)), Jvm.Cond.code ({ cls := "java/lang/StringUTF16", name := "compress", desc := "([CI[BII)I" } : Jvm.MethodName) jdk_52_method_21_code (7 : Nat) (Option.some Jvm.ClassFile.FieldType.int), Jvm.Cond.code ({ cls := "java/lang/StringUTF16", name := "coderFromArrayLen", desc := "([BI)B" } : Jvm.MethodName) jdk_52_method_15_code (2 : Nat) (Option.some Jvm.ClassFile.FieldType.byte), Jvm.Cond.code ({ cls := "java/lang/String", name := "valueOf", desc := "(C)Ljava/lang/String;" } : Jvm.MethodName) jdk_42_method_139_code (1 : Nat) (Option.some (Jvm.ClassFile.FieldType.object "java/lang/String")), Jvm.Cond.code ({ cls := "java/lang/StringLatin1", name := "canEncode", desc := "(C)Z" } : Jvm.MethodName) jdk_43_method_3_code (1 : Nat) (Option.some Jvm.ClassFile.FieldType.boolean), Jvm.Cond.code ({ cls := "java/lang/StringLatin1", name := "toBytes", desc := "(C)[B" } : Jvm.MethodName) jdk_43_method_46_code (1 : Nat) (Option.some (Jvm.ClassFile.FieldType.array Jvm.ClassFile.FieldType.byte)), Jvm.Cond.code ({ cls := "java/lang/String", name := "<init>", desc := "([BB)V" } : Jvm.MethodName) jdk_42_method_151_code (3 : Nat) (Option.none : Option Jvm.ClassFile.FieldType), Jvm.Cond.code ({ cls := "com/example/outlet_to_office/outlettooffice/server/Problems", name := "<init>", desc := "()V" } : Jvm.MethodName) prog_22_method_1_code (1 : Nat) (Option.none : Option Jvm.ClassFile.FieldType), Jvm.Cond.code ({ cls := "java/util/ArrayList", name := "<init>", desc := "()V" } : Jvm.MethodName) jdk_38_method_2_code (1 : Nat) (Option.none : Option Jvm.ClassFile.FieldType), Jvm.Cond.code ({ cls := "java/util/AbstractList", name := "<init>", desc := "()V" } : Jvm.MethodName) jdk_39_method_1_code (1 : Nat) (Option.none : Option Jvm.ClassFile.FieldType), Jvm.Cond.code ({ cls := "java/util/AbstractCollection", name := "<init>", desc := "()V" } : Jvm.MethodName) jdk_22_method_1_code (1 : Nat) (Option.none : Option Jvm.ClassFile.FieldType), Jvm.Cond.code ({ cls := "com/example/outlet_to_office/outlettooffice/server/Problems", name := "isEmpty", desc := "()Z" } : Jvm.MethodName) prog_22_method_5_code (1 : Nat) (Option.some Jvm.ClassFile.FieldType.boolean), Jvm.Cond.code ({ cls := "com/example/outlet_to_office/outlettooffice/server/ProblemsIsEmptyPinLaw", name := "add", desc := "(Lcom/example/outlet_to_office/outlettooffice/server/Problems;ILjava/lang/String;Ljava/lang/String;Ljava/lang/String;I)V" } : Jvm.MethodName) method_3_code (6 : Nat) (Option.none : Option Jvm.ClassFile.FieldType), Jvm.Cond.code ({ cls := "com/example/outlet_to_office/outlettooffice/server/Problems", name := "add", desc := "(Ljava/lang/String;Ljava/lang/String;Ljava/lang/String;I)V" } : Jvm.MethodName) prog_22_method_3_code (5 : Nat) (Option.none : Option Jvm.ClassFile.FieldType), Jvm.Cond.code ({ cls := "java/lang/Integer", name := "valueOf", desc := "(I)Ljava/lang/Integer;" } : Jvm.MethodName) jdk_33_method_22_code (1 : Nat) (Option.some (Jvm.ClassFile.FieldType.object "java/lang/Integer")), Jvm.Cond.code ({ cls := "java/lang/Integer", name := "<init>", desc := "(I)V" } : Jvm.MethodName) jdk_33_method_23_code (2 : Nat) (Option.none : Option Jvm.ClassFile.FieldType), Jvm.Cond.code ({ cls := "java/lang/Number", name := "<init>", desc := "()V" } : Jvm.MethodName) jdk_18_method_1_code (1 : Nat) (Option.none : Option Jvm.ClassFile.FieldType), Jvm.Cond.code ({ cls := "com/example/outlet_to_office/outlettooffice/server/Problem", name := "<init>", desc := "(Ljava/lang/String;Ljava/lang/String;Ljava/lang/String;Ljava/lang/Integer;)V" } : Jvm.MethodName) prog_21_method_2_code (5 : Nat) (Option.none : Option Jvm.ClassFile.FieldType), Jvm.Cond.code ({ cls := "java/lang/Record", name := "<init>", desc := "()V" } : Jvm.MethodName) jdk_30_method_1_code (1 : Nat) (Option.none : Option Jvm.ClassFile.FieldType), Jvm.Cond.code ({ cls := "com/example/outlet_to_office/outlettooffice/server/Problems", name := "add", desc := "(Lcom/example/outlet_to_office/outlettooffice/server/Problem;)V" } : Jvm.MethodName) prog_22_method_4_code (2 : Nat) (Option.none : Option Jvm.ClassFile.FieldType), Jvm.Cond.code ({ cls := "java/util/ArrayList", name := "size", desc := "()I" } : Jvm.MethodName) jdk_38_method_8_code (1 : Nat) (Option.some Jvm.ClassFile.FieldType.int), Jvm.Cond.code ({ cls := "java/util/ArrayList", name := "add", desc := "(Ljava/lang/Object;)Z" } : Jvm.MethodName) jdk_38_method_25_code (2 : Nat) (Option.some Jvm.ClassFile.FieldType.boolean), Jvm.Cond.code ({ cls := "java/util/ArrayList", name := "add", desc := "(Ljava/lang/Object;[Ljava/lang/Object;I)V" } : Jvm.MethodName) jdk_38_method_24_code (4 : Nat) (Option.none : Option Jvm.ClassFile.FieldType), Jvm.Cond.code ({ cls := "java/util/ArrayList", name := "grow", desc := "()[Ljava/lang/Object;" } : Jvm.MethodName) jdk_38_method_7_code (1 : Nat) (Option.some (Jvm.ClassFile.FieldType.array (Jvm.ClassFile.FieldType.object "java/lang/Object"))), Jvm.Cond.code ({ cls := "java/util/ArrayList", name := "grow", desc := "(I)[Ljava/lang/Object;" } : Jvm.MethodName) jdk_38_method_6_code (4 : Nat) (Option.some (Jvm.ClassFile.FieldType.array (Jvm.ClassFile.FieldType.object "java/lang/Object"))), Jvm.Cond.code ({ cls := "java/lang/Math", name := "max", desc := "(II)I" } : Jvm.MethodName) jdk_29_method_65_code (2 : Nat) (Option.some Jvm.ClassFile.FieldType.int), Jvm.Cond.code ({ cls := "com/example/outlet_to_office/outlettooffice/server/Problems", name := "add", desc := "(Ljava/lang/String;Ljava/lang/String;Ljava/lang/String;)V" } : Jvm.MethodName) prog_22_method_2_code (4 : Nat) (Option.none : Option Jvm.ClassFile.FieldType), Jvm.Cond.code ({ cls := "com/example/outlet_to_office/outlettooffice/server/Problem", name := "<init>", desc := "(Ljava/lang/String;Ljava/lang/String;Ljava/lang/String;)V" } : Jvm.MethodName) prog_21_method_1_code (4 : Nat) (Option.none : Option Jvm.ClassFile.FieldType)]
set_option maxRecDepth 65536 in
theorem codes_eq : words1.filter isCode = codes1 := rfl
theorem w_codes : ∀ c ∈ words1.filter isCode, c.before args0 about1 = true := by
  rw [codes_eq]
  intro c hc
  simp only [codes1, List.mem_cons, List.not_mem_nil, or_false] at hc
  rcases hc with rfl | rfl | rfl | rfl | rfl | rfl | rfl | rfl | rfl | rfl | rfl | rfl | rfl | rfl | rfl | rfl | rfl | rfl | rfl | rfl | rfl | rfl | rfl | rfl | rfl | rfl | rfl | rfl | rfl | rfl | rfl | rfl
  · exact w_c0
  · exact w_c1
  · exact w_c2
  · exact w_c3
  · exact w_c4
  · exact w_c5
  · exact w_c6
  · exact w_c7
  · exact w_c8
  · exact w_c9
  · exact w_c10
  · exact w_c11
  · exact w_c12
  · exact w_c13
  · exact w_c14
  · exact w_c15
  · exact w_c16
  · exact w_c17
  · exact w_c18
  · exact w_c19
  · exact w_c20
  · exact w_c21
  · exact w_c22
  · exact w_c23
  · exact w_c24
  · exact w_c25
  · exact w_c26
  · exact w_c27
  · exact w_c28
  · exact w_c29
  · exact w_c30
  · exact w_c31
set_option maxRecDepth 65536 in
theorem w_t1 : (words1.take 24).all (fun c => isCode c || c.before args0 about1) = true := by decide +kernel
set_option maxRecDepth 65536 in
theorem w_t2 : ((words1.drop 24).take 24).all (fun c => isCode c || c.before args0 about1) = true := by decide +kernel
set_option maxRecDepth 65536 in
theorem w_t3 : (((words1.drop 24).drop 24).take 24).all (fun c => isCode c || c.before args0 about1) = true := by decide +kernel
set_option maxRecDepth 65536 in
theorem w_t4 : ((((words1.drop 24).drop 24).drop 24).take 24).all (fun c => isCode c || c.before args0 about1) = true := by decide +kernel
set_option maxRecDepth 65536 in
theorem w_t5 : (((((words1.drop 24).drop 24).drop 24).drop 24).take 24).all (fun c => isCode c || c.before args0 about1) = true := by decide +kernel
set_option maxRecDepth 65536 in
theorem w_t6 : ((((((words1.drop 24).drop 24).drop 24).drop 24).drop 24).take 24).all (fun c => isCode c || c.before args0 about1) = true := by decide +kernel
set_option maxRecDepth 65536 in
theorem w_t7 : (((((((words1.drop 24).drop 24).drop 24).drop 24).drop 24).drop 24).take 24).all (fun c => isCode c || c.before args0 about1) = true := by decide +kernel
set_option maxRecDepth 65536 in
theorem w_t8 : (((((((words1.drop 24).drop 24).drop 24).drop 24).drop 24).drop 24).drop 24).all (fun c => isCode c || c.before args0 about1) = true := by decide +kernel
theorem w_tables : (allAtoms (Jvm.Cond.code x code maxLocals ret :: tables_1)).before args0 about1 = true := by
  rw [allAtoms_all]
  show words1.all (fun c => c.before args0 about1) = true
  refine all_split ?_ w_codes
  rw [← List.take_append_drop 24 words1, List.all_append, w_t1, ← List.take_append_drop 24 (words1.drop 24), List.all_append, w_t2, ← List.take_append_drop 24 ((words1.drop 24).drop 24), List.all_append, w_t3, ← List.take_append_drop 24 (((words1.drop 24).drop 24).drop 24), List.all_append, w_t4, ← List.take_append_drop 24 ((((words1.drop 24).drop 24).drop 24).drop 24), List.all_append, w_t5, ← List.take_append_drop 24 (((((words1.drop 24).drop 24).drop 24).drop 24).drop 24), List.all_append, w_t6, ← List.take_append_drop 24 ((((((words1.drop 24).drop 24).drop 24).drop 24).drop 24).drop 24), List.all_append, w_t7, w_t8]
  rfl
set_option maxRecDepth 65536 in
theorem w_rest : rest_1_c.before args0 about1 = true := by decide +kernel
set_option maxRecDepth 65536 in
theorem w_case : (Jvm.Cond.and given_1 narrow_1).before args0 about1 = true := by decide +kernel
theorem w_applies : (headSpec (Jvm.Cond.code x code maxLocals ret :: tables_1) room_1).applies x e0.platform about1 = true :=
  (Spec.applies_iff w_frames).mpr ⟨w_running, w_runnable, w_alone, w_named, w_hears, w_ripe, w_room, w_tables⟩
theorem atStart : AtStart classFile x code maxLocals ret World_1 tables_1 room_1 Calls_1 rest_1 Pre_1 launch0 p0 e0 about1 theMethod args0 below0 :=
  ⟨lists_1, trivial, launch0.admits_env _ _ _, launch0.least_env, fairChoices_fair.cas, fairChoices_fair.clock, w_frames, w_args, w_heap, w_applies, trivial, w_rest, w_case⟩
end start1
theorem witness_1 : WitnessClaimed_1 := ⟨start1.p0, start1.e0, start1.about1, start1.theMethod, start1.args0, start1.below0, start1.atStart⟩
end Jvm.Pilot.@@N@@
