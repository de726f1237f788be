import JvmDerived
import JvmDerived.Pilot.@@N@@Statement
import JvmDerived.Pilot.@@N@@Code
@@BLOCK:TracedD.lean.txt@@
set_option linter.unusedVariables false
set_option linter.unusedSimpArgs false
namespace Jvm.RoadKit
open Sem ClassFile Op Lib Jvm.Stand Jvm.Free Jvm.LawKit
section New
variable {p : Program} {l : Launch} {e : Env} {R : Room} {s : State} {m : MethodId} {args : Array Value} {below : List Frame} {meth : Method} {c : Code} {T : State} {locs : List Loc} {cells slots : Nat}
theorem retI (X : Stand p l e R s m args below meth c T locs cells slots) (hx : p.tables.exec = Jvm.exec) {pc : Nat} {Ls : Array Slot} {z : Int32} {rest : List Value} (hret : meth.sig.returnType = some .int) (hd : decode c.code pc = .ok (.ireturn, 1)) {fs : List Frame}
    (hl : ∀ (f : JFrame) (acts : List Action), f.method = m → f.locked = none → f.entered = [] → (doReturn e (T.setTop f) acts (some (.int z))).1 = T.setFrames fs) : Steps p.tables e below (T.setTop (mkF m pc Ls (.int z :: rest))) (T.setFrames fs) := by
  have hm' : T.vm.method? m = some meth := X.method'
  have hn : narrow .int (.int z) = .int z := rfl
  show Steps p.tables e below (T.setTop { method := m, pc := pc, locals := Ls, stack := _ :: rest, locked := none }) _
  jvm_step X.here [X.here.top, hx, hd, hm', hret, hn]
  first | (intro acts; rw [hl _ acts rfl rfl rfl]) | rw [hl _ _ rfl rfl rfl]
  exact Steps.refl _
end New
end Jvm.RoadKit
/- laws to paste: Road.backV (cut by pick.py; bodies as the Statement names them) -/
namespace Jvm.Pilot.@@N@@
namespace StrChars
open Jvm Sem ClassFile Op Lib Jvm.Stand Jvm.Free.XT Jvm.Free.ALB Jvm.Free.JM Jvm.Free
open Jvm.Lib.Cold (StaticIs)
/-- a char array whose places are chars -/
def Ch (a : Addr) (A : Cell) (U : State) : Prop := Arr .char a A U ∧ Typed .char A
theorem Ch.mv {a : Addr} {A : Cell} {U U' : State} (h : Ch a A U) (hal : U.vm.Alike U'.vm) (hh : U'.heap = U.heap) : Ch a A U' := ⟨h.1.mv hal hh, h.2⟩
theorem Ch.keep {a : Addr} {A : Cell} {U U' : State} (h : Ch a A U) (hal : U.vm.Alike U'.vm) (hk : U'.heap[a]? = some A) : Ch a A U' := ⟨h.1.keep hal hk, h.2⟩
/-- what place i of a char[]'s cell holds -/
def cv (A : Cell) (i : Nat) : Int32 := match A.slots[i]? with | some (.int x) => x | _ => 0
theorem Ch.get {a : Addr} {A : Cell} {U : State} (h : Ch a A U) {i : Nat} (hi : i < A.slots.size) : A.slots[i]? = some (.int (cv A i)) := by
  have e := Array.getElem?_eq_getElem hi
  have f := h.2 i _ e
  unfold cv; rw [e]
  generalize A.slots[i] = v at f
  cases v <;> simp [fits] at f ⊢
/-- the byte that i2b leaves of a char -/
def lo8 (x : Int32) : Int32 := x.toInt8.toInt32
theorem fits_lo8 (y : Int32) : fits .byte (.int (lo8 y)) = true := by
  have h1 := y.toInt8.le_toInt
  have h2 := y.toInt8.toInt_lt
  simp only [lo8, fits, Bool.and_eq_true, decide_eq_true_eq, Int32.le_iff_toInt_le, Int8.toInt_toInt32, show (-128 : Int32).toInt = -128 from by decide, show (127 : Int32).toInt = 127 from by decide]
  omega
/-- A' is A but that each place j of lo .. hi - 1 holds f j -/
def Laid (A A' : Cell) (lo hi : Nat) (f : Nat → Value) : Prop := A'.cls = A.cls ∧ A'.vm = A.vm ∧ A'.slots.size = A.slots.size ∧ ∀ i, A'.slots[i]? = if lo ≤ i ∧ i < hi then some (f i) else A.slots[i]?
theorem Laid.zero (A : Cell) (lo : Nat) (f : Nat → Value) : Laid A A lo (lo + 0) f := ⟨rfl, rfl, rfl, fun i => by rw [if_neg (by omega)]⟩
theorem Laid.step {A Ak : Cell} {lo k : Nat} {f : Nat → Value} {v : Value} (h : Laid A Ak lo k f) (hlo : lo ≤ k) (hk : k < Ak.slots.size) (hv : v = f k) : Laid A (Ak.setSlot k v) lo (k + 1) f := by
  refine ⟨h.1, h.2.1, by simpa [Cell.setSlot] using h.2.2.1, fun i => ?_⟩
  by_cases e : k = i
  · subst e; rw [Cell.slots_setSlot_self v hk, if_pos (by omega), hv]
  · rw [Cell.slots_setSlot_ne v e, h.2.2.2 i]
    by_cases q : lo ≤ i ∧ i < k
    · rw [if_pos q, if_pos (by omega)]
    · rw [if_neg q, if_neg (by omega)]
def U16 : String := "java/lang/StringUTF16"
namespace Cmp5
def yN : MethodName := ⟨"java/lang/StringUTF16", "compress", "([CI[BII)I"⟩
abbrev yB : ByteArray := jdk_52_method_21_code
theorem d0 : decode yB 0 = .ok (.iconst 0, 1) := by decide +kernel
theorem d1 : decode yB 1 = .ok (.istore 5, 2) := by decide +kernel
theorem d3 : decode yB 3 = .ok (.iload 5, 2) := by decide +kernel
theorem d5 : decode yB 5 = .ok (.iload 4, 2) := by decide +kernel
theorem d7 : decode yB 7 = .ok (.if_icmp (.ge) 37, 3) := by decide +kernel
theorem d10 : decode yB 10 = .ok (.aload_n 0, 1) := by decide +kernel
theorem d11 : decode yB 11 = .ok (.iload_n 1, 1) := by decide +kernel
theorem d12 : decode yB 12 = .ok (.caload, 1) := by decide +kernel
theorem d13 : decode yB 13 = .ok (.istore 6, 2) := by decide +kernel
theorem d15 : decode yB 15 = .ok (.iload 6, 2) := by decide +kernel
theorem d17 : decode yB 17 = .ok (.sipush 255, 3) := by decide +kernel
theorem d20 : decode yB 20 = .ok (.if_icmp (.le) 6, 3) := by decide +kernel
theorem d26 : decode yB 26 = .ok (.aload_n 2, 1) := by decide +kernel
theorem d27 : decode yB 27 = .ok (.iload_n 3, 1) := by decide +kernel
theorem d28 : decode yB 28 = .ok (.iload 6, 2) := by decide +kernel
theorem d30 : decode yB 30 = .ok (.i2b, 1) := by decide +kernel
theorem d31 : decode yB 31 = .ok (.bastore, 1) := by decide +kernel
theorem d32 : decode yB 32 = .ok (.iinc 1 1, 3) := by decide +kernel
theorem d35 : decode yB 35 = .ok (.iinc 3 1, 3) := by decide +kernel
theorem d38 : decode yB 38 = .ok (.iinc 5 1, 3) := by decide +kernel
theorem d41 : decode yB 41 = .ok (.goto (-38), 3) := by decide +kernel
theorem d44 : decode yB 44 = .ok (.iload 4, 2) := by decide +kernel
theorem d46 : decode yB 46 = .ok (.ireturn, 1) := by decide +kernel
def site : List Cond := []
def tab : Cond := tabOf yN yB 7 (some .int) site
def P (b : Addr) (A : Cell) (d : Addr) (B : Cell) (o q len : Nat) (args : Array Value) (s : State) : Prop := args = #[.ref b, .int (Int32.ofNat o), .ref d, .int (Int32.ofNat q), .int (Int32.ofNat len)] ∧ Ch b A s ∧ Arr .byte d B s ∧ b ≠ d ∧ o + len ≤ A.slots.size ∧ q + len ≤ B.slots.size ∧ ∀ i, i < len → ¬ 255 < cv A (o + i)
def E (b : Addr) (A : Cell) (d : Addr) (B : Cell) (o q len : Nat) (r : Option Value) (s u : State) : Prop := r = some (.int (Int32.ofNat len)) ∧ ∃ B', Put d B' s u ∧ Laid B B' q (q + len) (fun j => Value.int (lo8 (cv A (o + (j - q)))))
/-- no char of the range above 255: len; the places written hold each char's low byte -/
theorem law (l : Launch) (b : Addr) (A : Cell) (d : Addr) (B : Cell) (o q len : Nat) : Law l yN 5 5 0 0 yB 7 (some .int) site (P b A d B o q len) (E b A d B o q len) (copyLocs d q len) 0 0 := by
  refine Law.of_walk (plainFor_of_name (by decide +kernel)) (by decide +kernel) (by decide +kernel) (by decide) (fun _ _ h => by rw [h.1]; rfl) (fun _ U U' hal hh h => ⟨h.1, h.2.1.mv hal hh, h.2.2.1.mv hal hh, h.2.2.2⟩) (fun r U U' V V' h1 hal h2 h => ⟨h.1, h.2.elim fun B' q => ⟨B', q.1.mv h1 h2, q.2⟩⟩) ?_
  intro p e s m args below meth c s₁ X0 hexec hbytes hml hret hlk hnm hown hh0 W hP
  obtain ⟨rfl, hA, hB, hne, l1, l2, hp⟩ := hP
  have c1 : Steps p.tables e below (s₁.setTop (entryFrame m #[.ref b, .int (Int32.ofNat o), .ref d, .int (Int32.ofNat q), .int (Int32.ofNat len)] 7)) (s₁.setTop (mkF m 0 #[.val (.ref b), .val (.int (Int32.ofNat o)), .val (.ref d), .val (.int (Int32.ofNat q)), .val (.int (Int32.ofNat len)), .unset, .unset] [])) := entry rfl
  have hA0 := hA.1.mv X0.warmed.alike hh0
  have hB0 := hB.mv X0.warmed.alike hh0
  have a31 := hA.1.2.2.2
  have c2 : Steps p.tables e below (s₁.setTop (entryFrame m #[.ref b, .int (Int32.ofNat o), .ref d, .int (Int32.ofNat q), .int (Int32.ofNat len)] 7)) (s₁.setTop (mkF m 3 #[.val (.ref b), .val (.int (Int32.ofNat o)), .val (.ref d), .val (.int (Int32.ofNat q)), .val (.int (Int32.ofNat len)), .val (.int 0), .unset] [])) := c1.trans (by
    refine iconstV X0.here hexec rfl 0 (hb hbytes d0) (by decide) ?_
    refine XS.istore X0.here hexec rfl (hb hbytes d1) rfl rfl ?_
    exact Steps.refl _)
  have loop : ∀ (r i : Nat), i + r = len → ∀ (z : Slot), (z = .unset ∨ ∃ w, z = .val w ∧ w.category = 1) → ∀ (Tl : State) (Bk : Cell), Stand p l e { frames := 0, locals := 0, cells := 0, slots := 0 } s m #[.ref b, .int (Int32.ofNat o), .ref d, .int (Int32.ofNat q), .int (Int32.ofNat len)] below meth c Tl ([] ++ copyLocs d q i) 0 0 → Put d Bk s₁ Tl → Laid B Bk q (q + i) (fun j => Value.int (lo8 (cv A (o + (j - q))))) →
      Steps p.tables e below (s₁.setTop (entryFrame m #[.ref b, .int (Int32.ofNat o), .ref d, .int (Int32.ofNat q), .int (Int32.ofNat len)] 7)) (Tl.setTop (mkF m 3 #[.val (.ref b), .val (.int (Int32.ofNat (o + i))), .val (.ref d), .val (.int (Int32.ofNat (q + i))), .val (.int (Int32.ofNat len)), .val (.int (Int32.ofNat i)), z] [])) → ∃ (T' : State) (B' : Cell) (z' : Slot), Stand p l e { frames := 0, locals := 0, cells := 0, slots := 0 } s m #[.ref b, .int (Int32.ofNat o), .ref d, .int (Int32.ofNat q), .int (Int32.ofNat len)] below meth c T' ([] ++ copyLocs d q len) 0 0 ∧ Put d B' s₁ T' ∧ Laid B B' q (q + len) (fun j => Value.int (lo8 (cv A (o + (j - q))))) ∧
      Steps p.tables e below (s₁.setTop (entryFrame m #[.ref b, .int (Int32.ofNat o), .ref d, .int (Int32.ofNat q), .int (Int32.ofNat len)] 7)) (T'.setTop (mkF m 3 #[.val (.ref b), .val (.int (Int32.ofNat (o + len))), .val (.ref d), .val (.int (Int32.ofNat (q + len))), .val (.int (Int32.ofNat len)), .val (.int (Int32.ofNat len)), z'] [])) := by
    intro r
    induction r with
    | zero =>
      intro i hi z hz Tl Bk Xl pl fl cl
      have hil : i = len := by omega
      rw [hil] at Xl fl cl
      exact ⟨Tl, Bk, z, Xl, pl, fl, cl⟩
    | succ r ih =>
      intro i hi z hz Tl Bk Xl pl fl cl
      have all := X0.warmed.alike.symm.trans Xl.warmed.alike
      have hAl := hA0.keep all (pl.other hne hA0.1)
      have hBk := hB0.like all pl.1 fl.1 fl.2.1 fl.2.2.1
      have hlt : q + i < Bk.slots.size := by rw [fl.2.2.1]; omega
      have c3 : Steps p.tables e below (s₁.setTop (entryFrame m #[.ref b, .int (Int32.ofNat o), .ref d, .int (Int32.ofNat q), .int (Int32.ofNat len)] 7)) (Tl.setTop (mkF m 12 #[.val (.ref b), .val (.int (Int32.ofNat (o + i))), .val (.ref d), .val (.int (Int32.ofNat (q + i))), .val (.int (Int32.ofNat len)), .val (.int (Int32.ofNat i)), z] [.int (Int32.ofNat (o + i)), .ref b])) := cl.trans (by
        refine XS.iload Xl.here hexec rfl (hb hbytes d3) rfl ?_
        refine XS.iload Xl.here hexec rfl (hb hbytes d5) rfl ?_
        refine XS.icmpNo Xl.here hexec rfl (hb hbytes d7) rfl (ii_ge_f (lt32 (by omega) (by omega))) ?_
        refine XS.aloadN Xl.here hexec rfl (hb hbytes d10) rfl rfl ?_
        refine XS.iloadN Xl.here hexec rfl (hb hbytes d11) rfl ?_
        exact Steps.refl _)
      have c4 : Steps p.tables e below (s₁.setTop (entryFrame m #[.ref b, .int (Int32.ofNat o), .ref d, .int (Int32.ofNat q), .int (Int32.ofNat len)] 7)) (Tl.setTop (mkF m 13 #[.val (.ref b), .val (.int (Int32.ofNat (o + i))), .val (.ref d), .val (.int (Int32.ofNat (q + i))), .val (.int (Int32.ofNat len)), .val (.int (Int32.ofNat i)), z] [.int (cv A (o + i))])) := c3.trans (by
        refine Xl.aget hexec hAl rfl (hA.get (i := o + i) (by omega)) rfl rfl (hb hbytes d12) ?_
        exact Steps.refl _)
      have c5 : Steps p.tables e below (s₁.setTop (entryFrame m #[.ref b, .int (Int32.ofNat o), .ref d, .int (Int32.ofNat q), .int (Int32.ofNat len)] 7)) (Tl.setTop (mkF m 15 #[.val (.ref b), .val (.int (Int32.ofNat (o + i))), .val (.ref d), .val (.int (Int32.ofNat (q + i))), .val (.int (Int32.ofNat len)), .val (.int (Int32.ofNat i)), .val (.int (cv A (o + i)))] [])) := c4.trans (by
        refine XS.istoreS Xl.here hexec rfl (hb hbytes d13) rfl rfl hz ?_
        exact Steps.refl _)
      have c6 : Steps p.tables e below (s₁.setTop (entryFrame m #[.ref b, .int (Int32.ofNat o), .ref d, .int (Int32.ofNat q), .int (Int32.ofNat len)] 7)) (Tl.setTop (mkF m 31 #[.val (.ref b), .val (.int (Int32.ofNat (o + i))), .val (.ref d), .val (.int (Int32.ofNat (q + i))), .val (.int (Int32.ofNat len)), .val (.int (Int32.ofNat i)), .val (.int (cv A (o + i)))] [.int (lo8 (cv A (o + i))), .int (Int32.ofNat (q + i)), .ref d])) := c5.trans (by
        refine XS.iload Xl.here hexec rfl (hb hbytes d15) rfl ?_
        refine sipushV Xl.here hexec rfl 255 (hb hbytes d17) (by decide) ?_
        refine XS.icmpYes Xl.here hexec rfl (pc0 := 20) rfl (hb hbytes d20) rfl (ii_le_t (hp i (by omega))) (by decide) rfl ?_
        refine XS.aloadN Xl.here hexec rfl (hb hbytes d26) rfl rfl ?_
        refine XS.iloadN Xl.here hexec rfl (hb hbytes d27) rfl ?_
        refine XS.iload Xl.here hexec rfl (hb hbytes d28) rfl ?_
        refine i2b Xl.here hexec rfl (hb hbytes d30) rfl ?_
        exact Steps.refl _)
      obtain ⟨T7, X7, p7, st7⟩ := Xl.aput hexec hBk rfl hlt rfl (fits_lo8 (cv A (o + i))) (g := (mkF m 31 #[.val (.ref b), .val (.int (Int32.ofNat (o + i))), .val (.ref d), .val (.int (Int32.ofNat (q + i))), .val (.int (Int32.ofNat len)), .val (.int (Int32.ofNat i)), .val (.int (cv A (o + i)))] [.int (lo8 (cv A (o + i))), .int (Int32.ofNat (q + i)), .ref d])) rfl (rest := []) rfl (hb hbytes d31)
      have c8 : Steps p.tables e below (s₁.setTop (entryFrame m #[.ref b, .int (Int32.ofNat o), .ref d, .int (Int32.ofNat q), .int (Int32.ofNat len)] 7)) (T7.setTop (mkF m 32 #[.val (.ref b), .val (.int (Int32.ofNat (o + i))), .val (.ref d), .val (.int (Int32.ofNat (q + i))), .val (.int (Int32.ofNat len)), .val (.int (Int32.ofNat i)), .val (.int (cv A (o + i)))] [])) := c6.trans (st7 _ (Steps.refl _))
      have c9 : Steps p.tables e below (s₁.setTop (entryFrame m #[.ref b, .int (Int32.ofNat o), .ref d, .int (Int32.ofNat q), .int (Int32.ofNat len)] 7)) (T7.setTop (mkF m 3 #[.val (.ref b), .val (.int (Int32.ofNat (o + i) + 1)), .val (.ref d), .val (.int (Int32.ofNat (q + i) + 1)), .val (.int (Int32.ofNat len)), .val (.int (Int32.ofNat i + 1)), .val (.int (cv A (o + i)))] [])) := c8.trans (by
        refine iincV X7.here hexec rfl 1 (hb hbytes d32) (by decide) rfl rfl ?_
        refine iincV X7.here hexec rfl 1 (hb hbytes d35) (by decide) rfl rfl ?_
        refine iincV X7.here hexec rfl 1 (hb hbytes d38) (by decide) rfl rfl ?_
        refine XS.goto X7.here hexec rfl (pc0 := 41) rfl (hb hbytes d41) (by decide) rfl ?_
        exact Steps.refl _)
      have c10 : Steps p.tables e below (s₁.setTop (entryFrame m #[.ref b, .int (Int32.ofNat o), .ref d, .int (Int32.ofNat q), .int (Int32.ofNat len)] 7)) (T7.setTop (mkF m 3 #[.val (.ref b), .val (.int (Int32.ofNat (o + (i + 1)))), .val (.ref d), .val (.int (Int32.ofNat (q + (i + 1)))), .val (.int (Int32.ofNat len)), .val (.int (Int32.ofNat (i + 1))), .val (.int (cv A (o + i)))] [])) := by
        have := c9
        rw [succ32, succ32, succ32] at this
        exact this
      exact ih (i + 1) (by omega) _ (Or.inr ⟨_, rfl, rfl⟩) T7 _ (by rw [copyLocs_step, ← List.append_assoc]; exact X7) (pl.trans p7) (fl.step (by omega) hlt (by simp)) c10
  obtain ⟨T9, B9, z9, X9, p9, f9, g9⟩ := loop len 0 (by omega) .unset (Or.inl rfl) s₁ B (by simpa [copyLocs] using X0) ⟨hB0.1, fun _ _ => rfl, rfl⟩ (Laid.zero _ _ _) c2
  have c11 : Steps p.tables e below (s₁.setTop (entryFrame m #[.ref b, .int (Int32.ofNat o), .ref d, .int (Int32.ofNat q), .int (Int32.ofNat len)] 7)) (T9.setTop (mkF m 46 #[.val (.ref b), .val (.int (Int32.ofNat (o + len))), .val (.ref d), .val (.int (Int32.ofNat (q + len))), .val (.int (Int32.ofNat len)), .val (.int (Int32.ofNat len)), z9] [.int (Int32.ofNat len)])) := g9.trans (by
    refine XS.iload X9.here hexec rfl (hb hbytes d3) rfl ?_
    refine XS.iload X9.here hexec rfl (hb hbytes d5) rfl ?_
    refine XS.icmpYes X9.here hexec rfl (pc0 := 7) rfl (hb hbytes d7) rfl (ii_ge_t (nlt32 (by omega) (Nat.le_refl _))) (by decide) rfl ?_
    refine XS.iload X9.here hexec rfl (hb hbytes d44) rfl ?_
    exact Steps.refl _)
  exact ⟨T9, some (.int (Int32.ofNat len)), _, _, _, X9, by simp, rfl, rfl, (fun h => by cases h), ⟨rfl, B9, p9.from hh0, f9⟩, fun fs hl => c11.trans (X9.ireturnOut hexec hret rfl (Or.inl rfl) (hb hbytes d46) hl)⟩
end Cmp5
namespace Cmp3
def yN : MethodName := ⟨"java/lang/StringUTF16", "compress", "([CII)[B"⟩
abbrev yB : ByteArray := jdk_52_method_16_code
theorem d0 : decode yB 0 = .ok (.iload_n 2, 1) := by decide +kernel
theorem d1 : decode yB 1 = .ok (.newarray .byte, 2) := by decide +kernel
theorem d3 : decode yB 3 = .ok (.astore_n 3, 1) := by decide +kernel
theorem d4 : decode yB 4 = .ok (.aload_n 0, 1) := by decide +kernel
theorem d5 : decode yB 5 = .ok (.iload_n 1, 1) := by decide +kernel
theorem d6 : decode yB 6 = .ok (.aload_n 3, 1) := by decide +kernel
theorem d7 : decode yB 7 = .ok (.iconst 0, 1) := by decide +kernel
theorem d8 : decode yB 8 = .ok (.iload_n 2, 1) := by decide +kernel
theorem d9 : decode yB 9 = .ok (.invokestatic 115, 3) := by decide +kernel
theorem d12 : decode yB 12 = .ok (.istore 4, 2) := by decide +kernel
theorem d14 : decode yB 14 = .ok (.iload 4, 2) := by decide +kernel
theorem d16 : decode yB 16 = .ok (.iload_n 2, 1) := by decide +kernel
theorem d17 : decode yB 17 = .ok (.if_icmp (.eq) 40, 3) := by decide +kernel
theorem d57 : decode yB 57 = .ok (.aload_n 3, 1) := by decide +kernel
theorem d58 : decode yB 58 = .ok (.areturn, 1) := by decide +kernel
def site : List Cond := [.arrayClass .byte, Cmp5.tab] ++ staticW U16 115 Cmp5.yN
def tab : Cond := tabOf yN yB 6 (some (.array .byte)) site
def P (b : Addr) (A : Cell) (o len : Nat) (args : Array Value) (s : State) : Prop := args = #[.ref b, .int (Int32.ofNat o), .int (Int32.ofNat len)] ∧ Ch b A s ∧ o + len ≤ A.slots.size ∧ len ≤ 536870912 ∧ ∀ i, i < len → ¬ 255 < cv A (o + i)
def E (b : Addr) (A : Cell) (o len : Nat) (r : Option Value) (s u : State) : Prop := NewArr .byte "[B" len (fun j => .int (lo8 (cv A (o + j)))) r s u ∧ u.heap.size = s.heap.size + 1
/-- no char of the range above 255: a new byte[] of their low bytes -/
theorem law (l : Launch) (b : Addr) (A : Cell) (o len : Nat) : Law l yN 3 3 1 18 yB 6 (some (.array .byte)) site (P b A o len) (E b A o len) [] 1 len := by
  refine Law.of_walk (plainFor_of_name (by decide +kernel)) (by decide +kernel) (by decide +kernel) (by decide) (fun _ _ h => by rw [h.1]; rfl) (fun _ U U' hal hh h => ⟨h.1, h.2.1.mv hal hh, h.2.2⟩) (fun r U U' V V' h1 hal h2 h => ⟨NewArr.mv r U U' V V' h1 hal h2 h.1, by rw [h1, h2]; exact h.2⟩) ?_
  intro p e s m args below meth c s₁ X0 hexec hbytes hml hret hlk hnm hown hh0 W hP
  obtain ⟨rfl, hA, l1, l2, hp⟩ := hP
  have a31 := hA.1.2.2.2
  have c1 : Steps p.tables e below (s₁.setTop (entryFrame m #[.ref b, .int (Int32.ofNat o), .int (Int32.ofNat len)] 6)) (s₁.setTop (mkF m 0 #[.val (.ref b), .val (.int (Int32.ofNat o)), .val (.int (Int32.ofNat len)), .unset, .unset, .unset] [])) := entry rfl
  have c2 : Steps p.tables e below (s₁.setTop (entryFrame m #[.ref b, .int (Int32.ofNat o), .int (Int32.ofNat len)] 6)) (s₁.setTop (mkF m 1 #[.val (.ref b), .val (.int (Int32.ofNat o)), .val (.int (Int32.ofNat len)), .unset, .unset, .unset] [.int (Int32.ofNat len)])) := c1.trans (by
    refine XS.iloadN X0.here hexec rfl (hb hbytes d0) rfl ?_
    exact Steps.refl _)
  obtain ⟨T3, B3, X3, ba3, bs3, bv3, bh3, bf3, st3⟩ := X0.anew hexec (atype := .byte) (wk W (.arrayClass .byte)) rfl (by show len * 1 ≤ _; omega) (by omega) (g := (mkF m 1 #[.val (.ref b), .val (.int (Int32.ofNat o)), .val (.int (Int32.ofNat len)), .unset, .unset, .unset] [.int (Int32.ofNat len)])) rfl (hb hbytes d1) (rest := []) rfl (Nat.le_refl _) (by show 0 + len ≤ len; omega)
  rw [hh0] at ba3 st3
  have kp3 : XT.Kept s T3 := (XT.Kept.of_eq hh0).push bh3
  have hA3 := hA.keep X3.warmed.alike (kp3 _ _ hA.1.1)
  have hne : b ≠ s.heap.size := hA.1.ne
  have c4 : Steps p.tables e below (s₁.setTop (entryFrame m #[.ref b, .int (Int32.ofNat o), .int (Int32.ofNat len)] 6)) (T3.setTop (mkF m 3 #[.val (.ref b), .val (.int (Int32.ofNat o)), .val (.int (Int32.ofNat len)), .unset, .unset, .unset] [.ref s.heap.size])) := c2.trans (st3 _ (Steps.refl _))
  have c5 : Steps p.tables e below (s₁.setTop (entryFrame m #[.ref b, .int (Int32.ofNat o), .int (Int32.ofNat len)] 6)) (T3.setTop (mkF m 9 #[.val (.ref b), .val (.int (Int32.ofNat o)), .val (.int (Int32.ofNat len)), .val (.ref s.heap.size), .unset, .unset] [.int (Int32.ofNat len), .int 0, .ref s.heap.size, .int (Int32.ofNat o), .ref b])) := c4.trans (by
    refine XS.astoreN X3.here hexec rfl (hb hbytes d3) rfl rfl rfl ?_
    refine XS.aloadN X3.here hexec rfl (hb hbytes d4) rfl rfl ?_
    refine XS.iloadN X3.here hexec rfl (hb hbytes d5) rfl ?_
    refine XS.aloadN X3.here hexec rfl (hb hbytes d6) rfl rfl ?_
    refine iconstV X3.here hexec rfl 0 (hb hbytes d7) (by decide) ?_
    refine XS.iloadN X3.here hexec rfl (hb hbytes d8) rfl ?_
    exact Steps.refl _)
  obtain ⟨v6, T6, X6, E6, g6⟩ := X3.callS hexec (Cmp5.law l b A s.heap.size B3 o 0 len) hown (wks W (staticW U16 115 Cmp5.yN)) (wk W Cmp5.tab) (W := 0) (Nat.le_of_ble_eq_true rfl) (Nat.le_of_ble_eq_true rfl) (Nat.le_refl _) (by show 0 + len + 0 ≤ len; omega) (g := (mkF m 9 #[.val (.ref b), .val (.int (Int32.ofNat o)), .val (.int (Int32.ofNat len)), .val (.ref s.heap.size), .unset, .unset] [.int (Int32.ofNat len), .int (Int32.ofNat 0), .ref s.heap.size, .int (Int32.ofNat o), .ref b])) rfl (by rw [hml]; rfl) c5 (argsL := [.ref b, .int (Int32.ofNat o), .ref s.heap.size, .int (Int32.ofNat 0), .int (Int32.ofNat len)]) (rest := []) rfl rfl (by show 2 * 0 + 0 ≤ _; decide) (hb hbytes d9) (⟨rfl, hA3, ba3, hne, l1, by rw [bs3]; simp, hp⟩)
  obtain ⟨rfl, B6, p6, f6⟩ := E6
  have c7 : Steps p.tables e below (s₁.setTop (entryFrame m #[.ref b, .int (Int32.ofNat o), .int (Int32.ofNat len)] 6)) (T6.setTop (mkF m 12 #[.val (.ref b), .val (.int (Int32.ofNat o)), .val (.int (Int32.ofNat len)), .val (.ref s.heap.size), .unset, .unset] [.int (Int32.ofNat len)])) := g6
  have c8 : Steps p.tables e below (s₁.setTop (entryFrame m #[.ref b, .int (Int32.ofNat o), .int (Int32.ofNat len)] 6)) (T6.setTop (mkF m 58 #[.val (.ref b), .val (.int (Int32.ofNat o)), .val (.int (Int32.ofNat len)), .val (.ref s.heap.size), .val (.int (Int32.ofNat len)), .unset] [.ref s.heap.size])) := c7.trans (by
    refine XS.istore X6.here hexec rfl (hb hbytes d12) rfl rfl ?_
    refine XS.iload X6.here hexec rfl (hb hbytes d14) rfl ?_
    refine XS.iloadN X6.here hexec rfl (hb hbytes d16) rfl ?_
    refine XS.icmpYes X6.here hexec rfl (pc0 := 17) rfl (hb hbytes d17) rfl (ii_eq_t rfl) (by decide) rfl ?_
    refine XS.aloadN X6.here hexec rfl (hb hbytes d57) rfl rfl ?_
    exact Steps.refl _)
  have X8 := X6.wide (L' := []) (cells' := 1) (slots' := len) (fun x hx hlt => by
    simp only [List.nil_append, copyLocs, List.mem_map, List.mem_range] at hx
    obtain ⟨i, -, rfl⟩ := hx
    exact absurd hlt (Nat.lt_irrefl _)) (Nat.le_refl _) (by omega)
  exact ⟨T6, some (.ref s.heap.size), _, _, _, X8, rfl, rfl, rfl, (fun h => by cases h), ⟨⟨rfl, B6, ba3.like (X3.warmed.alike.symm.trans X6.warmed.alike) p6.1 f6.1 f6.2.1 f6.2.2.1, f6.2.1.trans bv3, by rw [X6.warmed.alike.findClass, f6.1]; exact bf3, by rw [f6.2.2.1, bs3]; simp, fun j hj => by rw [f6.2.2.2 j, if_pos (by omega)]; rfl, kp3.put p6 (Nat.le_refl _)⟩, by rw [p6.2.2, bh3, hh0]; simp⟩, fun fs hl => c8.trans (X8.areturnOut hexec rfl hret rfl (hb hbytes d58) hl)⟩
end Cmp3
namespace CodL
def yN : MethodName := ⟨"java/lang/StringUTF16", "coderFromArrayLen", "([BI)B"⟩
abbrev yB : ByteArray := jdk_52_method_15_code
theorem d0 : decode yB 0 = .ok (.iload_n 1, 1) := by decide +kernel
theorem d1 : decode yB 1 = .ok (.aload_n 0, 1) := by decide +kernel
theorem d2 : decode yB 2 = .ok (.arraylength, 1) := by decide +kernel
theorem d3 : decode yB 3 = .ok (.isub, 1) := by decide +kernel
theorem d4 : decode yB 4 = .ok (.bipush 31, 2) := by decide +kernel
theorem d6 : decode yB 6 = .ok (.iushr, 1) := by decide +kernel
theorem d7 : decode yB 7 = .ok (.i2b, 1) := by decide +kernel
theorem d8 : decode yB 8 = .ok (.ireturn, 1) := by decide +kernel
def site : List Cond := []
def tab : Cond := tabOf yN yB 2 (some .byte) site
def P (d : Addr) (B : Cell) (args : Array Value) (s : State) : Prop := args = #[.ref d, .int (Int32.ofNat B.slots.size)] ∧ Arr .byte d B s
def E (r : Option Value) (s u : State) : Prop := XT.PureE (some (.int 0)) r s u
/-- an array as long as the number of chars: LATIN1 -/
theorem law (l : Launch) (d : Addr) (B : Cell) : Law l yN 2 2 0 0 yB 2 (some .byte) site (P d B) E [] 0 0 := by
  refine Law.of_walk (plainFor_of_name (by decide +kernel)) (by decide +kernel) (by decide +kernel) (by decide) (fun _ _ h => by rw [h.1]; rfl) (fun _ U U' hal hh h => ⟨h.1, h.2.mv hal hh⟩) (fun r U U' V V' h1 hal h2 h => XT.PureE.mv r U U' V V' h1 hal h2 h) ?_
  intro p e s m args below meth c s₁ X0 hexec hbytes hml hret hlk hnm hown hh0 W hP
  obtain ⟨rfl, hB⟩ := hP
  have hB0 := hB.mv X0.warmed.alike hh0
  have c1 : Steps p.tables e below (s₁.setTop (entryFrame m #[.ref d, .int (Int32.ofNat B.slots.size)] 2)) (s₁.setTop (mkF m 0 #[.val (.ref d), .val (.int (Int32.ofNat B.slots.size))] [])) := entry rfl
  have c2 : Steps p.tables e below (s₁.setTop (entryFrame m #[.ref d, .int (Int32.ofNat B.slots.size)] 2)) (s₁.setTop (mkF m 2 #[.val (.ref d), .val (.int (Int32.ofNat B.slots.size))] [.ref d, .int (Int32.ofNat B.slots.size)])) := c1.trans (by
    refine XS.iloadN X0.here hexec rfl (hb hbytes d0) rfl ?_
    refine XS.aloadN X0.here hexec rfl (hb hbytes d1) rfl rfl ?_
    exact Steps.refl _)
  have c3 : Steps p.tables e below (s₁.setTop (entryFrame m #[.ref d, .int (Int32.ofNat B.slots.size)] 2)) (s₁.setTop (mkF m 8 #[.val (.ref d), .val (.int (Int32.ofNat B.slots.size))] [.int (lo8 (ushr (Int32.ofNat B.slots.size - Int32.ofNat B.slots.size) 31))])) := c2.trans (by
    refine X0.alen hexec hB0 rfl rfl (hb hbytes d2) ?_
    refine XS.isub X0.here hexec rfl (hb hbytes d3) rfl ?_
    refine bipushV X0.here hexec rfl 31 (hb hbytes d4) (by decide) ?_
    refine iushr X0.here hexec rfl (hb hbytes d6) rfl ?_
    refine i2b X0.here hexec rfl (hb hbytes d7) rfl ?_
    exact Steps.refl _)
  have e0 : lo8 (ushr (Int32.ofNat B.slots.size - Int32.ofNat B.slots.size) 31) = 0 := by rw [Int32.sub_self]; decide
  rw [e0] at c3
  exact ⟨s₁, some (.int 0), _, _, _, X0, rfl, rfl, rfl, (fun h => by cases h), ⟨rfl, hh0⟩, fun fs hl => c3.trans (X0.ireturnOut hexec hret rfl (Or.inr (Or.inr (Or.inl rfl))) (hb hbytes d8) hl)⟩
end CodL
/-- the String at a is Latin-1 over a new byte[] (the heap's one new cell): the low bytes of the len chars of A from o on; every cell but a is kept -/
def Got (a : Addr) (D : Cell) (fV fC : Field) (A : Cell) (o len : Nat) (r : Option Value) (s u : State) : Prop := r = none ∧ ∃ D' V : Cell, Blank "java/lang/String" a D' u ∧ Same D D' [fV.slot, fC.slot] ∧ D'.slots[fV.slot]? = some (.ref s.heap.size) ∧ D'.slots[fC.slot]? = some (.int 0) ∧ Arr .byte s.heap.size V u ∧ V.vm = .none ∧ u.vm.findClass "[B" = some V.cls ∧ V.slots.size = len ∧ (∀ j, j < len → V.slots[j]? = some (.int (lo8 (cv A (o + j))))) ∧ (∀ (y : Addr) (c : Cell), y ≠ a → s.heap[y]? = some c → u.heap[y]? = some c) ∧ u.heap.size = s.heap.size + 1
theorem Got.mv {a : Addr} {D A : Cell} {fV fC : Field} {o len : Nat} : ∀ r (U U' V V' : State), U'.heap = U.heap → V.vm.Alike V'.vm → V'.heap = V.heap → Got a D fV fC A o len r U V → Got a D fV fC A o len r U' V' :=
  fun r U U' V V' h1 hal h2 ⟨e0, D', X, a1, a2, a3, a4, a5, a6, a7, a8, a9, a10, a11⟩ => ⟨e0, D', X, a1.mv hal h2, a2, by rw [h1]; exact a3, a4, by rw [h1]; exact a5.mv hal h2, a6, by rw [hal.findClass]; exact a7, a8, a9, by rw [h1, h2]; exact a10, by rw [h1, h2]; exact a11⟩
namespace New4
def yN : MethodName := ⟨"java/lang/String", "<init>", "([CIILjava/lang/Void;)V"⟩
abbrev yB : ByteArray := jdk_42_method_149_code
theorem d0 : decode yB 0 = .ok (.aload_n 0, 1) := by decide +kernel
theorem d1 : decode yB 1 = .ok (.invokespecial 1, 3) := by decide +kernel
theorem d4 : decode yB 4 = .ok (.iload_n 3, 1) := by decide +kernel
theorem d5 : decode yB 5 = .ok (.ifCond (.ne) 22, 3) := by decide +kernel
theorem d27 : decode yB 27 = .ok (.getstatic 38, 3) := by decide +kernel
theorem d30 : decode yB 30 = .ok (.ifCond (.eq) 28, 3) := by decide +kernel
theorem d33 : decode yB 33 = .ok (.aload_n 1, 1) := by decide +kernel
theorem d34 : decode yB 34 = .ok (.iload_n 2, 1) := by decide +kernel
theorem d35 : decode yB 35 = .ok (.iload_n 3, 1) := by decide +kernel
theorem d36 : decode yB 36 = .ok (.invokestatic 177, 3) := by decide +kernel
theorem d39 : decode yB 39 = .ok (.astore 5, 2) := by decide +kernel
theorem d41 : decode yB 41 = .ok (.aload_n 0, 1) := by decide +kernel
theorem d42 : decode yB 42 = .ok (.aload 5, 2) := by decide +kernel
theorem d44 : decode yB 44 = .ok (.iload_n 3, 1) := by decide +kernel
theorem d45 : decode yB 45 = .ok (.invokestatic 47, 3) := by decide +kernel
theorem d48 : decode yB 48 = .ok (.putfield 15, 3) := by decide +kernel
theorem d51 : decode yB 51 = .ok (.aload_n 0, 1) := by decide +kernel
theorem d52 : decode yB 52 = .ok (.aload 5, 2) := by decide +kernel
theorem d54 : decode yB 54 = .ok (.putfield 9, 3) := by decide +kernel
theorem d57 : decode yB 57 = .ok (.return_, 1) := by decide +kernel
def site : List Cond := [.fieldLink "java/lang/String" 38 "java/lang/String" "COMPACT_STRINGS" "Z", Cmp3.tab, CodL.tab, .laysFinal "java/lang/String" "java/lang/String" "value" "[B", .fieldLink "java/lang/String" 9 "java/lang/String" "value" "[B", .laysFinal "java/lang/String" "java/lang/String" "coder" "B", .fieldLink "java/lang/String" 15 "java/lang/String" "coder" "B"] ++ objW "java/lang/String" 1 ++ staticW "java/lang/String" 177 Cmp3.yN ++ staticW "java/lang/String" 47 CodL.yN
def tab : Cond := tabOf yN yB 6 none site
def P (a : Addr) (D : Cell) (fV fC : Field) (b : Addr) (A : Cell) (z : Int32) (o len : Nat) (args : Array Value) (s : State) : Prop := args = #[.ref a, .ref b, .int (Int32.ofNat o), .int (Int32.ofNat len), .null] ∧ Blank "java/lang/String" a D s ∧ Found "java/lang/String" "value" "[B" fV s ∧ Found "java/lang/String" "coder" "B" fC s ∧ Ch b A s ∧ StaticIs s "java/lang/String" "COMPACT_STRINGS" "Z" (.int z) ∧ ¬ z = 0 ∧ 0 < len ∧ o + len ≤ A.slots.size ∧ len ≤ 536870912 ∧ ∀ i, i < len → ¬ 255 < cv A (o + i)
def E (a : Addr) (D : Cell) (fV fC : Field) (A : Cell) (o len : Nat) (r : Option Value) (s u : State) : Prop := Got a D fV fC A o len r s u
/-- len > 0, no char of the range above 255: a Latin-1 String of their low bytes -/
theorem law (l : Launch) (a : Addr) (D : Cell) (fV fC : Field) (b : Addr) (A : Cell) (z : Int32) (o len : Nat) : Law l yN 5 4 2 35 yB 6 none site (P a D fV fC b A z o len) (E a D fV fC A o len) [⟨a, fC.slot⟩, ⟨a, fV.slot⟩] 1 len := by
  refine Law.of_walk (plainFor_of_name (by decide +kernel)) (by decide +kernel) (by decide +kernel) (by decide) (fun _ _ h => by rw [h.1]; rfl) (fun _ U U' hal hh h => ⟨h.1, h.2.1.mv hal hh, h.2.2.1.al hal, h.2.2.2.1.al hal, h.2.2.2.2.1.mv hal hh, h.2.2.2.2.2.1.there hal hh, h.2.2.2.2.2.2⟩) (fun r U U' V V' h1 hal h2 h => Got.mv r U U' V V' h1 hal h2 h) ?_
  intro p e s m args below meth c s₁ X0 hexec hbytes hml hret hlk hnm hown hh0 W hP
  obtain ⟨rfl, hB, f1, f2, hA, s1, hz, l0, l1, l2, hp⟩ := hP
  have a31 := hA.1.2.2.2
  have c1 : Steps p.tables e below (s₁.setTop (entryFrame m #[.ref a, .ref b, .int (Int32.ofNat o), .int (Int32.ofNat len), .null] 6)) (s₁.setTop (mkF m 0 #[.val (.ref a), .val (.ref b), .val (.int (Int32.ofNat o)), .val (.int (Int32.ofNat len)), .val .null, .unset] [])) := entry rfl
  have c2 : Steps p.tables e below (s₁.setTop (entryFrame m #[.ref a, .ref b, .int (Int32.ofNat o), .int (Int32.ofNat len), .null] 6)) (s₁.setTop (mkF m 1 #[.val (.ref a), .val (.ref b), .val (.int (Int32.ofNat o)), .val (.int (Int32.ofNat len)), .val .null, .unset] [.ref a])) := c1.trans (by
    refine XS.aloadN X0.here hexec rfl (hb hbytes d0) rfl rfl ?_
    exact Steps.refl _)
  obtain ⟨T3, X3, q3, st3⟩ := X0.oinit hexec hown (wks W (objW "java/lang/String" 1)) (g := (mkF m 1 #[.val (.ref a), .val (.ref b), .val (.int (Int32.ofNat o)), .val (.int (Int32.ofNat len)), .val .null, .unset] [.ref a])) rfl (by rw [hml]; rfl) (rest := []) rfl (hb hbytes d1) (W := 0) (by show 2 * 0 + 0 ≤ _; decide) (Nat.le_of_ble_eq_true rfl) (Nat.le_of_ble_eq_true rfl)
  have hh3 := q3.trans hh0
  have c4 : Steps p.tables e below (s₁.setTop (entryFrame m #[.ref a, .ref b, .int (Int32.ofNat o), .int (Int32.ofNat len), .null] 6)) (T3.setTop (mkF m 27 #[.val (.ref a), .val (.ref b), .val (.int (Int32.ofNat o)), .val (.int (Int32.ofNat len)), .val .null, .unset] [])) := (c2.trans (st3 _ (Steps.refl _))).trans (by
    refine XS.iloadN X3.here hexec rfl (hb hbytes d4) rfl ?_
    refine XS.ifYes X3.here hexec rfl (pc0 := 5) rfl (hb hbytes d5) rfl (i0_ne_t (nz32 (by omega) l0)) (by decide) rfl ?_
    exact Steps.refl _)
  obtain ⟨T5, X5, q5, st5⟩ := X3.sget hexec hown (wk W (.fieldLink "java/lang/String" 38 "java/lang/String" "COMPACT_STRINGS" "Z")) s1 (fun _ _ h => by rw [hh3]; exact h) (g := (mkF m 27 #[.val (.ref a), .val (.ref b), .val (.int (Int32.ofNat o)), .val (.int (Int32.ofNat len)), .val .null, .unset] [])) rfl (hb hbytes d27)
  have hh5 := q5.trans hh3
  have c6 : Steps p.tables e below (s₁.setTop (entryFrame m #[.ref a, .ref b, .int (Int32.ofNat o), .int (Int32.ofNat len), .null] 6)) (T5.setTop (mkF m 30 #[.val (.ref a), .val (.ref b), .val (.int (Int32.ofNat o)), .val (.int (Int32.ofNat len)), .val .null, .unset] [.int z])) := c4.trans (st5 _ (Steps.refl _))
  have c7 : Steps p.tables e below (s₁.setTop (entryFrame m #[.ref a, .ref b, .int (Int32.ofNat o), .int (Int32.ofNat len), .null] 6)) (T5.setTop (mkF m 36 #[.val (.ref a), .val (.ref b), .val (.int (Int32.ofNat o)), .val (.int (Int32.ofNat len)), .val .null, .unset] [.int (Int32.ofNat len), .int (Int32.ofNat o), .ref b])) := c6.trans (by
    refine XS.ifNo X5.here hexec rfl (hb hbytes d30) rfl (i0_eq_f hz) ?_
    refine XS.aloadN X5.here hexec rfl (hb hbytes d33) rfl rfl ?_
    refine XS.iloadN X5.here hexec rfl (hb hbytes d34) rfl ?_
    refine XS.iloadN X5.here hexec rfl (hb hbytes d35) rfl ?_
    exact Steps.refl _)
  obtain ⟨v8, T8, X8, E8, g8⟩ := X5.callS hexec (Cmp3.law l b A o len) hown (wks W (staticW "java/lang/String" 177 Cmp3.yN)) (wk W Cmp3.tab) (W := 0) (Nat.le_of_ble_eq_true rfl) (Nat.le_of_ble_eq_true rfl) (Nat.le_refl _) (by show 0 + len ≤ len; omega) (g := (mkF m 36 #[.val (.ref a), .val (.ref b), .val (.int (Int32.ofNat o)), .val (.int (Int32.ofNat len)), .val .null, .unset] [.int (Int32.ofNat len), .int (Int32.ofNat o), .ref b])) rfl (by rw [hml]; rfl) c7 (argsL := [.ref b, .int (Int32.ofNat o), .int (Int32.ofNat len)]) (rest := []) rfl rfl (by show 2 * 0 + 0 ≤ _; decide) (hb hbytes d36) (⟨rfl, hA.mv X5.warmed.alike hh5, l1, l2, hp⟩)
  obtain ⟨e8, z8⟩ := E8
  obtain ⟨rfl, N, n1, n2, n3, n4, n5, n6⟩ := NewArr.mv _ T5 s _ _ hh5.symm (Vm.Alike.refl _) rfl e8
  rw [hh5] at z8
  have hB1 := hB.keep X8.warmed.alike (n6 _ _ hB.1)
  have hne : s.heap.size ≠ a := (Nat.ne_of_lt (Array.getElem?_eq_some_iff.mp hB.1).1).symm
  have c9 : Steps p.tables e below (s₁.setTop (entryFrame m #[.ref a, .ref b, .int (Int32.ofNat o), .int (Int32.ofNat len), .null] 6)) (T8.setTop (mkF m 39 #[.val (.ref a), .val (.ref b), .val (.int (Int32.ofNat o)), .val (.int (Int32.ofNat len)), .val .null, .unset] [.ref s.heap.size])) := g8
  have c10 : Steps p.tables e below (s₁.setTop (entryFrame m #[.ref a, .ref b, .int (Int32.ofNat o), .int (Int32.ofNat len), .null] 6)) (T8.setTop (mkF m 45 #[.val (.ref a), .val (.ref b), .val (.int (Int32.ofNat o)), .val (.int (Int32.ofNat len)), .val .null, .val (.ref s.heap.size)] [.int (Int32.ofNat N.slots.size), .ref s.heap.size, .ref a])) := by
    have hc : Steps p.tables e below (s₁.setTop (entryFrame m #[.ref a, .ref b, .int (Int32.ofNat o), .int (Int32.ofNat len), .null] 6)) (T8.setTop (mkF m 45 #[.val (.ref a), .val (.ref b), .val (.int (Int32.ofNat o)), .val (.int (Int32.ofNat len)), .val .null, .val (.ref s.heap.size)] [.int (Int32.ofNat len), .ref s.heap.size, .ref a])) := c9.trans (by
      refine XS.astore X8.here hexec rfl (hb hbytes d39) rfl rfl rfl ?_
      refine XS.aloadN X8.here hexec rfl (hb hbytes d41) rfl rfl ?_
      refine XS.aload X8.here hexec rfl (hb hbytes d42) rfl rfl ?_
      refine XS.iloadN X8.here hexec rfl (hb hbytes d44) rfl ?_
      exact Steps.refl _)
    rw [n4]; exact hc
  obtain ⟨v11, T11, X11, E11, g11⟩ := X8.callS hexec (CodL.law l s.heap.size N) hown (wks W (staticW "java/lang/String" 47 CodL.yN)) (wk W CodL.tab) (W := 1) (Nat.le_of_ble_eq_true rfl) (Nat.le_of_ble_eq_true rfl) (Nat.le_refl _) (by show 0 + len + 0 ≤ len; omega) (g := (mkF m 45 #[.val (.ref a), .val (.ref b), .val (.int (Int32.ofNat o)), .val (.int (Int32.ofNat len)), .val .null, .val (.ref s.heap.size)] [.int (Int32.ofNat N.slots.size), .ref s.heap.size, .ref a])) rfl (by rw [hml]; rfl) c10 (argsL := [.ref s.heap.size, .int (Int32.ofNat N.slots.size)]) (rest := [.ref a]) rfl rfl (by show 2 * 0 + (1 + 0) ≤ _; decide) (hb hbytes d45) (⟨rfl, n1⟩)
  obtain ⟨rfl, q11⟩ := E11
  have hB11 := hB1.mv (X8.warmed.alike.symm.trans X11.warmed.alike) q11
  have c12 : Steps p.tables e below (s₁.setTop (entryFrame m #[.ref a, .ref b, .int (Int32.ofNat o), .int (Int32.ofNat len), .null] 6)) (T11.setTop (mkF m 48 #[.val (.ref a), .val (.ref b), .val (.int (Int32.ofNat o)), .val (.int (Int32.ofNat len)), .val .null, .val (.ref s.heap.size)] [.int 0, .ref a])) := g11
  obtain ⟨T13, X13, p13, bl13, sl13, st13⟩ := X11.finit hexec hown (wk W (.fieldLink "java/lang/String" 15 "java/lang/String" "coder" "B")) (Or.inr ⟨_, (wk W (.laysFinal "java/lang/String" "java/lang/String" "coder" "B"))⟩) (Or.inl ⟨rfl, hnm⟩) f2 (Or.inl rfl) hB11 (t := .byte) (by decide +kernel) rfl (g := (mkF m 48 #[.val (.ref a), .val (.ref b), .val (.int (Int32.ofNat o)), .val (.int (Int32.ofNat len)), .val .null, .val (.ref s.heap.size)] [.int 0, .ref a])) rfl (rest := []) rfl (hb hbytes d48)
  have c14 : Steps p.tables e below (s₁.setTop (entryFrame m #[.ref a, .ref b, .int (Int32.ofNat o), .int (Int32.ofNat len), .null] 6)) (T13.setTop (mkF m 54 #[.val (.ref a), .val (.ref b), .val (.int (Int32.ofNat o)), .val (.int (Int32.ofNat len)), .val .null, .val (.ref s.heap.size)] [.ref s.heap.size, .ref a])) := (c12.trans (st13 _ (Steps.refl _))).trans (by
    refine XS.aloadN X13.here hexec rfl (hb hbytes d51) rfl rfl ?_
    refine XS.aload X13.here hexec rfl (hb hbytes d52) rfl rfl ?_
    exact Steps.refl _)
  obtain ⟨T15, X15, p15, bl15, sl15, st15⟩ := X13.finit hexec hown (wk W (.fieldLink "java/lang/String" 9 "java/lang/String" "value" "[B")) (Or.inr ⟨_, (wk W (.laysFinal "java/lang/String" "java/lang/String" "value" "[B"))⟩) (Or.inl ⟨rfl, hnm⟩) f1 (Or.inl rfl) bl13 (t := (.array .byte)) (by decide +kernel) rfl (g := (mkF m 54 #[.val (.ref a), .val (.ref b), .val (.int (Int32.ofNat o)), .val (.int (Int32.ofNat len)), .val .null, .val (.ref s.heap.size)] [.ref s.heap.size, .ref a])) rfl (rest := []) rfl (hb hbytes d54)
  have c16 : Steps p.tables e below (s₁.setTop (entryFrame m #[.ref a, .ref b, .int (Int32.ofNat o), .int (Int32.ofNat len), .null] 6)) (T15.setTop (mkF m 57 #[.val (.ref a), .val (.ref b), .val (.int (Int32.ofNat o)), .val (.int (Int32.ofNat len)), .val .null, .val (.ref s.heap.size)] [])) := c14.trans (st15 _ (Steps.refl _))
  have ap := apart (Or.inr ⟨_, (wk W (.laysFinal "java/lang/String" "java/lang/String" "value" "[B"))⟩) (Or.inr ⟨_, (wk W (.laysFinal "java/lang/String" "java/lang/String" "coder" "B"))⟩) f1 f2 (t₁ := .array .byte) (t₂ := .byte) (by decide +kernel) (by decide +kernel) (by decide)
  have al := X8.warmed.alike.symm.trans X15.warmed.alike
  have n7 : T11.heap[s.heap.size]? = some N := by rw [q11]; exact n1.1
  exact ⟨T15, none, _, _, _, X15, by simp, rfl, by omega, (fun _ => rfl), ⟨rfl, _, N, bl15, ((Same.refl D _).set _ (by simp)).set _ (by simp), sl15, (Cell.slots_setSlot_ne _ ap).trans sl13, n1.keep al (p15.other hne (p13.other hne n7)), n2, by rw [al.findClass]; exact n3, n4, n5, fun y c h1 h2 => p15.other h1 (p13.other h1 (by rw [q11]; exact n6 y c h2)), by rw [p15.2.2, p13.2.2, q11]; exact z8⟩, fun fs hl => c16.trans (X15.returnOut hexec hret (hb hbytes d57) hl)⟩
end New4
namespace New1
def yN : MethodName := ⟨"java/lang/String", "<init>", "([C)V"⟩
abbrev yB : ByteArray := jdk_42_method_3_code
theorem d0 : decode yB 0 = .ok (.aload_n 0, 1) := by decide +kernel
theorem d1 : decode yB 1 = .ok (.aload_n 1, 1) := by decide +kernel
theorem d2 : decode yB 2 = .ok (.iconst 0, 1) := by decide +kernel
theorem d3 : decode yB 3 = .ok (.aload_n 1, 1) := by decide +kernel
theorem d4 : decode yB 4 = .ok (.arraylength, 1) := by decide +kernel
theorem d5 : decode yB 5 = .ok (.aconst_null, 1) := by decide +kernel
theorem d6 : decode yB 6 = .ok (.invokespecial 27, 3) := by decide +kernel
theorem d9 : decode yB 9 = .ok (.return_, 1) := by decide +kernel
def site : List Cond := [New4.tab] ++ initW "java/lang/String" 27 New4.yN
def tab : Cond := tabOf yN yB 2 none site
def P (a : Addr) (D : Cell) (fV fC : Field) (b : Addr) (A : Cell) (z : Int32) (args : Array Value) (s : State) : Prop := args = #[.ref a, .ref b] ∧ Blank "java/lang/String" a D s ∧ Found "java/lang/String" "value" "[B" fV s ∧ Found "java/lang/String" "coder" "B" fC s ∧ Ch b A s ∧ StaticIs s "java/lang/String" "COMPACT_STRINGS" "Z" (.int z) ∧ ¬ z = 0 ∧ 0 < A.slots.size ∧ A.slots.size ≤ 536870912 ∧ ∀ i, i < A.slots.size → ¬ 255 < cv A i
def E (a : Addr) (D : Cell) (fV fC : Field) (A : Cell) (r : Option Value) (s u : State) : Prop := Got a D fV fC A 0 A.slots.size r s u
/-- new String(chars), not empty, no char above 255: a Latin-1 String of their low bytes -/
theorem law (l : Launch) (a : Addr) (D : Cell) (fV fC : Field) (b : Addr) (A : Cell) (z : Int32) : Law l yN 2 1 3 52 yB 2 none site (P a D fV fC b A z) (E a D fV fC A) [⟨a, fC.slot⟩, ⟨a, fV.slot⟩] 1 A.slots.size := by
  refine Law.of_walk (plainFor_of_name (by decide +kernel)) (by decide +kernel) (by decide +kernel) (by decide) (fun _ _ h => by rw [h.1]; rfl) (fun _ U U' hal hh h => ⟨h.1, h.2.1.mv hal hh, h.2.2.1.al hal, h.2.2.2.1.al hal, h.2.2.2.2.1.mv hal hh, h.2.2.2.2.2.1.there hal hh, h.2.2.2.2.2.2⟩) (fun r U U' V V' h1 hal h2 h => Got.mv r U U' V V' h1 hal h2 h) ?_
  intro p e s m args below meth c s₁ X0 hexec hbytes hml hret hlk hnm hown hh0 W hP
  obtain ⟨rfl, hB, f1, f2, hA, s1, hz, l0, l2, hp⟩ := hP
  have c1 : Steps p.tables e below (s₁.setTop (entryFrame m #[.ref a, .ref b] 2)) (s₁.setTop (mkF m 0 #[.val (.ref a), .val (.ref b)] [])) := entry rfl
  have c2 : Steps p.tables e below (s₁.setTop (entryFrame m #[.ref a, .ref b] 2)) (s₁.setTop (mkF m 6 #[.val (.ref a), .val (.ref b)] [.null, .int (Int32.ofNat A.slots.size), .int 0, .ref b, .ref a])) := c1.trans (by
    refine XS.aloadN X0.here hexec rfl (hb hbytes d0) rfl rfl ?_
    refine XS.aloadN X0.here hexec rfl (hb hbytes d1) rfl rfl ?_
    refine iconstV X0.here hexec rfl 0 (hb hbytes d2) (by decide) ?_
    refine XS.aloadN X0.here hexec rfl (hb hbytes d3) rfl rfl ?_
    refine X0.alen hexec (hA.1.mv X0.warmed.alike hh0) rfl rfl (hb hbytes d4) ?_
    refine XS.aconstNull X0.here hexec rfl (hb hbytes d5) ?_
    exact Steps.refl _)
  obtain ⟨v3, T3, X3, E3, g3⟩ := X0.callN hexec (New4.law l a D fV fC b A z 0 A.slots.size) rfl hown (wks W (initW "java/lang/String" 27 New4.yN)) (W New4.tab (by simp only [site, List.mem_cons, List.mem_append, true_or, or_true])) (W := 0) (Nat.le_of_ble_eq_true rfl) (Nat.le_of_ble_eq_true rfl) (Nat.le_refl _) (by show 0 + A.slots.size ≤ A.slots.size; omega) (g := (mkF m 6 #[.val (.ref a), .val (.ref b)] [.null, .int (Int32.ofNat A.slots.size), .int (Int32.ofNat 0), .ref b, .ref a])) rfl (by rw [hml]; rfl) c2 (argsL := [.ref b, .int (Int32.ofNat 0), .int (Int32.ofNat A.slots.size), .null]) (rest := []) rfl rfl (by show 2 * 0 + 0 ≤ _; decide) (hb hbytes d6) (⟨rfl, hB.mv X0.warmed.alike hh0, f1.al X0.warmed.alike, f2.al X0.warmed.alike, hA.mv X0.warmed.alike hh0, s1.there X0.warmed.alike hh0, hz, l0, by omega, l2, fun i hi => by rw [Nat.zero_add]; exact hp i hi⟩)
  have e0 := Got.mv _ s₁ s _ _ hh0.symm (Vm.Alike.refl _) rfl E3
  obtain rfl := e0.1
  have c4 : Steps p.tables e below (s₁.setTop (entryFrame m #[.ref a, .ref b] 2)) (T3.setTop (mkF m 9 #[.val (.ref a), .val (.ref b)] [])) := g3
  exact ⟨T3, none, _, _, _, X3, by simp, rfl, by omega, (fun _ => rfl), e0, fun fs hl => c4.trans (X3.returnOut hexec hret (hb hbytes d9) hl)⟩
theorem pays {l : Launch} {R : Room} {p : Program} {e : Env} {below : List Frame} {s : State} {sargs : Array Value} {len W : Nat} (a : Addr) (D : Cell) (fV fC : Field) (b : Addr) (A : Cell) (z : Int32) (htab : tab.before sargs s = true) (hfr : 4 ≤ R.frames) (hlo : W + 65 ≤ R.locals) :
    Back l R p e below s sargs yN len W (fun A₁ a₁ => A₁.cells + 1 ≤ R.cells ∧ A₁.slots + A.slots.size ≤ R.slots ∧ P a D fV fC b A z a₁ A₁.U) (fun A₁ _ v₁ B₁ => E a D fV fC A v₁ A₁.U B₁.U ∧ B₁.locs = A₁.locs ++ [⟨a, fC.slot⟩, ⟨a, fV.slot⟩] ∧ B₁.cells = A₁.cells + 1 ∧ B₁.slots = A₁.slots + A.slots.size) :=
  (law l a D fV fC b A z).pays htab hfr (by omega)
end New1
end StrChars
namespace StrChars.Road
open Jvm Sem ClassFile Op Lib Jvm.Stand Jvm.Free Jvm.Free.XT
open Jvm.Lib.Cold (StaticIs)
abbrev ST : String := "java/lang/String"
/-- every table word that New1's law asks, flat -/
abbrev words : List Jvm.Cond := [.code New1.yN New1.yB 2 none, .initialized ST, .methodLink ST 27 New4.yN, .instanceMethod New4.yN,
  .code New4.yN New4.yB 6 none, .fieldLink ST 38 ST "COMPACT_STRINGS" "Z", .laysFinal ST ST "value" "[B", .fieldLink ST 9 ST "value" "[B", .laysFinal ST ST "coder" "B", .fieldLink ST 15 ST "coder" "B",
  .methodLink ST 1 Lib.objectInit, .instanceMethod Lib.objectInit, .code Lib.objectInit ⟨#[0xb1]⟩ 1 none, .methodLink ST 177 Cmp3.yN, .static Cmp3.yN, .methodLink ST 47 CodL.yN, .static CodL.yN,
  .code Cmp3.yN Cmp3.yB 6 (some (.array .byte)), .initialized U16, .arrayClass .byte, .methodLink U16 115 Cmp5.yN, .static Cmp5.yN, .code Cmp5.yN Cmp5.yB 7 (some .int), .code CodL.yN CodL.yB 2 (some .byte)]
theorem tab_of {a : Array Value} {s : State} (h : ∀ w ∈ words, w.before a s = true) : New1.tab.before a s = true := by
  have h5 : Cmp5.tab.before a s = true := unparts (wk h (.code Cmp5.yN Cmp5.yB 7 (some .int))) (wks h (.initialized Cmp5.yN.cls :: Cmp5.site))
  have hc : CodL.tab.before a s = true := unparts (wk h (.code CodL.yN CodL.yB 2 (some .byte))) (wks h (.initialized CodL.yN.cls :: CodL.site))
  have q5 : ∀ w ∈ Cmp5.tab :: words, w.before a s = true := fun w hw => (List.mem_cons.mp hw).elim (fun e => e ▸ h5) (h w)
  have h3 : Cmp3.tab.before a s = true := unparts (wk q5 (.code Cmp3.yN Cmp3.yB 6 (some (.array .byte)))) (wks q5 (.initialized Cmp3.yN.cls :: Cmp3.site))
  have q3 : ∀ w ∈ Cmp3.tab :: CodL.tab :: words, w.before a s = true := fun w hw => (List.mem_cons.mp hw).elim (fun e => e ▸ h3) fun hw => (List.mem_cons.mp hw).elim (fun e => e ▸ hc) (h w)
  have h4 : New4.tab.before a s = true := unparts (wk q3 (.code New4.yN New4.yB 6 none)) (wks q3 (.initialized New4.yN.cls :: New4.site))
  have q4 : ∀ w ∈ New4.tab :: words, w.before a s = true := fun w hw => (List.mem_cons.mp hw).elim (fun e => e ▸ h4) (h w)
  exact unparts (wk q4 (.code New1.yN New1.yB 2 none)) (wks q4 (.initialized New1.yN.cls :: New1.site))
/-- the words ride from the start Z to the walk's own state -/
theorem moved {Z s : State} {a0 args : Array Value} (hZ : Z.Warmed39 s.vm) (hw : ∀ d ∈ words, d.before a0 Z = true) : ∀ d ∈ words, d.before args s = true := fun d hd => by
  have q := hw d hd
  have t : ∀ d ∈ words, d = .arrayClass .byte ∨ (d.onTables && d.keepsFace) = true := by decide +kernel
  rcases t d hd with rfl | t
  · exact RoadKit.mvA hZ q
  · exact RoadKit.mv hZ q t
/-- WHAT COMES BACK, over the tables of the start Z: h the heap at the call, h' behind it -/
def Q (Z : State) (x : Addr) (A : Cell) (h : Heap) (v : Option Value) (h' : Heap) (L : List Loc) : Prop := v = none ∧ (∀ y ∈ L, y.base = x) ∧ RoadKit.Keep h h' [x] ∧ h'.size = h.size + 1 ∧ RoadKit.Exa Z h' x ST ∧ RoadKit.Fld Z h' x ST "value" "[B" (.ref h.size) ∧ RoadKit.Fld Z h' x ST "coder" "B" (.int 0) ∧
  (∃ V : Cell, RoadKit.Arr Z h' h.size V .byte ∧ V.vm = .none ∧ Z.vm.findClass "[B" = some V.cls ∧ V.slots.size = A.slots.size ∧ ∀ j, j < A.slots.size → V.slots[j]? = some (.int (lo8 (cv A j)))) ∧
  ∀ (O n d : String) (w : Value), RoadKit.Fld Z h x O n d w → RoadKit.slotOf Z O n d ≠ RoadKit.slotOf Z ST "value" "[B" → RoadKit.slotOf Z O n d ≠ RoadKit.slotOf Z ST "coder" "B" → RoadKit.Fld Z h' x O n d w
/-- **new String(chars) AT A CALL, IN THE ROAD'S FORM**: for specialBack behind newO: x the fresh String, b the char[] with the cell A -/
theorem back {p : Program} {l : Launch} {e : Env} {R : Room} {s : State} {args : Array Value} {below : List Frame} {len W : Nat} {Z : State} {a0 : Array Value} {h : Heap} (hZ : Z.Warmed39 s.vm) (hw : ∀ d ∈ words, d.before a0 Z = true) {kI : Nat} (wi : (Jvm.Cond.instantiable ST kI).before a0 Z = true)
    {x b : Addr} {A : Cell} {z : Int32} {v0 c0 : Value} (E : RoadKit.Exa Z h x ST) (V : RoadKit.Fld Z h x ST "value" "[B" v0) (C : RoadKit.Fld Z h x ST "coder" "B" c0) (K : RoadKit.Arr Z h b A .char) (hty : Typed .char A) (S : RoadKit.Sta Z h ST "COMPACT_STRINGS" "Z" (.int z)) (hz : ¬ z = 0)
    (l0 : 0 < A.slots.size) (l2 : A.slots.size ≤ 536870912) (hp : ∀ i, i < A.slots.size → ¬ 255 < cv A i) (hfr : 4 ≤ R.frames) (hlo : W + 65 ≤ R.locals) :
    Back l R p e below s args New1.yN len W (fun P a => a = #[.ref x, .ref b] ∧ P.U.heap = h ∧ P.cells + 1 ≤ R.cells ∧ P.slots + A.slots.size ≤ R.slots)
      (fun P _ v B => ∃ L, Q Z x A h v B.U.heap L ∧ B.locs = P.locs ++ L ∧ B.cells = P.cells + 1 ∧ B.slots = P.slots + A.slots.size) := by
  intro m meth c P g ig mk a X hg hsize hdg hW hn hp'
  obtain ⟨rfl, rfl, r1, r2⟩ := hp'
  have al : Z.vm.Alike P.U.vm := hZ.alike.trans X.warmed.alike
  obtain ⟨D, cfV, kV, iV, fV, hD, gV, stV, knV, obV, asV, slV⟩ := id V
  obtain ⟨D', cfC, kC, iC, fC, hD', gC, stC, -, -, asC, slC⟩ := id C
  cases hD.symm.trans hD'
  obtain ⟨D2, kD, e1, e2, e3, e4, e5⟩ := id E
  cases hD.symm.trans e1
  obtain ⟨c2, k2, i1, i2, i3, -⟩ := Cond.instantiable_spec wi
  cases e2.symm.trans i1
  cases e3.symm.trans i2
  obtain ⟨kU, u1, u2⟩ := al.2.2 _ _ e3
  have hB : Blank ST x D P.U := ⟨hD, ⟨knV, fun q hq => by rw [hq] at obV; cases obV⟩, by rw [al.findClass]; exact e2, kU, u1, by rw [u2]; exact i3, by rw [u2]; exact e5 i3⟩
  have F1 : Found ST "value" "[B" fV P.U := ⟨SBG.found_only al ⟨cfV, kV, iV, gV⟩, stV⟩
  have F2 : Found ST "coder" "B" fC P.U := ⟨SBG.found_only al ⟨cfC, kC, iC, gC⟩, stC⟩
  have hA : Ch b A P.U := ⟨⟨K.1, State.isArrayOf_alike al K.2.1, K.2.2, by omega⟩, hty⟩
  have hS : StaticIs P.U ST "COMPACT_STRINGS" "Z" (.int z) := by
    obtain ⟨cfS, iS, kS, fS, st, cS, t1, t2, t3, t4, t5, t6, t7⟩ := S
    exact StaticIs.there (s := { Z with heap := P.U.heap }) ⟨cfS, iS, kS, fS, st, cS, t1, t2, t3, t4, t5, (fun q => by rw [q] at t6; cases t6), t7⟩ al rfl
  obtain ⟨v, B, X', ⟨⟨hv, E', V', q1, q2, q3, q4, q5, q6, q7, q8, q9, q10, q11⟩, hl, hc, hs⟩, st⟩ := New1.pays x D fV fC b A z (tab_of (moved hZ hw)) hfr hlo m meth c P g ig mk _ X hg hsize hdg hW hn ⟨r1, r2, rfl, hB, F1, F2, hA, hS, hz, l0, l2, hp⟩
  have al' : Z.vm.Alike B.U.vm := hZ.alike.trans X'.warmed.alike
  have hsz : E'.slots.size = D.slots.size := by
    obtain ⟨-, -, -, kB, w1, w2, w3⟩ := q1
    obtain ⟨kB', y1, y2⟩ := al'.2.2 _ _ e3
    rw [q2.2.1] at w1
    cases w1.symm.trans y1
    rw [w3, e5 i3, y2]
  refine ⟨v, B, X', ⟨_, ⟨hv, ?_, ⟨by omega, fun y cy hy hn' => q10 y cy (by simpa using hn') hy, fun y cy hy => ?_⟩, q11, ⟨E', _, q1.1, by rw [q2.2.1]; exact e2, by rw [q2.2.1]; exact e3, by rw [q2.1]; exact obV, fun _ => by rw [hsz]; exact e5 i3⟩,
    ⟨E', cfV, kV, iV, fV, q1.1, gV, stV, by rw [q2.1]; exact knV, by rw [q2.1]; exact obV, by rw [q2.2.1]; exact asV, q3⟩, ⟨E', cfC, kC, iC, fC, q1.1, gC, stC, by rw [q2.1]; exact knV, by rw [q2.1]; exact obV, by rw [q2.2.1]; exact asC, q4⟩,
    ⟨V', ⟨q5.1, State.isArrayOf_alike al'.symm q5.2.1, q5.2.2.1⟩, q6, by rw [← al'.findClass]; exact q7, q8, fun j hj => by have := q9 j hj; rwa [Nat.zero_add] at this⟩, fun O n d w F n1 n2 => ?_⟩, hl, hc, hs⟩, st⟩
  · intro y hy
    simp only [List.mem_cons, List.not_mem_nil, or_false] at hy
    rcases hy with rfl | rfl <;> rfl
  · by_cases q : y = x
    · subst q
      cases hD.symm.trans hy
      exact ⟨E', q1.1, q2.2.1, q2.1, hsz⟩
    · exact ⟨cy, q10 y cy q hy, rfl, rfl, rfl⟩
  · obtain ⟨D3, cf, k, i, f, g1, g2, g3, g4, g5, g6, g7⟩ := F
    cases hD.symm.trans g1
    simp only [RoadKit.slotOf, g2, gV, gC, Option.map_some, Option.getD_some] at n1 n2
    exact ⟨E', cf, k, i, f, q1.1, g2, g3, by rw [q2.1]; exact g4, by rw [q2.1]; exact g5, by rw [q2.2.1]; exact g6, by rw [q2.2.2 f.slot (by simp [n1, n2])]; exact g7⟩
end StrChars.Road
namespace StrChars.Road
open Jvm Sem ClassFile Op Lib Jvm.Stand Jvm.Free Jvm.Free.XT
/-- WHAT COMES BACK, the byte[] as a list of values -/
def QA (Z : State) (x : Addr) (zn : Int32) (cs : List Int32) (h : Heap) (v : Option Value) (h' : Heap) (L : List Loc) : Prop := v = none ∧ (∀ y ∈ L, y.base = x) ∧ RoadKit.Keep h h' [x] ∧ h'.size = h.size + 1 ∧ RoadKit.Exa Z h' x ST ∧ RoadKit.Fld Z h' x ST "value" "[B" (.ref h.size) ∧ RoadKit.Fld Z h' x ST "coder" "B" (.int 0) ∧
  (∃ kb, Z.vm.findClass "[B" = some kb ∧ RoadKit.Arv Z h' h.size kb .byte zn (cs.map fun c => .int (lo8 c)) (.int 0)) ∧
  ∀ (O n d : String) (w : Value), RoadKit.Fld Z h x O n d w → RoadKit.slotOf Z O n d ≠ RoadKit.slotOf Z ST "value" "[B" → RoadKit.slotOf Z O n d ≠ RoadKit.slotOf Z ST "coder" "B" → RoadKit.Fld Z h' x O n d w
/-- **new String(chars) AT A CALL, THE ARRAYS AS LISTS**: the char[] at b holds cs, not empty, no char above 255 -/
theorem backArv {p : Program} {l : Launch} {e : Env} {R : Room} {s : State} {args : Array Value} {below : List Frame} {len W : Nat} {Z : State} {a0 : Array Value} {h : Heap} (hZ : Z.Warmed39 s.vm) (hw : ∀ d ∈ words, d.before a0 Z = true) {kI : Nat} (wi : (Jvm.Cond.instantiable ST kI).before a0 Z = true)
    {x b : Addr} {k : ClassId} {zn z : Int32} {cs : List Int32} {dv v0 c0 : Value} (E : RoadKit.Exa Z h x ST) (V : RoadKit.Fld Z h x ST "value" "[B" v0) (C : RoadKit.Fld Z h x ST "coder" "B" c0) (K : RoadKit.Arv Z h b k .char zn (cs.map Value.int) dv) (S : RoadKit.Sta Z h ST "COMPACT_STRINGS" "Z" (.int z)) (hz : ¬ z = 0)
    (hlen : zn.toNatClampNeg = cs.length) (h0 : 0 < cs.length) (hbig : cs.length ≤ 536870912) (hall : ∀ c ∈ cs, ¬ 255 < c) (hfr : 4 ≤ R.frames) (hlo : W + 65 ≤ R.locals) :
    Back l R p e below s args New1.yN len W (fun P a => a = #[.ref x, .ref b] ∧ P.U.heap = h ∧ P.cells + 1 ≤ R.cells ∧ P.slots + cs.length ≤ R.slots)
      (fun P _ v B => ∃ L, QA Z x zn cs h v B.U.heap L ∧ B.locs = P.locs ++ L ∧ B.cells = P.cells + 1 ∧ B.slots = P.slots + cs.length) := by
  obtain ⟨A, K1, K2, K3, K4, K5, K6⟩ := K
  have e : A.slots.size = cs.length := K3.trans hlen
  have hat : ∀ (i : Nat) (hi : i < cs.length), A.slots[i]? = some (.int cs[i]) := fun i hi => by rw [K5 i (by omega)]; simp [List.getD_eq_getElem?_getD, hi]
  have hcv : ∀ (i : Nat) (hi : i < cs.length), cv A i = cs[i] := fun i hi => by unfold cv; rw [hat i hi]
  have hty : Typed .char A := fun i v hv => by
    have hi : i < A.slots.size := (Array.getElem?_eq_some_iff.mp hv).1
    have q := K5 i hi
    rw [hv] at q
    rw [Option.some.inj q]
    exact K6 i hi
  refine Back.mono (back hZ hw wi E V C K1 hty S hz (by omega) (by omega) (fun i hi => by rw [hcv i (by omega)]; exact hall _ (List.getElem_mem _)) hfr hlo) (fun P a hp => ⟨hp.1, hp.2.1, hp.2.2.1, by rw [e]; exact hp.2.2.2⟩) (fun P a v B hp hq => ?_)
  obtain ⟨L, ⟨q1, q2, q3, q4, q5, q6, q7, ⟨V', v1, v2, v3, v4, v5⟩, q9⟩, hl, hc, hs⟩ := hq
  refine ⟨L, ⟨q1, q2, q3, q4, q5, q6, q7, ⟨V'.cls, v3, V', v1, rfl, by rw [v4, e, hlen], K4, fun i hi => ?_, fun i hi => ?_⟩, q9⟩, hl, hc, by rw [hs, e]⟩
  · have hi' : i < cs.length := by omega
    rw [v5 i (by omega), hcv i hi']; simp [List.getD_eq_getElem?_getD, hi']
  · have hi' : i < cs.length := by omega
    simp only [List.getD_eq_getElem?_getD, List.getElem?_map, List.getElem?_eq_getElem hi', Option.map_some, Option.getD_some]
    exact fits_lo8 _
end StrChars.Road
namespace StrChars.Road
open Jvm Sem ClassFile Op Lib Jvm.Stand Jvm.Free Jvm.Free.XT
/-- WHAT COMES BACK, in the writer's own shape -/
def QV (Z : State) (x : Addr) (N : Int32) (bs : List Int32) (h : Heap) (n0 : Nat) (v : Option Value) (h' : Heap) (L : List Loc) : Prop := v = none ∧ RoadKit.Fr n0 L ∧ RoadKit.Keep h h' [x] ∧ RoadKit.Exa Z h' x ST ∧ RoadKit.Fld Z h' x ST "coder" "B" (.int 0) ∧
  ∃ (t : Addr) (kb : ClassId), n0 ≤ t ∧ h.size ≤ t ∧ ¬ t = x ∧ RoadKit.Fld Z h' x ST "value" "[B" (.ref t) ∧ RoadKit.Arv Z h' t kb .byte N (bs.map Value.int) (.int 0)
/-- **new String(chars) AT A CALL, FOR THE WRITER**: a char[] of n known ints, each 0 to 255 -/
theorem backV {p : Program} {l : Launch} {e : Env} {R : Room} {s : State} {args : Array Value} {below : List Frame} {len W : Nat} {Z : State} {a0 : Array Value} {h : Heap} (hZ : Z.Warmed39 s.vm) (hw : ∀ d ∈ words, d.before a0 Z = true) {kI : Nat} (wi : (Jvm.Cond.instantiable ST kI).before a0 Z = true)
    {x b : Addr} {kC : ClassId} {cs bs : List Int32} {d v0 c0 : Value} {z N : Int32} {n n0 : Nat} (hx0 : n0 ≤ x) (hh0 : n0 ≤ h.size) (E : RoadKit.Exa Z h x ST) (V : RoadKit.Fld Z h x ST "value" "[B" v0) (C : RoadKit.Fld Z h x ST "coder" "B" c0) (K : RoadKit.Arv Z h b kC .char N (cs.map Value.int) d) (S : RoadKit.Sta Z h ST "COMPACT_STRINGS" "Z" (.int z)) (hz : ¬ z = 0)
    (hn : cs.length = n) (hN : N = Int32.ofNat n) (l0 : 0 < n) (l2 : n ≤ 4000) (hp : ∀ c ∈ cs, ¬ c < 0 ∧ ¬ (255 : Int32) < c) (hb : bs = cs.map (fun c => c.toInt8.toInt32)) (hfr : 4 ≤ R.frames) (hlo : W + 65 ≤ R.locals) :
    Back l R p e below s args (⟨"java/lang/String", "<init>", "([C)V"⟩ : MethodName) len W (fun P a => a = #[.ref x, .ref b] ∧ P.U.heap = h ∧ P.cells + 1 ≤ R.cells ∧ P.slots + n ≤ R.slots)
      (fun P _ v B => ∃ L, QV Z x N bs h n0 v B.U.heap L ∧ B.locs = P.locs ++ L ∧ B.cells = P.cells + 1 ∧ B.slots = P.slots + n) := by
  subst hn hN hb
  refine Back.mono (backArv hZ hw wi E V C K S hz (n32 (by omega)) l0 (by omega) (fun c hc => (hp c hc).2) hfr hlo) (fun P a hp => hp) (fun P a v B hp hq => ?_)
  obtain ⟨L, ⟨q1, q2, q3, q4, q5, q6, q7, ⟨kb, v1, v2⟩, q9⟩, hl, hc, hs⟩ := hq
  exact ⟨L, ⟨q1, fun y hy => by rw [q2 y hy]; exact hx0, q3, q5, q7, h.size, kb, hh0, Nat.le_refl _, Nat.ne_of_gt E.lt, q6, by rw [List.map_map]; exact v2⟩, hl, hc, hs⟩
end StrChars.Road
end Jvm.Pilot.@@N@@
namespace Jvm.Pilot.@@N@@
open Jvm Jvm.ClassFile Sem Op Lib Jvm.Free Jvm.Stand Jvm.LawKit Jvm.RoadKit Bundle Jvm.Pilot.@@N@@.Jvm.D
theorem own_nb {x : Int32} (h : x = 0 ∨ x = 1) : narrow .boolean (.int x) = .int x ∧ fits .boolean (.int x) = true := by rcases h with rfl | rfl <;> exact ⟨rfl, rfl⟩
theorem own_nar {x : Int32} (h : x = 0 ∨ x = 1) : nar .boolean x = x := by rcases h with rfl | rfl <;> decide
theorem own_mono {l : Launch} {x : MethodName} {S : Spec} {P : Array Value → State → Prop} {K : Program → Env → List Frame → State → Array Value → Prop} {Q Q' : Array Value → State → Outcome → State → Prop} (h : MetFree l x S P K Q) (hQ : ∀ a U o U', Q a U o U' → Q' a U o U') : MetFree l x S P K Q' :=
  h.mono (fun _ _ q => q) (fun _ _ _ _ _ q => q) (fun _ _ _ _ _ q => hQ _ _ _ _ q)
theorem own_c255 (x : Int32) : ¬ nar .char ((x &&& (255 : Int32)).toUInt32.toUInt16.toUInt32.toInt32) < 0 ∧ ¬ (255 : Int32) < nar .char ((x &&& (255 : Int32)).toUInt32.toUInt16.toUInt32.toInt32) := by
  have h1 : (x &&& (255 : Int32)).toInt = x.toInt % (2 ^ 8 : Nat) := c_mask x 255 8 (by decide) (by decide)
  have h2 := c_i2c (x &&& (255 : Int32))
  have h3 := c_i2c ((x &&& (255 : Int32)).toUInt32.toUInt16.toUInt32.toInt32)
  have k0 : (0 : Int32).toInt = 0 := by decide
  have k1 : (255 : Int32).toInt = 255 := by decide
  show ¬ ((x &&& (255 : Int32)).toUInt32.toUInt16.toUInt32.toInt32).toUInt32.toUInt16.toUInt32.toInt32 < 0 ∧ ¬ (255 : Int32) < ((x &&& (255 : Int32)).toUInt32.toUInt16.toUInt32.toInt32).toUInt32.toUInt16.toUInt32.toInt32
  rw [Int32.lt_iff_toInt_lt, Int32.lt_iff_toInt_lt]
  omega
def own_words : List Jvm.Cond := (Jvm.Free.Exc.excAtoms "nephrite/EvaluationException").eraseIdx 18
theorem own_words_in : ∀ d ∈ own_words, d ∈ tables_1 := by decide +kernel
theorem own_words_ok : own_words.all xOk = true := by decide +kernel
theorem own_words_at {Z s : State} {a0 args : Array Value} (hw : ∀ d ∈ tables_1, d.before a0 Z = true) (hT : ThS Z s.heap) (hZ : Z.Warmed39 s.vm) : ∀ d ∈ own_words, d.before args s = true :=
  fun d hd => mvX hT hZ (List.all_eq_true.mp own_words_ok d hd) (hw d (own_words_in d hd))
/-- what the machine's fillInStackTrace asks of Throwable's tables, from the words at hand: the layout of suppressedExceptions is read off the exception's own class alone -/
theorem own_thr {args : Array Value} {s : State} {pl : Platform} (ho : pl.frameOwnsMonitors = true) (hf : pl.finalization = false) (hp : pl.magicAccessors = ({} : Platform).magicAccessors) (w : ∀ d ∈ own_words, d.holds args s none s [] = true) :
    ∃ T : ThrowableC, T.Links pl s ∧ s.vm.findClass tN = some T.cT ∧ s.methodNamed? tFill = some T.fill ∧ s.methodNamed? tFill0 = some T.fill0 ∧ s.fieldFound? tN "stackTrace" steD = some (T.cT, T.kT, T.i17, T.fStack) ∧ s.fieldFound? tN "UNASSIGNED_STACK" steD = some (T.cT, T.kT, T.i13, T.fUnassigned) := by
  obtain ⟨⟨cT, j0⟩, me0, na0, ma0, nat0, co0, lo0, si0⟩ := Cond.native_spec (w (.native tFill0) (by decide +kernel))
  have fc : s.vm.findClass tN = some cT := findClass_of_methodNamed na0
  obtain ⟨kT, kc, kn⟩ := Vm.findClass_spec fc
  obtain ⟨_, k', _, _, kc', _, _, -, _, nif⟩ := Cond.superclass_spec fc (w (.superclass tN "java/lang/Object") (by decide +kernel))
  obtain rfl : kT = k' := Option.some.inj (kc.symm.trans kc')
  obtain ⟨jF, meF, naF, maF, atF, stF, abF, -, -⟩ := Cond.ownMethod (x := tFill) fc kc (w (.instanceMethod tFill) (by decide +kernel))
  obtain ⟨meF', coF, maF', cF, byF, mlF, reF, lkF, -, siF⟩ := Cond.codeSync_spec naF (w (.codeSync tFill LibCode.Throwable.Fill.code 1 (some (.object tN))) (by decide +kernel))
  obtain rfl : meF = meF' := Option.some.inj (maF.symm.trans maF')
  obtain ⟨j0', me0', na0', ma0', at0, st0, ab0, nm0, ds0⟩ := Cond.ownMethod (x := tFill0) fc kc (w (.instanceMethod tFill0) (by decide +kernel))
  obtain rfl : j0 = j0' := by simpa using Option.some.inj (na0.symm.trans na0')
  obtain rfl : me0 = me0' := Option.some.inj (ma0.symm.trans ma0')
  obtain ⟨mO, meO, naO, maO, stO, abO⟩ := Cond.instanceMethod_spec (w (.instanceMethod oInit) (by decide +kernel))
  obtain ⟨meO', coO, maO', cO, byO, -, -, lkO, -, siO⟩ := Cond.code_spec naO (w (.code oInit ⟨#[0xb1]⟩ 1 none) (by decide +kernel))
  obtain rfl : meO = meO' := Option.some.inj (maO.symm.trans maO')
  obtain ⟨kO, kcO, knO⟩ := Vm.findClass_spec (findClass_of_methodNamed naO)
  obtain ⟨nmO, dsO⟩ := name_of_methodNamed naO maO
  obtain ⟨p1, q1, cf, l1, r1, fi, po1⟩ := Cond.linkedMethod fc kc naO (w (.methodLink tN 1 oInit) (by decide +kernel)) pl hp
  obtain ⟨p27, q27, cf1, l27, r27, fi1, po27⟩ := Cond.linkedMethod fc kc naF (w (.methodLink tN 27 tFill) (by decide +kernel)) pl hp
  obtain ⟨p202, q202, cf2, l202, r202, fi2, po202⟩ := Cond.linkedMethod fc kc na0 (w (.methodLink tN 202 tFill0) (by decide +kernel)) pl hp
  obtain rfl : cf = cf1 := Option.some.inj (fi.symm.trans fi1)
  obtain rfl : cf = cf2 := Option.some.inj (fi.symm.trans fi2)
  have wP : (Cond.lays "nephrite/EvaluationException" tN "suppressedExceptions" listD).holds args s none s [] = true := w _ (by decide +kernel)
  have wS : (Cond.lays "nephrite/EvaluationException" tN "stackTrace" steD).holds args s none s [] = true := w _ (by decide +kernel)
  have wM : (Cond.lays "nephrite/EvaluationException" tN "detailMessage" "Ljava/lang/String;").holds args s none s [] = true := w _ (by decide +kernel)
  obtain ⟨x7, i7, fC, k7, g7, a7, s7, n7, -, -, -⟩ := Cond.ownField (t := .object tN) fc kc (by decide +kernel) (w (.fieldLink tN 7 tN "cause" "Ljava/lang/Throwable;") (by decide +kernel)) (w (.lays "nephrite/EvaluationException" tN "cause" "Ljava/lang/Throwable;") (by decide +kernel)) pl hp
  obtain ⟨x17, i17, fS, k17, g17, a17, s17, n17, e17, -, z17⟩ := Cond.ownField (t := .array (.object "java/lang/StackTraceElement")) fc kc (by decide +kernel) (w (.fieldLink tN 17 tN "stackTrace" steD) (by decide +kernel)) wS pl hp
  obtain ⟨x24, i24, fP, k24, g24, a24, s24, n24, e24, -, z24⟩ := Cond.ownField (t := .object "java/util/List") fc kc (by decide +kernel) (w (.fieldLink tN 24 tN "suppressedExceptions" listD) (by decide +kernel)) wP pl hp
  obtain ⟨x13, i13, fU, aS, cS, k13, g13, a13, s13, -, -, sta, -, -, -, -, z13⟩ := Cond.ownStatic (t := .array (.object "java/lang/StackTraceElement")) fc kc (by decide +kernel) (w (.fieldLink tN 13 tN "UNASSIGNED_STACK" steD) (by decide +kernel)) (w (.laysStatic tN "UNASSIGNED_STACK" steD) (by decide +kernel)) pl hp
  obtain ⟨x20, i20, fN, _, _, k20, g20, a20, s20, -⟩ := Cond.ownStatic (t := .object "java/util/List") fc kc (by decide +kernel) (w (.fieldLink tN 20 tN "SUPPRESSED_SENTINEL" listD) (by decide +kernel)) (w (.laysStatic tN "SUPPRESSED_SENTINEL" listD) (by decide +kernel)) pl hp
  obtain ⟨cE, kE, _, _, _, fM, fcE, kcE, -, sM, nM, -⟩ := Cond.lays_spec wM
  obtain ⟨-, dS, dS1, dS2⟩ := Cond.laysAt fcE kcE z17 wS
  obtain ⟨-, dP, dP1, dP2⟩ := Cond.laysAt fcE kcE z24 wP
  have parF : meF.sig.parameters = [] := by
    have q : (parseMethodDescriptor tFill.desc).map (·.parameters) = some [] := by decide +kernel
    rw [siF] at q; exact Option.some.inj q
  have par0 : me0.sig.parameters = [.int] := by
    have q : (parseMethodDescriptor tFill0.desc).map (·.parameters) = some [.int] := by decide +kernel
    rw [si0] at q; exact Option.some.inj q
  have parO : meO.sig.parameters.length = 0 := by
    have q : (parseMethodDescriptor oInit.desc).map (·.parameters) = some [] := by decide +kernel
    rw [siO] at q
    rw [show meO.sig.parameters = [] from Option.some.inj q]; rfl
  let T : ThrowableC :=
    { cT := cT, kT := kT, cO := cT, aS := aS, fillIdx := jF, fill0Idx := j0, initSIdx := jF, obj := mO, kObj := kO, methFill := meF, methFill0 := me0, methInitS := meF, methObj := meO, codeFill := coF, codeInitS := coF, codeObj := coO,
      fBack := fC, fDepth := fC, fStack := fS, fCause := fC, fSupp := fP, fMsg := fM, fUnassigned := fU, fSentinel := fN, cfT := cf, ci1 := p1, n1 := q1, ci27 := p27, n27 := q27, ci202 := p202, n202 := q202,
      ci7 := x7, i7 := i7, ci13 := x13, i13 := i13, ci17 := x17, i17 := i17, ci20 := x20, i20 := i20, ci24 := x24, i24 := i24 }
  refine ⟨T, ?_, fc, naF, na0, z17, z13⟩
  constructor
  case owns => exact ho
  case noFinalization => exact hf
  case cls => exact kc
  case name => exact kn
  case boot => exact Vm.findClass_boot fc kc
  case initialized => exact Cond.initialized_spec fc kc (w (.initialized tN) (by decide +kernel))
  case objFound => show lookupSpecial s.vm mO.cls "<init>" meO.desc = _; rw [dsO]; exact lookupSpecial_of_named naO maO stO
  case stackApartSupp => exact Cond.laysApart dS1 dP1 dS2 dP2 (by rw [e17, e24]; decide)
  all_goals assumption
/-- as the kit's way from a callee's contract to a call, for a contract that asks that the frames below are known -/
theorem own_backK {p : Program} {l : Launch} {e : Env} {R : Room} {s : State} {args a0 : Array Value} {below : List Frame} {Z : State} {h : Heap} {y : MethodName} {bytes : ByteArray} {maxL : Nat} {ret : Option FieldType} {rm : Room} {len W : Nat} {as' : Array Value} {Q : Option Value → Heap → List Loc → Prop}
    (hM : MetFree l y (head1 [Cond.code y bytes maxL ret] rm) (fun a U => a = as' ∧ Z.Warmed39 U.vm ∧ U.heap = h) (fun _ _ B U _ => U.vm.MethodsKnown ∧ U.vm.FramesKnown B) (fun _ U o U' => ∃ v L, o = .returned v ∧ Q v U'.heap L ∧ FrameEnd U o U' L rm.cells rm.slots))
    (hZ : Z.Warmed39 s.vm) (wc : (Cond.code y bytes maxL ret).before a0 Z = true) (wz : (Cond.initialized y.cls).before a0 Z = true) (hTK : s.vm.MethodsKnown) (hBK : s.vm.FramesKnown below) (hf : rm.frames + 1 ≤ R.frames) (hl : W + (maxL + 11) + rm.locals ≤ R.locals) :
    Back l R p e below s args y len W (fun A a => a = as' ∧ A.U.heap = h ∧ A.cells + rm.cells ≤ R.cells ∧ A.slots + rm.slots ≤ R.slots)
      (fun A _ v B => ∃ L, Q v B.U.heap L ∧ B.locs = A.locs ++ L ∧ B.cells = A.cells + rm.cells ∧ B.slots = A.slots + rm.slots) := by
  refine Back.of_freeG (bytes := bytes) (maxL := maxL) (ret := ret) (E := fun _ _ o t L k n => (k = rm.cells ∧ n = rm.slots) ∧ ∃ v, o = .returned v ∧ Q v t.heap L) hM hf hl ?_ ?_ ?_ ?_ ?_
  · intro m meth c A a Y hp
    have hU : Z.Warmed39 A.U.vm := wtrans hZ Y.warmed
    exact ⟨by show (Cond.and _ .tt).before a A.U = true; rw [Cond.before_and, mv hU wc]; rfl, mv hU wc, mv hU wz, hp.2.2.1, hp.2.2.2⟩
  · exact fun m meth c A a g mk Y hp => ⟨hp.1, wtrans hZ Y.warmed, hp.2.1⟩
  · exact fun m meth c A a g mk Y hp hg => known_frames Y hg hTK hBK
  · rintro a U o t ⟨v, L, h1, h2, h3⟩
    exact ⟨L, _, _, h3, ⟨rfl, rfl⟩, v, h1, h2⟩
  · rintro m meth c A a g mk v t L k n Y hp - - ⟨⟨rfl, rfl⟩, v', e3, e4⟩
    cases e3
    exact ⟨L, e4, rfl, rfl, rfl⟩
/-- the fresh exception, before its constructor -/
def own_Rec (Z : State) (h : Heap) (a : Addr) : Prop := Exa Z h a "nephrite/EvaluationException" ∧ Unt h a ∧ (∃ u, Fld Z h a "java/lang/Throwable" "cause" "Ljava/lang/Throwable;" u) ∧ (∃ u, Fld Z h a "java/lang/Throwable" "stackTrace" "[Ljava/lang/StackTraceElement;" u) ∧ (∃ u, Fld Z h a "java/lang/Throwable" "suppressedExceptions" "Ljava/util/List;" u) ∧ Fld Z h a "java/lang/Throwable" "backtrace" "Ljava/lang/Object;" .null ∧ ∃ u, Fld Z h a "java/lang/Throwable" "detailMessage" "Ljava/lang/String;" u
def own_St (Z : State) (h : Heap) : Prop := (∃ u : Value, u.isRef = true ∧ Sta Z h "java/lang/Throwable" "UNASSIGNED_STACK" "[Ljava/lang/StackTraceElement;" u) ∧ (∃ u : Value, u.isRef = true ∧ Sta Z h "java/lang/Throwable" "SUPPRESSED_SENTINEL" "Ljava/util/List;" u) ∧ ThS Z h
theorem own_six {Z s : State} (hZ : Z.Warmed39 s.vm) {h : Heap} {a : Addr} {n d : String} {v : Value} (F : Fld Z h a "java/lang/Throwable" n d v) (hm : (n, d) ∈ Jvm.Free.Exc.sixNames) : Jvm.Free.Exc.Six s a ⟨a, Jvm.RoadKit.slotOf Z "java/lang/Throwable" n d⟩ := by
  obtain ⟨_, cf, k, i, f, -, h2, -⟩ := F
  exact ⟨(n, d), f, hm, Jvm.Free.BdW.found_ride (U := Z) (U' := s) hZ.alike ⟨_, _, _, h2⟩, by simp [Jvm.RoadKit.slotOf, h2]⟩
/-- a field that the tables find: the same at a warmer state -/
theorem own_found {Z s : State} (hZ : Z.Warmed39 s.vm) {C n d : String} {cf cf' i i' : Nat} {k k' : Class} {f f' : Field} (h : Z.fieldFound? C n d = some (cf, k, i, f)) (h' : s.fieldFound? C n d = some (cf', k', i', f')) : f = f' := by
  obtain ⟨_, _, _, q⟩ := Jvm.Free.BdW.found_ride (U := Z) (U' := s) hZ.alike ⟨_, _, _, h⟩
  cases q.symm.trans h'; rfl
theorem d11_0 : decode jdk_78_method_2_code 0 = .ok (.aload_n 0, 1) := by decide +kernel
theorem d11_1 : decode jdk_78_method_2_code 1 = .ok (.invokespecial 1, 3) := by decide +kernel
theorem d11_4 : decode jdk_78_method_2_code 4 = .ok (.aload_n 0, 1) := by decide +kernel
theorem d11_5 : decode jdk_78_method_2_code 5 = .ok (.aload_n 0, 1) := by decide +kernel
theorem d11_6 : decode jdk_78_method_2_code 6 = .ok (.putfield 7, 3) := by decide +kernel
theorem d11_9 : decode jdk_78_method_2_code 9 = .ok (.aload_n 0, 1) := by decide +kernel
theorem d11_10 : decode jdk_78_method_2_code 10 = .ok (.getstatic 13, 3) := by decide +kernel
theorem d11_13 : decode jdk_78_method_2_code 13 = .ok (.putfield 17, 3) := by decide +kernel
theorem d11_16 : decode jdk_78_method_2_code 16 = .ok (.aload_n 0, 1) := by decide +kernel
theorem d11_17 : decode jdk_78_method_2_code 17 = .ok (.getstatic 20, 3) := by decide +kernel
theorem d11_20 : decode jdk_78_method_2_code 20 = .ok (.putfield 24, 3) := by decide +kernel
theorem d11_23 : decode jdk_78_method_2_code 23 = .ok (.aload_n 0, 1) := by decide +kernel
theorem d11_24 : decode jdk_78_method_2_code 24 = .ok (.invokevirtual 27, 3) := by decide +kernel
theorem d11_27 : decode jdk_78_method_2_code 27 = .ok (.pop, 1) := by decide +kernel
theorem d11_28 : decode jdk_78_method_2_code 28 = .ok (.aload_n 0, 1) := by decide +kernel
theorem d11_29 : decode jdk_78_method_2_code 29 = .ok (.aload_n 1, 1) := by decide +kernel
theorem d11_30 : decode jdk_78_method_2_code 30 = .ok (.putfield 31, 3) := by decide +kernel
theorem d11_33 : decode jdk_78_method_2_code 33 = .ok (.return_, 1) := by decide +kernel
theorem pn_11 : plainName "java/lang/Throwable" = true := by first | (simp [plainName, overriddenIn]; done) | decide +kernel
theorem pd_11_8 : parseMethodDescriptor "()Ljava/lang/Throwable;" = some ⟨[], some (.object "java/lang/Throwable")⟩ := by decide +kernel
theorem ef_11 (m : MethodId) (x0 : Addr) (x1 : Addr) : entryFrame m #[(.ref x0), (.ref x1)] 2 = mkF m 0 #[.val (.ref x0), .val (.ref x1)] [] := by first | (simp [entryFrame, mkF, argsToLocals, Value.category]; done) | rfl
def Q11 (Z : State) (a1 : Addr) (h0 : Heap) (n0 : Nat) (v : Option Value) (h : Heap) (L : List Loc) : Prop := v = none ∧ Fr n0 L ∧ Kp Z h0 h a1
set_option maxRecDepth 65536 in
set_option maxHeartbeats 40000000 in
theorem rm11 (l : Launch) (Z : State) (a0 : Array Value) (hw : ∀ d ∈ tables_1, d.before a0 Z = true) (ws : List Jvm.Cond) (a1 : Addr) (a2 : Addr) (h0 : Heap) (n0 : Nat) (Z0 : n0 ≤ h0.size) (g_a1 : n0 ≤ a1) (hlT : l.stackTraces = true) (R0 : own_Rec Z h0 a1) (S0 : own_St Z h0) :
    MetFree l (⟨"java/lang/Throwable", "<init>", "(Ljava/lang/String;)V"⟩ : MethodName) (head1 (Jvm.Cond.code (⟨"java/lang/Throwable", "<init>", "(Ljava/lang/String;)V"⟩ : MethodName) jdk_78_method_2_code 2 none :: ws) ({ frames := 3, cells := 1, slots := 2752, locals := 42 } : Room)) (fun a U => a = #[(.ref a1), (.ref a2)] ∧ Z.Warmed39 U.vm ∧ U.heap = h0) (fun _ _ B U _ => U.vm.MethodsKnown ∧ U.vm.FramesKnown B) (fun _ U o U' => ∃ v L, o = .returned v ∧ Q11 Z a1 h0 n0 v U'.heap L ∧ FrameEnd U o U' L ({ frames := 3, cells := 1, slots := 2752, locals := 42 } : Room).cells ({ frames := 3, cells := 1, slots := 2752, locals := 42 } : Room).slots) := by
  refine MetFree.of_bodySF (plainFor_of_name pn_11) hisR ?_
  intro p e s m args below meth c s₁ Bd hml0 hP hK
  obtain ⟨rfl, hZ, hh⟩ := hP
  obtain ⟨hTK, hBK⟩ := hK
  obtain ⟨E_a1, U_a1, ⟨uC, F_cause⟩, ⟨uS, F_stack⟩, ⟨uP, F_supp⟩, F_back, uM, F_msg⟩ := R0
  obtain ⟨⟨u5, hu5, S_U⟩, ⟨u8, hu8, S_S⟩, hTS⟩ := S0
  have hx := Bd.exec
  have hby := Bd.bytes
  have hml : c.maxLocals = 2 := hml0
  have hown : s.vm.findClass "java/lang/Throwable" = some m.cls := findClass_of_methodNamed Bd.named
  have X0 : Stand p l e ({ frames := 3, cells := 1, slots := 2752, locals := 42 } : Room) s m #[(.ref a1), (.ref a2)] below meth c s₁ [] 0 0 := Stand.of_body Bd
  have e0 : s₁.heap = h0 := by rw [← hh, Bd.state]; rfl
  have N0 := Fr.nil n0
  have pre0 : ∀ t, Steps p.tables e below (s₁.setTop (mkF m 0 #[.val (.ref a1), .val (.ref a2)] [])) t → Steps p.tables e below (s₁.setTop (entryFrame m #[(.ref a1), (.ref a2)] 2)) t := fun t k => castTop (ef_11 m a1 a2) k
  obtain ⟨T3, X3, e3, st3⟩ := initO X0 hx hZ hown (hw _ (List.mem_of_getElem? (i := 60) rfl)) (hw _ (List.mem_of_getElem? (i := 16) rfl)) (hw _ (List.mem_of_getElem? (i := 17) rfl)) e0 (g := (mkF m 1 #[.val (.ref a1), .val (.ref a2)] [(.ref a1)])) rfl (by rw [hml]; rfl) rfl (hb hby d11_1) (by decide) (W := 0) (by show 2 * 0 + _ ≤ _; exact Nat.le_of_eq rfl) (by decide)
  obtain ⟨T4, h4, X4, e4, W4, st4⟩ := putF X3 hx hZ hown (host := "") (Or.inl (hw _ (List.mem_of_getElem? (i := 61) rfl))) Via.refl e3 F_cause E_a1 (Or.inl (hw _ (List.mem_of_getElem? (i := 62) rfl))) (hw _ (List.mem_of_getElem? (i := 35) rfl)) (ty := (.object "java/lang/Throwable")) (by decide) rfl rfl (g := (mkF m 6 #[.val (.ref a1), .val (.ref a2)] [(.ref a1), (.ref a1)])) rfl rfl (hb hby d11_6)
  have N4 := Fr.snoc X4 N0 g_a1
  obtain ⟨T6, X6, e6, st6⟩ := getS2 X4 hx hZ hown (host := "") (Or.inl (hw _ (List.mem_of_getElem? (i := 63) rfl))) Via.refl e4 (S_U.wr W4) (g := (mkF m 10 #[.val (.ref a1), .val (.ref a2)] [(.ref a1)])) rfl (hb hby d11_10)
  have F_stack4 := F_stack.other W4 (Or.inr (slot_ne (Or.inl (hw _ (List.mem_of_getElem? (i := 65) rfl))) (Or.inl (hw _ (List.mem_of_getElem? (i := 62) rfl))) (by decide) (t := (.array (.object "java/lang/StackTraceElement"))) (t' := (.object "java/lang/Throwable")) (by decide) (by decide)))
  obtain ⟨T7, h7, X7, e7, W7, st7⟩ := putF X6 hx hZ hown (host := "") (Or.inl (hw _ (List.mem_of_getElem? (i := 64) rfl))) Via.refl e6 F_stack4 (E_a1.wr W4) (Or.inl (hw _ (List.mem_of_getElem? (i := 65) rfl))) (hw _ (List.mem_of_getElem? (i := 35) rfl)) (ty := (.array (.object "java/lang/StackTraceElement"))) (by decide) (narrow_isRef _ hu5) (fits_refV_array _ ⟨u5, hu5⟩) (g := (mkF m 13 #[.val (.ref a1), .val (.ref a2)] [u5, (.ref a1)])) rfl rfl (hb hby d11_13)
  have N7 := Fr.snoc X7 N4 g_a1
  obtain ⟨T9, X9, e9, st9⟩ := getS2 X7 hx hZ hown (host := "") (Or.inl (hw _ (List.mem_of_getElem? (i := 66) rfl))) Via.refl e7 ((S_S.wr W4).wr W7) (g := (mkF m 17 #[.val (.ref a1), .val (.ref a2)] [(.ref a1)])) rfl (hb hby d11_17)
  have F_supp7 := (F_supp.other W4 (Or.inr (slot_ne (Or.inl (hw _ (List.mem_of_getElem? (i := 68) rfl))) (Or.inl (hw _ (List.mem_of_getElem? (i := 62) rfl))) (by decide) (t := (.object "java/util/List")) (t' := (.object "java/lang/Throwable")) (by decide) (by decide)))).other W7 (Or.inr (slot_ne (Or.inl (hw _ (List.mem_of_getElem? (i := 68) rfl))) (Or.inl (hw _ (List.mem_of_getElem? (i := 65) rfl))) (by decide) (t := (.object "java/util/List")) (t' := (.array (.object "java/lang/StackTraceElement"))) (by decide) (by decide)))
  obtain ⟨T10, h10, X10, e10, W10, st10⟩ := putF X9 hx hZ hown (host := "") (Or.inl (hw _ (List.mem_of_getElem? (i := 67) rfl))) Via.refl e9 F_supp7 ((E_a1.wr W4).wr W7) (Or.inl (hw _ (List.mem_of_getElem? (i := 68) rfl))) (hw _ (List.mem_of_getElem? (i := 35) rfl)) (ty := (.object "java/util/List")) (by decide) (narrow_isRef _ hu8) (fits_refV_object _ ⟨u8, hu8⟩) (g := (mkF m 20 #[.val (.ref a1), .val (.ref a2)] [u8, (.ref a1)])) rfl rfl (hb hby d11_20)
  have N10 := Fr.snoc X10 N7 g_a1
  have E10 := ((E_a1.wr W4).wr W7).wr W10
  have U10 := ((U_a1.wr W4).wr W7).wr W10
  have FS10 := (F_stack4.same W7).other W10 (Or.inr (slot_ne (Or.inl (hw _ (List.mem_of_getElem? (i := 65) rfl))) (Or.inl (hw _ (List.mem_of_getElem? (i := 68) rfl))) (by decide) (t := (.array (.object "java/lang/StackTraceElement"))) (t' := (.object "java/util/List")) (by decide) (by decide)))
  have FB10 := ((F_back.other W4 (Or.inr (slot_ne (Or.inl (hw _ (List.mem_of_getElem? (i := 93) rfl))) (Or.inl (hw _ (List.mem_of_getElem? (i := 62) rfl))) (by decide) (t := (.object "java/lang/Object")) (t' := (.object "java/lang/Throwable")) (by decide) (by decide)))).other W7 (Or.inr (slot_ne (Or.inl (hw _ (List.mem_of_getElem? (i := 93) rfl))) (Or.inl (hw _ (List.mem_of_getElem? (i := 65) rfl))) (by decide) (t := (.object "java/lang/Object")) (t' := (.array (.object "java/lang/StackTraceElement"))) (by decide) (by decide)))).other W10 (Or.inr (slot_ne (Or.inl (hw _ (List.mem_of_getElem? (i := 93) rfl))) (Or.inl (hw _ (List.mem_of_getElem? (i := 68) rfl))) (by decide) (t := (.object "java/lang/Object")) (t' := (.object "java/util/List")) (by decide) (by decide)))
  have SU10 := ((S_U.wr W4).wr W7).wr W10
  have hal := hZ.alike
  have htr : e.platform.stackTraces = true := by rw [X0.admits.platform]; exact hlT
  have hpl : e.platform.magicAccessors = ({} : Platform).magicAccessors := by rw [X0.admits.platform]
  have w : ∀ d ∈ own_words, d.before #[(.ref a1), (.ref a2)] s = true := own_words_at hw (by rw [hh]; exact hTS) hZ
  obtain ⟨T, Lk, fT, nF, nF0, zS, zU⟩ := own_thr (pl := e.platform) (by rw [X0.admits.platform]) (by rw [X0.admits.platform]) hpl w
  obtain ⟨cell, uc1, uc2, uc3⟩ := U10
  obtain ⟨_, kX, ex1, ex2, ex3, ex4, ex5⟩ := id E10
  cases uc1.symm.trans ex1
  have fE : s.vm.findClass "nephrite/EvaluationException" = some cell.cls := by rw [hal.findClass]; exact ex2
  obtain ⟨kY, ky1, ky2⟩ := hal.2.2 _ _ ex3
  obtain ⟨_, _, i1, i2, i3, -⟩ := Cond.instantiable_spec (hw _ (List.mem_of_getElem? (i := 35) rfl))
  cases ex2.symm.trans i1
  cases ex3.symm.trans i2
  have ord : kY.kind = .ordinary := by rw [ky2]; exact i3
  have siz : cell.slots.size = kY.instanceTypes.size := by rw [ky2]; exact ex5 i3
  have tk : ∀ {f : Field} {v : Value}, kY.instanceTypes[f.slot]? = some f.type → fits f.type v = true → Jvm.Takes s cell f v := fun {f v} t1 t2 => by
    obtain ⟨r1, r2⟩ := Takes.of_laid (v := v) ky1 ord t1 t2
    exact ⟨by rw [siz]; simpa using r1, by rw [uc2]; exact r2⟩
  obtain ⟨_, _, _, _, f17, b1, b2, -, -, -, -, b7⟩ := FS10
  cases uc1.symm.trans b1
  obtain rfl : f17 = T.fStack := own_found hZ b2 zS
  obtain ⟨tyS, -⟩ := Cond.laysAt fE ky1 zS (w (.lays "nephrite/EvaluationException" tN "stackTrace" steD) (by decide +kernel))
  obtain ⟨_, _, kU, fU, st, cellS, t1, -, -, t4, t5, t6, t7⟩ := SU10
  obtain rfl : fU = T.fUnassigned := own_found hZ t1 zU
  obtain rfl : st = T.aS := by
    obtain ⟨k', r1, r2⟩ := State.fieldFound?_setVm (s := Z) hal t1
    have r1' : s.fieldFound? "java/lang/Throwable" "UNASSIGNED_STACK" "[Ljava/lang/StackTraceElement;" = some (_, k', _, T.fUnassigned) := r1
    cases r1'.symm.trans zU
    have r3 : T.kT.statics = some st := by rw [r2]; exact t4
    exact Option.some.inj (r3.symm.trans Lk.statics)
  have hneS : T.aS ≠ a1 := fun z => by
    rw [z] at t5
    cases uc1.symm.trans t5
    rw [uc2] at t6; cases t6
  obtain ⟨x198, i198, fB, k198, g198, a198, s198, -, n198, y198, z198⟩ := Cond.ownField (t := .object "java/lang/Object") fT Lk.cls (by decide +kernel) (w (.fieldLink tN 198 tN "backtrace" "Ljava/lang/Object;") (by decide +kernel)) (w (.lays "nephrite/EvaluationException" tN "backtrace" "Ljava/lang/Object;") (by decide +kernel)) e.platform hpl
  obtain ⟨_, _, _, _, fB', d1, d2, -, -, -, -, d7⟩ := FB10
  cases uc1.symm.trans d1
  obtain rfl : fB' = fB := own_found hZ d2 z198
  have wD : (Cond.lays "nephrite/EvaluationException" tN "depth" "I").holds #[(.ref a1), (.ref a2)] s none s [] = true := w _ (by decide +kernel)
  obtain ⟨_, _, cD, kD, iD, fD, -, -, zD, sD, -⟩ := Cond.lays_spec wD
  obtain rfl : cD = T.cT := Option.some.inj ((Cond.lays_declared wD zD).symm.trans fT)
  obtain ⟨kD1, aD⟩ := State.fieldFound?_spec zD
  obtain rfl : kD = T.kT := Option.some.inj (kD1.symm.trans Lk.cls)
  obtain ⟨nD, yD⟩ := State.fieldFound?_type zD (t := .int) (by decide +kernel)
  obtain ⟨tyB, -⟩ := Cond.laysAt fE ky1 z198 (w (.lays "nephrite/EvaluationException" tN "backtrace" "Ljava/lang/Object;") (by decide +kernel))
  obtain ⟨tyD, -⟩ := Cond.laysAt fE ky1 zD wD
  obtain ⟨comp, cO, kO, -, -, hkO, hkindO, hO⟩ := Cond.arrayOver_spec (w (.arrayOver (.object "java/lang/Object")) (by decide +kernel))
  have hsel0 : selectMethod e.platform s.vm cell.cls T.fill0 = .method T.fill0 := by
    obtain ⟨_, _, _, r1, r2, r3, r4, -⟩ := Cond.selects_spec (w (.selects "nephrite/EvaluationException" tFill0 tFill0) (by decide +kernel))
    cases r1.symm.trans fE
    cases r2.symm.trans (State.methodFound?_of_named nF0 (by decide))
    cases r3.symm.trans nF0
    rw [Launch.admits_selectMethod X0.admits]; exact r4
  have tyS' : T.fStack.type = .array (.object "java/lang/StackTraceElement") := (State.fieldFound?_type zS (t := .array (.object "java/lang/StackTraceElement")) (by decide +kernel)).2
  have pay := Jvm.Free.Exc.fillPaysAny (l := l) (R := ({ frames := 3, cells := 1, slots := 2752, locals := 42 } : Room)) (len := 3) (W := 0) (sargs := #[(.ref a1), (.ref a2)]) (below := below) hx htr T Lk nF (u0 := ⟨u5, hu5⟩) (self := a1) (cell := cell) (cellS := cellS) (fun _ => by rw [uc2]; simp) (by rw [uc2]; simp) (by rw [uc3]) (by rw [uc3]) b7 hsel0 hneS (fun q => by rw [q] at t6; cases t6) t7
    (tk tyS (by rw [tyS']; exact fits_refV_array _ ⟨u5, hu5⟩)) ⟨{ ci198 := x198, i198 := i198, fBack := fB' }, ⟨k198, g198, a198, s198⟩, d7⟩ hTK hBK fT hO hkO hkindO (Cond.soleField_find fT Lk.cls (w (.soleField tN "backtrace") (by decide +kernel)) a198 n198 s198) (Cond.soleField_find fT Lk.cls (w (.soleField tN "depth") (by decide +kernel)) aD nD sD)
    (fun x => tk tyB (by rw [y198]; rfl)) (fun x => tk tyD (by rw [yD]; rfl)) (by decide) (by decide)
  obtain ⟨_, _, ⟨T11, L11, k11, n11⟩, -, X11, ⟨hv11, C, n, hn, hC, q1, q2, q3, -, l11, y11, z11⟩, st11⟩ := X10.virtualBack hx (y := tFill) (z := tFill) hown (mvT hZ (hw _ (List.mem_of_getElem? (i := 69) rfl))) (mvT hZ (hw _ (List.mem_of_getElem? (i := 70) rfl))) (notFace_of_selects (args := #[]) (mvT hZ (hw _ (List.mem_of_getElem? (i := 72) rfl)))) (mvT hZ (hw _ (List.mem_of_getElem? (i := 72) rfl))) (mvT hZ (hw _ (List.mem_of_getElem? (i := 71) rfl))) (by decide) pay fE ⟨cell, by rw [e10]; exact uc1, rfl, ex4⟩ (g := (mkF m 24 #[.val (.ref a1), .val (.ref a2)] [(.ref a1)])) rfl (by rw [hml]; rfl) (Steps.refl _) (argsL := []) (rest := []) (lenOf pd_11_8 rfl) rfl (by show 2 * 0 + _ ≤ _; exact Nat.le_of_eq rfl) (hb hby d11_24) (fun _ _ => ⟨rfl, (by decide : 0 + 1 ≤ _), (by decide : 0 + 2752 ≤ _), (by show T10.heap[a1]? = _; rw [e10]; exact uc1), (by show T10.heap[T.aS]? = _; rw [e10]; exact t5)⟩)
  dsimp only [Pt.U, Pt.locs, Pt.cells, Pt.slots] at X11 hC l11 y11 z11 st11
  subst hv11 l11 y11 z11
  have N11 : Fr n0 _ := Fr.app N10 (fun y hy => by
    simp only [List.mem_cons, List.not_mem_nil, or_false] at hy
    rcases hy with rfl | rfl | rfl <;> exact g_a1 : Fr n0 [⟨a1, fB'.slot⟩, ⟨a1, fD.slot⟩, ⟨a1, T.fStack.slot⟩])
  have E11 : Exa Z T11.heap a1 "nephrite/EvaluationException" := ⟨C, kX, hC, by rw [q1]; exact ex2, by rw [q1]; exact ex3, by rw [q2]; exact ex4, fun z => by rw [q3]; exact ex5 z⟩
  obtain ⟨uM', F11⟩ : ∃ u, Fld Z T11.heap a1 "java/lang/Throwable" "detailMessage" "Ljava/lang/String;" u := by
    obtain ⟨_, _, cf, kf, i, f, r1, r2, r3, r4, r5, r6, -⟩ := Laid.spec (Or.inl (hw _ (List.mem_of_getElem? (i := 92) rfl)) : Laid Z a0 "nephrite/EvaluationException" "java/lang/Throwable" "detailMessage" "Ljava/lang/String;")
    cases ex2.symm.trans r1
    cases ex3.symm.trans r2
    have lt : f.slot < C.slots.size := by rw [q3, ex5 i3]; exact (Array.getElem?_eq_some_iff.mp r6).1
    exact ⟨_, C, cf, kf, i, f, hC, r3, r4, by rw [q2, uc2]; simp, by rw [q2]; exact ex4, by rw [q1]; exact r5, Array.getElem?_eq_getElem lt⟩
  obtain ⟨T12, h12, X12, e12, W12, st12⟩ := putF X11 hx hZ hown (host := "") (Or.inl (hw _ (List.mem_of_getElem? (i := 96) rfl))) Via.refl rfl F11 E11 (Or.inl (hw _ (List.mem_of_getElem? (i := 92) rfl))) (hw _ (List.mem_of_getElem? (i := 35) rfl)) (ty := (.object "java/lang/String")) (by decide) rfl rfl (g := (mkF m 30 #[.val (.ref a1), .val (.ref a2)] [(.ref a2), (.ref a1)])) rfl rfl (hb hby d11_30)
  have N12 := Fr.snoc X12 N11 g_a1
  have Kp12 : Kp Z h0 T12.heap a1 := kp_of (L := _) (U := T12) hZ hh (fun y hy => by
    simp only [List.mem_append, List.mem_cons, List.not_mem_nil, or_false, false_or] at hy
    rcases hy with ((((rfl | rfl) | rfl) | rfl | rfl | rfl) | rfl)
    · exact own_six hZ F_cause (by decide)
    · exact own_six hZ F_stack (by decide)
    · exact own_six hZ F_supp (by decide)
    · exact ⟨("backtrace", "Ljava/lang/Object;"), _, by decide, ⟨_, _, _, z198⟩, rfl⟩
    · exact ⟨("depth", "I"), _, by decide, ⟨_, _, _, zD⟩, rfl⟩
    · exact ⟨("stackTrace", steD), _, by decide, ⟨_, _, _, zS⟩, rfl⟩
    · exact own_six hZ F_msg (by decide)) (fun y cy hy => X12.same.2.2.2.2.2 y cy hy)
  obtain ⟨fs, hr, hrun, hended, hW, hsame⟩ := X12.leave (v := none) (fun _ => rfl)
  refine ⟨_, _, pre0 _ ?_, hrun, hended, _, _, rfl, ?_, ⟨_, rfl⟩, hW, hsame.mono (by decide) (by show 0 + n ≤ 2752; omega)⟩
  · show Steps p.tables e below (s₁.setTop (mkF m 0 #[.val (.ref a1), .val (.ref a2)] [])) _
    refine XS.aloadN X0.here hx rfl (hb hby d11_0) rfl rfl ?_
    show Steps p.tables e below (s₁.setTop (mkF m 1 #[.val (.ref a1), .val (.ref a2)] [(.ref a1)])) _
    refine st3 _ ?_
    show Steps p.tables e below (T3.setTop (mkF m 4 #[.val (.ref a1), .val (.ref a2)] [])) _
    refine XS.aloadN X3.here hx rfl (hb hby d11_4) rfl rfl ?_
    show Steps p.tables e below (T3.setTop (mkF m 5 #[.val (.ref a1), .val (.ref a2)] [(.ref a1)])) _
    refine XS.aloadN X3.here hx rfl (hb hby d11_5) rfl rfl ?_
    show Steps p.tables e below (T3.setTop (mkF m 6 #[.val (.ref a1), .val (.ref a2)] [(.ref a1), (.ref a1)])) _
    refine st4 _ ?_
    show Steps p.tables e below (T4.setTop (mkF m 9 #[.val (.ref a1), .val (.ref a2)] [])) _
    refine XS.aloadN X4.here hx rfl (hb hby d11_9) rfl rfl ?_
    show Steps p.tables e below (T4.setTop (mkF m 10 #[.val (.ref a1), .val (.ref a2)] [(.ref a1)])) _
    refine st6 _ ?_
    show Steps p.tables e below (T6.setTop (mkF m 13 #[.val (.ref a1), .val (.ref a2)] [u5, (.ref a1)])) _
    refine st7 _ ?_
    show Steps p.tables e below (T7.setTop (mkF m 16 #[.val (.ref a1), .val (.ref a2)] [])) _
    refine XS.aloadN X7.here hx rfl (hb hby d11_16) rfl rfl ?_
    show Steps p.tables e below (T7.setTop (mkF m 17 #[.val (.ref a1), .val (.ref a2)] [(.ref a1)])) _
    refine st9 _ ?_
    show Steps p.tables e below (T9.setTop (mkF m 20 #[.val (.ref a1), .val (.ref a2)] [u8, (.ref a1)])) _
    refine st10 _ ?_
    show Steps p.tables e below (T10.setTop (mkF m 23 #[.val (.ref a1), .val (.ref a2)] [])) _
    refine XS.aloadN X10.here hx rfl (hb hby d11_23) rfl rfl ?_
    show Steps p.tables e below (T10.setTop (mkF m 24 #[.val (.ref a1), .val (.ref a2)] [(.ref a1)])) _
    refine st11.trans ?_
    show Steps p.tables e below (T11.setTop (mkF m 27 #[.val (.ref a1), .val (.ref a2)] [(.ref a1)])) _
    refine XS.pop X11.here hx rfl (hb hby d11_27) rfl rfl ?_
    show Steps p.tables e below (T11.setTop (mkF m 28 #[.val (.ref a1), .val (.ref a2)] [])) _
    refine XS.aloadN X11.here hx rfl (hb hby d11_28) rfl rfl ?_
    show Steps p.tables e below (T11.setTop (mkF m 29 #[.val (.ref a1), .val (.ref a2)] [(.ref a1)])) _
    refine XS.aloadN X11.here hx rfl (hb hby d11_29) rfl rfl ?_
    show Steps p.tables e below (T11.setTop (mkF m 30 #[.val (.ref a1), .val (.ref a2)] [(.ref a2), (.ref a1)])) _
    refine st12 _ ?_
    show Steps p.tables e below (T12.setTop (mkF m 33 #[.val (.ref a1), .val (.ref a2)] [])) _
    exact X12.returnOut hx Bd.returns (hb hby d11_33) hr
  · show Q11 Z a1 h0 n0 _ T12.heap _
    exact ⟨rfl, N12, Kp12⟩
theorem own_six_ne {Z : State} {a0 : Array Value} (hw : ∀ d ∈ tables_1, d.before a0 Z = true) {O n d : String} {ty : FieldType} (Lf : Laid Z a0 "nephrite/EvaluationException" O n d) (ht : parseFieldDescriptor d = some ty) (hn : ∀ nd ∈ Jvm.Free.Exc.sixNames, nd.1 ≠ n) : ∀ nd ∈ Jvm.Free.Exc.sixNames, Jvm.RoadKit.slotOf Z "java/lang/Throwable" nd.1 nd.2 ≠ Jvm.RoadKit.slotOf Z O n d := fun nd hm => by
  have q := hn nd hm
  simp only [Jvm.Free.Exc.sixNames, List.mem_cons, List.not_mem_nil, or_false] at hm
  rcases hm with rfl | rfl | rfl | rfl | rfl | rfl
  · exact slot_ne (Or.inl (hw _ (List.mem_of_getElem? (i := 62) rfl))) Lf q (t := .object "java/lang/Throwable") (by decide) ht
  · exact slot_ne (Or.inl (hw _ (List.mem_of_getElem? (i := 65) rfl))) Lf q (t := .array (.object "java/lang/StackTraceElement")) (by decide) ht
  · exact slot_ne (Or.inl (hw _ (List.mem_of_getElem? (i := 68) rfl))) Lf q (t := .object "java/util/List") (by decide) ht
  · exact slot_ne (Or.inl (hw _ (List.mem_of_getElem? (i := 93) rfl))) Lf q (t := .object "java/lang/Object") (by decide) ht
  · exact slot_ne (Or.inl (hw _ (List.mem_of_getElem? (i := 94) rfl))) Lf q (t := .int) (by decide) ht
  · exact slot_ne (Or.inl (hw _ (List.mem_of_getElem? (i := 92) rfl))) Lf q (t := .object "java/lang/String") (by decide) ht
theorem own_St_old {Z : State} {n0 : Nat} {h : Heap} (S : own_St Z Z.heap) (O : Old Z n0 h) : own_St Z h := by
  obtain ⟨⟨u, hu, s1⟩, ⟨v, hv, s2⟩, t⟩ := S
  exact ⟨⟨u, hu, s1.ext O.2⟩, ⟨v, hv, s2.ext O.2⟩, t.ext O.2⟩
theorem own_pdS : parseMethodDescriptor "(Ljava/lang/String;)V" = some ⟨[(.object "java/lang/String")], none⟩ := by decide +kernel
theorem d10_0 : decode jdk_59_method_2_code 0 = .ok (.aload_n 0, 1) := by decide +kernel
theorem d10_1 : decode jdk_59_method_2_code 1 = .ok (.aload_n 1, 1) := by decide +kernel
theorem d10_2 : decode jdk_59_method_2_code 2 = .ok (.invokespecial 7, 3) := by decide +kernel
theorem d10_5 : decode jdk_59_method_2_code 5 = .ok (.return_, 1) := by decide +kernel
theorem pn_10 : plainName "java/lang/Exception" = true := by first | (simp [plainName, overriddenIn]; done) | decide +kernel
def Q10 (Z : State) (a1 : Addr) (h0 : Heap) (n0 : Nat) (v : Option Value) (h : Heap) (L : List Loc) : Prop := v = none ∧ Fr n0 L ∧ Kp Z h0 h a1
set_option maxRecDepth 65536 in
set_option maxHeartbeats 40000000 in
theorem rm10 (l : Launch) (Z : State) (a0 : Array Value) (hw : ∀ d ∈ tables_1, d.before a0 Z = true) (ws : List Jvm.Cond) (a1 : Addr) (a2 : Addr) (h0 : Heap) (n0 : Nat) (Z0 : n0 ≤ h0.size) (g_a1 : n0 ≤ a1) (hlT : l.stackTraces = true) (R0 : own_Rec Z h0 a1) (S0 : own_St Z h0) :
    MetFree l (⟨"java/lang/Exception", "<init>", "(Ljava/lang/String;)V"⟩ : MethodName) (head1 (Jvm.Cond.code (⟨"java/lang/Exception", "<init>", "(Ljava/lang/String;)V"⟩ : MethodName) jdk_59_method_2_code 2 none :: ws) ({ frames := 4, cells := 1, slots := 2752, locals := 55 } : Room)) (fun a U => a = #[(.ref a1), (.ref a2)] ∧ Z.Warmed39 U.vm ∧ U.heap = h0) (fun _ _ B U _ => U.vm.MethodsKnown ∧ U.vm.FramesKnown B) (fun _ U o U' => ∃ v L, o = .returned v ∧ Q10 Z a1 h0 n0 v U'.heap L ∧ FrameEnd U o U' L ({ frames := 4, cells := 1, slots := 2752, locals := 55 } : Room).cells ({ frames := 4, cells := 1, slots := 2752, locals := 55 } : Room).slots) := by
  refine MetFree.of_bodySF (plainFor_of_name pn_10) hisR ?_
  intro p e s m args below meth c s₁ Bd hml0 hP hK
  obtain ⟨rfl, hZ, hh⟩ := hP
  obtain ⟨hTK, hBK⟩ := hK
  have hx := Bd.exec
  have hby := Bd.bytes
  have hml : c.maxLocals = 2 := hml0
  have hown : s.vm.findClass "java/lang/Exception" = some m.cls := findClass_of_methodNamed Bd.named
  have X0 : Stand p l e ({ frames := 4, cells := 1, slots := 2752, locals := 55 } : Room) s m #[(.ref a1), (.ref a2)] below meth c s₁ [] 0 0 := Stand.of_body Bd
  have e0 : s₁.heap = h0 := by rw [← hh, Bd.state]; rfl
  have pre0 : ∀ t, Steps p.tables e below (s₁.setTop (mkF m 0 #[.val (.ref a1), .val (.ref a2)] [])) t → Steps p.tables e below (s₁.setTop (entryFrame m #[(.ref a1), (.ref a2)] 2)) t := fun t k => castTop (ef_11 m a1 a2) k
  obtain ⟨_, _, ⟨T3, L3, k3, n3⟩, -, X3, ⟨Lc3, hQ3, l3, y3, z3⟩, st3⟩ := X0.specialBack hx (y := (⟨"java/lang/Throwable", "<init>", "(Ljava/lang/String;)V"⟩ : MethodName)) rfl hown (mvT hZ (hw _ (List.mem_of_getElem? (i := 54) rfl))) (mvT hZ (hw _ (List.mem_of_getElem? (i := 55) rfl))) (mvT hZ (hw _ (List.mem_of_getElem? (i := 59) rfl))) (by decide) (own_backK (W := 0) (rm11 l Z a0 hw [] a1 a2 h0 n0 Z0 g_a1 hlT R0 S0) hZ (hw _ (List.mem_of_getElem? (i := 59) rfl)) (hw _ (List.mem_of_getElem? (i := 58) rfl)) hTK hBK (by decide) (by decide)) (g := (mkF m 2 #[.val (.ref a1), .val (.ref a2)] [(.ref a2), (.ref a1)])) rfl (by rw [hml]; rfl) (Steps.refl _) (a := a1) (argsL := [(.ref a2)]) (rest := []) (lenOf own_pdS rfl) rfl (by show 2 * 0 + _ ≤ _; exact Nat.le_of_eq rfl) (hb hby d10_2) (fun _ _ => ⟨rfl, e0, (by decide : 0 + 1 ≤ _), (by decide : 0 + 2752 ≤ _)⟩)
  dsimp only [Pt.U, Pt.locs, Pt.cells, Pt.slots] at X3 l3 y3 z3 st3 hQ3
  subst l3 y3 z3
  obtain ⟨rfl, N3, Kp3⟩ := hQ3
  obtain ⟨fs, hr, hrun, hended, hW, hsame⟩ := X3.leave (v := none) (fun _ => rfl)
  refine ⟨_, _, pre0 _ ?_, hrun, hended, _, _, rfl, ?_, ⟨_, rfl⟩, hW, hsame.mono (by decide) (by decide)⟩
  · show Steps p.tables e below (s₁.setTop (mkF m 0 #[.val (.ref a1), .val (.ref a2)] [])) _
    refine XS.aloadN X0.here hx rfl (hb hby d10_0) rfl rfl ?_
    show Steps p.tables e below (s₁.setTop (mkF m 1 #[.val (.ref a1), .val (.ref a2)] [(.ref a1)])) _
    refine XS.aloadN X0.here hx rfl (hb hby d10_1) rfl rfl ?_
    show Steps p.tables e below (s₁.setTop (mkF m 2 #[.val (.ref a1), .val (.ref a2)] [(.ref a2), (.ref a1)])) _
    refine st3.trans ?_
    show Steps p.tables e below (T3.setTop (mkF m 5 #[.val (.ref a1), .val (.ref a2)] [])) _
    exact X3.returnOut hx Bd.returns (hb hby d10_5) hr
  · show Q10 Z a1 h0 n0 _ T3.heap _
    exact ⟨rfl, Fr.app (Fr.nil n0) N3, Kp3⟩
theorem d9_0 : decode jdk_58_method_2_code 0 = .ok (.aload_n 0, 1) := by decide +kernel
theorem d9_1 : decode jdk_58_method_2_code 1 = .ok (.aload_n 1, 1) := by decide +kernel
theorem d9_2 : decode jdk_58_method_2_code 2 = .ok (.invokespecial 7, 3) := by decide +kernel
theorem d9_5 : decode jdk_58_method_2_code 5 = .ok (.return_, 1) := by decide +kernel
theorem pn_9 : plainName "java/lang/RuntimeException" = true := by first | (simp [plainName, overriddenIn]; done) | decide +kernel
def Q9 (Z : State) (a1 : Addr) (h0 : Heap) (n0 : Nat) (v : Option Value) (h : Heap) (L : List Loc) : Prop := v = none ∧ Fr n0 L ∧ Kp Z h0 h a1
set_option maxRecDepth 65536 in
set_option maxHeartbeats 40000000 in
theorem rm9 (l : Launch) (Z : State) (a0 : Array Value) (hw : ∀ d ∈ tables_1, d.before a0 Z = true) (ws : List Jvm.Cond) (a1 : Addr) (a2 : Addr) (h0 : Heap) (n0 : Nat) (Z0 : n0 ≤ h0.size) (g_a1 : n0 ≤ a1) (hlT : l.stackTraces = true) (R0 : own_Rec Z h0 a1) (S0 : own_St Z h0) :
    MetFree l (⟨"java/lang/RuntimeException", "<init>", "(Ljava/lang/String;)V"⟩ : MethodName) (head1 (Jvm.Cond.code (⟨"java/lang/RuntimeException", "<init>", "(Ljava/lang/String;)V"⟩ : MethodName) jdk_58_method_2_code 2 none :: ws) ({ frames := 5, cells := 1, slots := 2752, locals := 68 } : Room)) (fun a U => a = #[(.ref a1), (.ref a2)] ∧ Z.Warmed39 U.vm ∧ U.heap = h0) (fun _ _ B U _ => U.vm.MethodsKnown ∧ U.vm.FramesKnown B) (fun _ U o U' => ∃ v L, o = .returned v ∧ Q9 Z a1 h0 n0 v U'.heap L ∧ FrameEnd U o U' L ({ frames := 5, cells := 1, slots := 2752, locals := 68 } : Room).cells ({ frames := 5, cells := 1, slots := 2752, locals := 68 } : Room).slots) := by
  refine MetFree.of_bodySF (plainFor_of_name pn_9) hisR ?_
  intro p e s m args below meth c s₁ Bd hml0 hP hK
  obtain ⟨rfl, hZ, hh⟩ := hP
  obtain ⟨hTK, hBK⟩ := hK
  have hx := Bd.exec
  have hby := Bd.bytes
  have hml : c.maxLocals = 2 := hml0
  have hown : s.vm.findClass "java/lang/RuntimeException" = some m.cls := findClass_of_methodNamed Bd.named
  have X0 : Stand p l e ({ frames := 5, cells := 1, slots := 2752, locals := 68 } : Room) s m #[(.ref a1), (.ref a2)] below meth c s₁ [] 0 0 := Stand.of_body Bd
  have e0 : s₁.heap = h0 := by rw [← hh, Bd.state]; rfl
  have pre0 : ∀ t, Steps p.tables e below (s₁.setTop (mkF m 0 #[.val (.ref a1), .val (.ref a2)] [])) t → Steps p.tables e below (s₁.setTop (entryFrame m #[(.ref a1), (.ref a2)] 2)) t := fun t k => castTop (ef_11 m a1 a2) k
  obtain ⟨_, _, ⟨T3, L3, k3, n3⟩, -, X3, ⟨Lc3, hQ3, l3, y3, z3⟩, st3⟩ := X0.specialBack hx (y := (⟨"java/lang/Exception", "<init>", "(Ljava/lang/String;)V"⟩ : MethodName)) rfl hown (mvT hZ (hw _ (List.mem_of_getElem? (i := 48) rfl))) (mvT hZ (hw _ (List.mem_of_getElem? (i := 49) rfl))) (mvT hZ (hw _ (List.mem_of_getElem? (i := 53) rfl))) (by decide) (own_backK (W := 0) (rm10 l Z a0 hw [] a1 a2 h0 n0 Z0 g_a1 hlT R0 S0) hZ (hw _ (List.mem_of_getElem? (i := 53) rfl)) (hw _ (List.mem_of_getElem? (i := 52) rfl)) hTK hBK (by decide) (by decide)) (g := (mkF m 2 #[.val (.ref a1), .val (.ref a2)] [(.ref a2), (.ref a1)])) rfl (by rw [hml]; rfl) (Steps.refl _) (a := a1) (argsL := [(.ref a2)]) (rest := []) (lenOf own_pdS rfl) rfl (by show 2 * 0 + _ ≤ _; exact Nat.le_of_eq rfl) (hb hby d9_2) (fun _ _ => ⟨rfl, e0, (by decide : 0 + 1 ≤ _), (by decide : 0 + 2752 ≤ _)⟩)
  dsimp only [Pt.U, Pt.locs, Pt.cells, Pt.slots] at X3 l3 y3 z3 st3 hQ3
  subst l3 y3 z3
  obtain ⟨rfl, N3, Kp3⟩ := hQ3
  obtain ⟨fs, hr, hrun, hended, hW, hsame⟩ := X3.leave (v := none) (fun _ => rfl)
  refine ⟨_, _, pre0 _ ?_, hrun, hended, _, _, rfl, ?_, ⟨_, rfl⟩, hW, hsame.mono (by decide) (by decide)⟩
  · show Steps p.tables e below (s₁.setTop (mkF m 0 #[.val (.ref a1), .val (.ref a2)] [])) _
    refine XS.aloadN X0.here hx rfl (hb hby d9_0) rfl rfl ?_
    show Steps p.tables e below (s₁.setTop (mkF m 1 #[.val (.ref a1), .val (.ref a2)] [(.ref a1)])) _
    refine XS.aloadN X0.here hx rfl (hb hby d9_1) rfl rfl ?_
    show Steps p.tables e below (s₁.setTop (mkF m 2 #[.val (.ref a1), .val (.ref a2)] [(.ref a2), (.ref a1)])) _
    refine st3.trans ?_
    show Steps p.tables e below (T3.setTop (mkF m 5 #[.val (.ref a1), .val (.ref a2)] [])) _
    exact X3.returnOut hx Bd.returns (hb hby d9_5) hr
  · show Q9 Z a1 h0 n0 _ T3.heap _
    exact ⟨rfl, Fr.app (Fr.nil n0) N3, Kp3⟩
theorem d8_0 : decode prog_36_method_1_code 0 = .ok (.aload_n 0, 1) := by decide +kernel
theorem d8_1 : decode prog_36_method_1_code 1 = .ok (.aload_n 1, 1) := by decide +kernel
theorem d8_2 : decode prog_36_method_1_code 2 = .ok (.invokespecial 1, 3) := by decide +kernel
theorem d8_5 : decode prog_36_method_1_code 5 = .ok (.return_, 1) := by decide +kernel
theorem pn_8 : plainName "nephrite/EvaluationException" = true := by first | (simp [plainName, overriddenIn]; done) | decide +kernel
def Q8 (Z : State) (a1 : Addr) (h0 : Heap) (n0 : Nat) (v : Option Value) (h : Heap) (L : List Loc) : Prop := v = none ∧ Fr n0 L ∧ Kp Z h0 h a1
set_option maxRecDepth 65536 in
set_option maxHeartbeats 40000000 in
theorem rm8 (l : Launch) (Z : State) (a0 : Array Value) (hw : ∀ d ∈ tables_1, d.before a0 Z = true) (ws : List Jvm.Cond) (a1 : Addr) (a2 : Addr) (h0 : Heap) (n0 : Nat) (Z0 : n0 ≤ h0.size) (g_a1 : n0 ≤ a1) (hlT : l.stackTraces = true) (R0 : own_Rec Z h0 a1) (S0 : own_St Z h0) :
    MetFree l (⟨"nephrite/EvaluationException", "<init>", "(Ljava/lang/String;)V"⟩ : MethodName) (head1 (Jvm.Cond.code (⟨"nephrite/EvaluationException", "<init>", "(Ljava/lang/String;)V"⟩ : MethodName) prog_36_method_1_code 2 none :: ws) ({ frames := 6, cells := 1, slots := 2752, locals := 81 } : Room)) (fun a U => a = #[(.ref a1), (.ref a2)] ∧ Z.Warmed39 U.vm ∧ U.heap = h0) (fun _ _ B U _ => U.vm.MethodsKnown ∧ U.vm.FramesKnown B) (fun _ U o U' => ∃ v L, o = .returned v ∧ Q8 Z a1 h0 n0 v U'.heap L ∧ FrameEnd U o U' L ({ frames := 6, cells := 1, slots := 2752, locals := 81 } : Room).cells ({ frames := 6, cells := 1, slots := 2752, locals := 81 } : Room).slots) := by
  refine MetFree.of_bodySF (plainFor_of_name pn_8) hisR ?_
  intro p e s m args below meth c s₁ Bd hml0 hP hK
  obtain ⟨rfl, hZ, hh⟩ := hP
  obtain ⟨hTK, hBK⟩ := hK
  have hx := Bd.exec
  have hby := Bd.bytes
  have hml : c.maxLocals = 2 := hml0
  have hown : s.vm.findClass "nephrite/EvaluationException" = some m.cls := findClass_of_methodNamed Bd.named
  have X0 : Stand p l e ({ frames := 6, cells := 1, slots := 2752, locals := 81 } : Room) s m #[(.ref a1), (.ref a2)] below meth c s₁ [] 0 0 := Stand.of_body Bd
  have e0 : s₁.heap = h0 := by rw [← hh, Bd.state]; rfl
  have pre0 : ∀ t, Steps p.tables e below (s₁.setTop (mkF m 0 #[.val (.ref a1), .val (.ref a2)] [])) t → Steps p.tables e below (s₁.setTop (entryFrame m #[(.ref a1), (.ref a2)] 2)) t := fun t k => castTop (ef_11 m a1 a2) k
  obtain ⟨_, _, ⟨T3, L3, k3, n3⟩, -, X3, ⟨Lc3, hQ3, l3, y3, z3⟩, st3⟩ := X0.specialBack hx (y := (⟨"java/lang/RuntimeException", "<init>", "(Ljava/lang/String;)V"⟩ : MethodName)) rfl hown (mvT hZ (hw _ (List.mem_of_getElem? (i := 43) rfl))) (mvT hZ (hw _ (List.mem_of_getElem? (i := 44) rfl))) (mvT hZ (hw _ (List.mem_of_getElem? (i := 47) rfl))) (by decide) (own_backK (W := 0) (rm9 l Z a0 hw [] a1 a2 h0 n0 Z0 g_a1 hlT R0 S0) hZ (hw _ (List.mem_of_getElem? (i := 47) rfl)) (hw _ (List.mem_of_getElem? (i := 46) rfl)) hTK hBK (by decide) (by decide)) (g := (mkF m 2 #[.val (.ref a1), .val (.ref a2)] [(.ref a2), (.ref a1)])) rfl (by rw [hml]; rfl) (Steps.refl _) (a := a1) (argsL := [(.ref a2)]) (rest := []) (lenOf own_pdS rfl) rfl (by show 2 * 0 + _ ≤ _; exact Nat.le_of_eq rfl) (hb hby d8_2) (fun _ _ => ⟨rfl, e0, (by decide : 0 + 1 ≤ _), (by decide : 0 + 2752 ≤ _)⟩)
  dsimp only [Pt.U, Pt.locs, Pt.cells, Pt.slots] at X3 l3 y3 z3 st3 hQ3
  subst l3 y3 z3
  obtain ⟨rfl, N3, Kp3⟩ := hQ3
  obtain ⟨fs, hr, hrun, hended, hW, hsame⟩ := X3.leave (v := none) (fun _ => rfl)
  refine ⟨_, _, pre0 _ ?_, hrun, hended, _, _, rfl, ?_, ⟨_, rfl⟩, hW, hsame.mono (by decide) (by decide)⟩
  · show Steps p.tables e below (s₁.setTop (mkF m 0 #[.val (.ref a1), .val (.ref a2)] [])) _
    refine XS.aloadN X0.here hx rfl (hb hby d8_0) rfl rfl ?_
    show Steps p.tables e below (s₁.setTop (mkF m 1 #[.val (.ref a1), .val (.ref a2)] [(.ref a1)])) _
    refine XS.aloadN X0.here hx rfl (hb hby d8_1) rfl rfl ?_
    show Steps p.tables e below (s₁.setTop (mkF m 2 #[.val (.ref a1), .val (.ref a2)] [(.ref a2), (.ref a1)])) _
    refine st3.trans ?_
    show Steps p.tables e below (T3.setTop (mkF m 5 #[.val (.ref a1), .val (.ref a2)] [])) _
    exact X3.returnOut hx Bd.returns (hb hby d8_5) hr
  · show Q8 Z a1 h0 n0 _ T3.heap _
    exact ⟨rfl, Fr.app (Fr.nil n0) N3, Kp3⟩
theorem d1_0 : decode method_2_code 0 = .ok (.iload_n 1, 1) := by decide +kernel
theorem d1_1 : decode method_2_code 1 = .ok (.ifCond .eq 5, 3) := by decide +kernel
theorem d1_4 : decode method_2_code 4 = .ok (.aconst_null, 1) := by decide +kernel
theorem d1_5 : decode method_2_code 5 = .ok (.areturn, 1) := by decide +kernel
theorem pn_1 : plainName "nephrite/EvaluationExceptionOnPinLaw" = true := by first | (simp [plainName, overriddenIn]; done) | decide +kernel
theorem ef_1 (m : MethodId) (x0 : Int32) (x1 : Int32) : entryFrame m #[(.int x0), (.int x1)] 2 = mkF m 0 #[.val (.int x0), .val (.int x1)] [] := by first | (simp [entryFrame, mkF, argsToLocals, Value.category]; done) | rfl
def Q1n (Z : State) (p1 : Int32) (p2 : Int32) (h0 : Heap) (n0 : Nat) (v : Option Value) (h : Heap) (L : List Loc) : Prop := v = some .null ∧ Fr n0 L ∧ h = h0
set_option maxRecDepth 65536 in
set_option maxHeartbeats 40000000 in
theorem rm1n (l : Launch) (Z : State) (a0 : Array Value) (hw : ∀ d ∈ tables_1, d.before a0 Z = true) (ws : List Jvm.Cond) (p1 : Int32) (p2 : Int32) (h0 : Heap) (n0 : Nat) (Z0 : n0 ≤ h0.size) (hc1 : ¬ (p2 = (0 : Int32))) :
    MetFree l (⟨"nephrite/EvaluationExceptionOnPinLaw", "name", "(IZ)Ljava/lang/String;"⟩ : MethodName) (head1 (Jvm.Cond.code (⟨"nephrite/EvaluationExceptionOnPinLaw", "name", "(IZ)Ljava/lang/String;"⟩ : MethodName) method_2_code 2 (some (.object "java/lang/String")) :: ws) ({ frames := 0, cells := 0, slots := 0, locals := 0 } : Room)) (fun a U => a = #[(.int p1), (.int p2)] ∧ Z.Warmed39 U.vm ∧ U.heap = h0) (fun _ _ _ _ _ => True) (fun _ U o U' => ∃ v L, o = .returned v ∧ Q1n Z p1 p2 h0 n0 v U'.heap L ∧ FrameEnd U o U' L ({ frames := 0, cells := 0, slots := 0, locals := 0 } : Room).cells ({ frames := 0, cells := 0, slots := 0, locals := 0 } : Room).slots) := by
  refine MetFree.of_bodySF (plainFor_of_name pn_1) hisR ?_
  intro p e s m args below meth c s₁ Bd hml0 hP hK
  obtain ⟨rfl, hZ, hh⟩ := hP
  have hx := Bd.exec
  have hby := Bd.bytes
  have hml : c.maxLocals = 2 := hml0
  have hown : s.vm.findClass "nephrite/EvaluationExceptionOnPinLaw" = some m.cls := findClass_of_methodNamed Bd.named
  have hnm := (name_of_methodNamed Bd.named Bd.method).1
  have X0 : Stand p l e ({ frames := 0, cells := 0, slots := 0, locals := 0 } : Room) s m #[(.int p1), (.int p2)] below meth c s₁ [] 0 0 := Stand.of_body Bd
  have e0 : s₁.heap = h0 := by rw [← hh, Bd.state]; rfl
  have N0 := Fr.nil n0
  have pre0 : ∀ t, Steps p.tables e below (s₁.setTop (mkF m 0 #[.val (.int p1), .val (.int p2)] [])) t → Steps p.tables e below (s₁.setTop (entryFrame m #[(.int p1), (.int p2)] 2)) t := fun t k => castTop (ef_1 m p1 p2) k

  obtain ⟨fs, hr, hrun, hended, hW, hsame⟩ := X0.leave (v := some .null) (fun h => by rw [Bd.returns] at h; cases h)
  refine ⟨_, _, pre0 _ ?_, hrun, hended, _, _, rfl, ?_, ⟨_, rfl⟩, hW, hsame.mono (by decide) (by decide)⟩
  · show Steps p.tables e below (s₁.setTop (mkF m 0 #[.val (.int p1), .val (.int p2)] [])) _
    refine XS.iloadN X0.here hx rfl (hb hby d1_0) rfl ?_
    show Steps p.tables e below (s₁.setTop (mkF m 1 #[.val (.int p1), .val (.int p2)] [(.int p2)])) _
    refine XS.ifNo X0.here hx rfl (hb hby d1_1) rfl ((if0 _ _).trans (feq hc1).1) ?_
    show Steps p.tables e below (s₁.setTop (mkF m 4 #[.val (.int p1), .val (.int p2)] [])) _
    refine XS.aconstNull X0.here hx rfl (hb hby d1_4) ?_
    show Steps p.tables e below (s₁.setTop (mkF m 5 #[.val (.int p1), .val (.int p2)] [.null])) _
    jvm_step X0.here [X0.here.top, hx, (hb hby d1_5), X0.method', Bd.returns, Value.isRef, FieldType.isReference]
    first | (intro acts; rw [hr _ acts rfl rfl rfl]) | rw [hr _ _ rfl rfl rfl]
    exact Steps.refl _
  · show Q1n Z p1 p2 h0 n0 _ s₁.heap _
    rw [e0]
    exact ⟨rfl, N0, rfl⟩
theorem d1_6 : decode method_2_code 6 = .ok (.new 7, 3) := by decide +kernel
theorem d1_9 : decode method_2_code 9 = .ok (.dup, 1) := by decide +kernel
theorem d1_10 : decode method_2_code 10 = .ok (.iconst 1, 1) := by decide +kernel
theorem d1_11 : decode method_2_code 11 = .ok (.newarray .char, 2) := by decide +kernel
theorem d1_13 : decode method_2_code 13 = .ok (.dup, 1) := by decide +kernel
theorem d1_14 : decode method_2_code 14 = .ok (.iconst 0, 1) := by decide +kernel
theorem d1_15 : decode method_2_code 15 = .ok (.iload_n 0, 1) := by decide +kernel
theorem d1_16 : decode method_2_code 16 = .ok (.sipush 255, 3) := by decide +kernel
theorem d1_19 : decode method_2_code 19 = .ok (.iand, 1) := by decide +kernel
theorem d1_20 : decode method_2_code 20 = .ok (.i2c, 1) := by decide +kernel
theorem d1_21 : decode method_2_code 21 = .ok (.castore, 1) := by decide +kernel
theorem d1_22 : decode method_2_code 22 = .ok (.invokespecial 9, 3) := by decide +kernel
theorem d1_25 : decode method_2_code 25 = .ok (.areturn, 1) := by decide +kernel
theorem pd_1_1 : parseMethodDescriptor "([C)V" = some ⟨[(.array .char)], none⟩ := by decide +kernel
def Q1 (Z : State) (p1 : Int32) (p2 : Int32) (zc : Int32) (h0 : Heap) (n0 : Nat) (v : Option Value) (h : Heap) (L : List Loc) : Prop := ∃ b : Addr, v = some (.ref b) ∧ Fr n0 L ∧ Keep h0 h [] ∧ n0 ≤ b ∧ h0.size ≤ b ∧ Exa Z h b "java/lang/String"
set_option maxRecDepth 65536 in
set_option maxHeartbeats 40000000 in
theorem rm1 (l : Launch) (Z : State) (a0 : Array Value) (hw : ∀ d ∈ tables_1, d.before a0 Z = true) (ws : List Jvm.Cond) (p1 : Int32) (p2 : Int32) (zc : Int32) (h0 : Heap) (n0 : Nat) (Z0 : n0 ≤ h0.size) (S_cs : Sta Z Z.heap "java/lang/String" "COMPACT_STRINGS" "Z" (.int zc)) (hcs : ¬ zc = (0 : Int32)) (O0 : Old Z n0 h0) (hc1 : p2 = (0 : Int32)) :
    MetFree l (⟨"nephrite/EvaluationExceptionOnPinLaw", "name", "(IZ)Ljava/lang/String;"⟩ : MethodName) (head1 (Jvm.Cond.code (⟨"nephrite/EvaluationExceptionOnPinLaw", "name", "(IZ)Ljava/lang/String;"⟩ : MethodName) method_2_code 2 (some (.object "java/lang/String")) :: ws) ({ frames := 4, cells := 3, slots := 6, locals := 66 } : Room)) (fun a U => a = #[(.int p1), (.int p2)] ∧ Z.Warmed39 U.vm ∧ U.heap = h0) (fun _ _ _ _ _ => True) (fun _ U o U' => ∃ v L, o = .returned v ∧ Q1 Z p1 p2 zc h0 n0 v U'.heap L ∧ FrameEnd U o U' L ({ frames := 4, cells := 3, slots := 6, locals := 66 } : Room).cells ({ frames := 4, cells := 3, slots := 6, locals := 66 } : Room).slots) := by
  refine MetFree.of_bodySF (plainFor_of_name pn_1) hisR ?_
  intro p e s m args below meth c s₁ Bd hml0 hP hK
  obtain ⟨rfl, hZ, hh⟩ := hP
  have hx := Bd.exec
  have hby := Bd.bytes
  have hml : c.maxLocals = 2 := hml0
  have hown : s.vm.findClass "nephrite/EvaluationExceptionOnPinLaw" = some m.cls := findClass_of_methodNamed Bd.named
  have hnm := (name_of_methodNamed Bd.named Bd.method).1
  have X0 : Stand p l e ({ frames := 4, cells := 3, slots := 6, locals := 66 } : Room) s m #[(.int p1), (.int p2)] below meth c s₁ [] 0 0 := Stand.of_body Bd
  have e0 : s₁.heap = h0 := by rw [← hh, Bd.state]; rfl
  have N0 := Fr.nil n0
  have pre0 : ∀ t, Steps p.tables e below (s₁.setTop (mkF m 0 #[.val (.int p1), .val (.int p2)] [])) t → Steps p.tables e below (s₁.setTop (entryFrame m #[(.int p1), (.int p2)] 2)) t := fun t k => castTop (ef_1 m p1 p2) k
  obtain ⟨T3, h3, X3, e3, E3, A3, D3, U3, st3⟩ := newO X0 hx hZ hown (hw _ (List.mem_of_getElem? (i := 4) rfl)) (hw _ (List.mem_of_getElem? (i := 5) rfl)) (hw _ (List.mem_of_getElem? (i := 6) rfl)) e0 (g := (mkF m 6 #[.val (.int p1), .val (.int p2)] [])) rfl (hb hby d1_6) (by decide) (by decide)
  obtain ⟨b3, g3⟩ : ∃ z, z = h0.size := ⟨_, rfl⟩
  rw [← g3] at A3 D3 st3
  have F_coder_b3 : Fld Z h3 b3 "java/lang/String" "coder" "B" (.int (0 : Int32)) := D3 (Or.inr (hw _ (List.mem_of_getElem? (i := 31) rfl))) (ty := .byte) (by decide)
  have F_value_b3 : Fld Z h3 b3 "java/lang/String" "value" "[B" .null := D3 (Or.inr (hw _ (List.mem_of_getElem? (i := 33) rfl))) (ty := (.array .byte)) (by decide)
  have E_b3 := A3
  have g_b3 : n0 ≤ b3 := Nat.le_trans Z0 (Nat.le_of_eq g3.symm)
  have sz_b3 : h0.size ≤ b3 := (Nat.le_trans (Keep.refl h0 []).1 (Nat.le_of_eq g3.symm))
  have K3 : Keep h0 h3 [] := (Keep.refl h0 []).ext E3
  obtain ⟨T4, h4, k4, X4, e4, E4, A4, st4⟩ := newP X3 hx hZ (hw _ (List.mem_of_getElem? (i := 7) rfl)) e3 (g := (mkF m 11 #[.val (.int p1), .val (.int p2)] [(.int (1 : Int32)), (.ref b3), (.ref b3)])) rfl (hb hby d1_11) rfl (by decide) (cap := 1) (by decide) (by decide) (by decide) (by decide)
  obtain ⟨b4, g4⟩ : ∃ z, z = h3.size := ⟨_, rfl⟩
  rw [← g4] at A4 st4
  have V_b4 : Arv Z h4 b4 k4 .char (1 : Int32) [(.int (0 : Int32))] (.int (0 : Int32)) := (Arv.new A4 (by decide)).pad (pad_rep [] (.int (0 : Int32)) 1)
  have g_b4 : n0 ≤ b4 := Nat.le_trans (Nat.le_trans Z0 E3.1) (Nat.le_of_eq g4.symm)
  have sz_b4 : h0.size ≤ b4 := (Nat.le_trans K3.1 (Nat.le_of_eq g4.symm))
  have K4 : Keep h0 h4 [] := K3.ext E4
  obtain ⟨cl_b4_21, Ar_b4, q_b4, S_b4, N_b4, H_b4, G_b4⟩ := V_b4
  have hin21 : ¬ ((0 : Int32) < 0 ∨ cl_b4_21.slots.size ≤ ((0 : Int32)).toNatClampNeg) := inb_of S_b4 ⟨by decide, by decide⟩
  obtain ⟨T5, h5, X5, e5, W5, st5⟩ := stC X4 hx hZ e4 Ar_b4 (j := (0 : Int32)) hin21 (g := (mkF m 21 #[.val (.int p1), .val (.int p2)] [(.int ((p1 &&& (255 : Int32)).toUInt32.toUInt16.toUInt32.toInt32)), (.int (0 : Int32)), (.ref b4), (.ref b4), (.ref b3), (.ref b3)])) rfl rfl (hb hby d1_21)
  have V_b4_5 := Arv.set Ar_b4 q_b4 S_b4 N_b4 H_b4 G_b4 (fits_nar_char _) W5 0 rfl (Nat.le_of_ble_eq_true rfl)
  have K5 : Keep h0 h5 [] := K4.wr W5 (Or.inr sz_b4)
  have N5 := Fr.snoc X5 N0 g_b4
  have hws : ∀ d ∈ StrChars.Road.words, d.before a0 Z = true := fun d hd => hw d ((by decide +kernel : ∀ d ∈ StrChars.Road.words, d ∈ tables_1) d hd)
  have Vs6 : Arv Z h5 b4 k4 .char (1 : Int32) (([(nar .char ((p1 &&& (255 : Int32)).toUInt32.toUInt16.toUInt32.toInt32))] : List Int32).map Value.int) (.int (0 : Int32)) := V_b4_5
  have hp6 : ∀ c ∈ ([(nar .char ((p1 &&& (255 : Int32)).toUInt32.toUInt16.toUInt32.toInt32))] : List Int32), ¬ c < 0 ∧ ¬ (255 : Int32) < c := by
    intro c hc
    simp only [List.mem_cons, List.not_mem_nil, or_false] at hc
    rcases hc with rfl
    · exact own_c255 _
  obtain ⟨_, _, ⟨T6, L6, k6, n6⟩, -, X6, ⟨Lc6, hQ6, l6, y6, z6⟩, st6⟩ := X5.specialBack hx (y := (⟨"java/lang/String", "<init>", "([C)V"⟩ : MethodName)) rfl hown (mvT hZ (hw _ (List.mem_of_getElem? (i := 8) rfl))) (mvT hZ (hw _ (List.mem_of_getElem? (i := 9) rfl))) (mvT hZ (hw _ (List.mem_of_getElem? (i := 10) rfl))) (by decide) (StrChars.Road.backV (W := 1) hZ hws (kI := 4) (hw _ (List.mem_of_getElem? (i := 5) rfl)) (cs := ([(nar .char ((p1 &&& (255 : Int32)).toUInt32.toUInt16.toUInt32.toInt32))] : List Int32)) (bs := ([(nar .char ((p1 &&& (255 : Int32)).toUInt32.toUInt16.toUInt32.toInt32))] : List Int32).map (fun c => c.toInt8.toInt32)) (n := 1) g_b3 (Nat.le_trans (Nat.le_trans (Nat.le_trans Z0 E3.1) E4.1) (Keep.of_wr W5).1) ((E_b3.ext E4).wr W5) ((F_value_b3.ext E4).other W5 (Or.inl (Nat.ne_of_lt (Nat.lt_of_lt_of_le E_b3.lt (Nat.le_of_eq g4.symm))))) ((F_coder_b3.ext E4).other W5 (Or.inl (Nat.ne_of_lt (Nat.lt_of_lt_of_le E_b3.lt (Nat.le_of_eq g4.symm))))) Vs6 (S_cs.ext (O0.keep K5 all0).2) hcs rfl rfl (by decide) (by decide) hp6 rfl (by decide) (by decide)) (g := (mkF m 22 #[.val (.int p1), .val (.int p2)] [(.ref b4), (.ref b3), (.ref b3)])) rfl (by rw [hml]; rfl) (Steps.refl _) (a := b3) (argsL := [(.ref b4)]) (rest := [(.ref b3)]) (lenOf pd_1_1 rfl) rfl (by show 2 * 0 + _ ≤ _; exact Nat.le_of_eq rfl) (hb hby d1_22) (fun _ _ => ⟨rfl, e5, (by decide : 2 + 1 ≤ _), (by decide : 5 + 1 ≤ _)⟩)
  dsimp only [Pt.U, Pt.locs, Pt.cells, Pt.slots] at X6 l6 y6 z6 st6 hQ6
  subst l6 y6 z6
  obtain ⟨rfl, N6q, K6c, Ec6, Fc6_0, t6, kb6, g_t6, s6b, ne6, Fc6_1, Vt6⟩ := hQ6
  have N6 := Fr.app N5 N6q
  have sz_t6 : h0.size ≤ t6 := Nat.le_trans K5.1 s6b
  have K6 : Keep h0 T6.heap [] := K5.trans K6c (allS (Or.inr sz_b3) all0)
  obtain ⟨fs, hr, hrun, hended, hW, hsame⟩ := X6.leave (v := some (.ref b3)) (fun h => by rw [Bd.returns] at h; cases h)
  refine ⟨_, _, pre0 _ ?_, hrun, hended, _, _, rfl, ?_, ⟨_, rfl⟩, hW, hsame.mono (by decide) (by decide)⟩
  · show Steps p.tables e below (s₁.setTop (mkF m 0 #[.val (.int p1), .val (.int p2)] [])) _
    refine XS.iloadN X0.here hx rfl (hb hby d1_0) rfl ?_
    show Steps p.tables e below (s₁.setTop (mkF m 1 #[.val (.int p1), .val (.int p2)] [(.int p2)])) _
    refine XS.ifYes X0.here hx rfl (pc0 := 1) (pc' := 6) rfl (hb hby d1_1) rfl ((if0 _ _).trans (teq hc1).1) (by decide) (by decide) ?_
    show Steps p.tables e below (s₁.setTop (mkF m 6 #[.val (.int p1), .val (.int p2)] [])) _
    refine st3 _ ?_
    show Steps p.tables e below (T3.setTop (mkF m 9 #[.val (.int p1), .val (.int p2)] [(.ref b3)])) _
    refine XS.dup X3.here hx rfl (hb hby d1_9) rfl rfl ?_
    show Steps p.tables e below (T3.setTop (mkF m 10 #[.val (.int p1), .val (.int p2)] [(.ref b3), (.ref b3)])) _
    refine XS.iconst X3.here hx rfl (hb hby d1_10) ?_
    show Steps p.tables e below (T3.setTop (mkF m 11 #[.val (.int p1), .val (.int p2)] [(.int (1 : Int32)), (.ref b3), (.ref b3)])) _
    refine st4 _ ?_
    show Steps p.tables e below (T4.setTop (mkF m 13 #[.val (.int p1), .val (.int p2)] [(.ref b4), (.ref b3), (.ref b3)])) _
    refine XS.dup X4.here hx rfl (hb hby d1_13) rfl rfl ?_
    show Steps p.tables e below (T4.setTop (mkF m 14 #[.val (.int p1), .val (.int p2)] [(.ref b4), (.ref b4), (.ref b3), (.ref b3)])) _
    refine XS.iconst X4.here hx rfl (hb hby d1_14) ?_
    show Steps p.tables e below (T4.setTop (mkF m 15 #[.val (.int p1), .val (.int p2)] [(.int (0 : Int32)), (.ref b4), (.ref b4), (.ref b3), (.ref b3)])) _
    refine XS.iloadN X4.here hx rfl (hb hby d1_15) rfl ?_
    show Steps p.tables e below (T4.setTop (mkF m 16 #[.val (.int p1), .val (.int p2)] [(.int p1), (.int (0 : Int32)), (.ref b4), (.ref b4), (.ref b3), (.ref b3)])) _
    refine XS.sipush X4.here hx rfl (hb hby d1_16) ?_
    show Steps p.tables e below (T4.setTop (mkF m 19 #[.val (.int p1), .val (.int p2)] [(.int (255 : Int32)), (.int p1), (.int (0 : Int32)), (.ref b4), (.ref b4), (.ref b3), (.ref b3)])) _
    refine XS.iand X4.here hx rfl (hb hby d1_19) rfl ?_
    show Steps p.tables e below (T4.setTop (mkF m 20 #[.val (.int p1), .val (.int p2)] [(.int (p1 &&& (255 : Int32))), (.int (0 : Int32)), (.ref b4), (.ref b4), (.ref b3), (.ref b3)])) _
    refine XS.i2c X4.here hx rfl (hb hby d1_20) rfl ?_
    show Steps p.tables e below (T4.setTop (mkF m 21 #[.val (.int p1), .val (.int p2)] [(.int ((p1 &&& (255 : Int32)).toUInt32.toUInt16.toUInt32.toInt32)), (.int (0 : Int32)), (.ref b4), (.ref b4), (.ref b3), (.ref b3)])) _
    refine st5 _ ?_
    show Steps p.tables e below (T5.setTop (mkF m 22 #[.val (.int p1), .val (.int p2)] [(.ref b4), (.ref b3), (.ref b3)])) _
    refine st6.trans ?_
    show Steps p.tables e below (T6.setTop (mkF m 25 #[.val (.int p1), .val (.int p2)] [(.ref b3)])) _
    jvm_step X6.here [X6.here.top, hx, (hb hby d1_25), X6.method', Bd.returns, Value.isRef, FieldType.isReference]
    first | (intro acts; rw [hr _ acts rfl rfl rfl]) | rw [hr _ _ rfl rfl rfl]
    exact Steps.refl _
  · show Q1 Z p1 p2 zc h0 n0 _ T6.heap _
    exact ⟨b3, rfl, N6, K6, g_b3, sz_b3, Ec6⟩
theorem d14_0 : decode prog_36_method_5_code 0 = .ok (.aload_n 0, 1) := by decide +kernel
theorem d14_1 : decode prog_36_method_5_code 1 = .ok (.getfield 10, 3) := by decide +kernel
theorem d14_4 : decode prog_36_method_5_code 4 = .ok (.ireturn, 1) := by decide +kernel
theorem pn_14 : plainName "nephrite/EvaluationException" = true := by first | (simp [plainName, overriddenIn]; done) | decide +kernel
theorem ef_14 (m : MethodId) (x0 : Addr) : entryFrame m #[(.ref x0)] 1 = mkF m 0 #[.val (.ref x0)] [] := by first | (simp [entryFrame, mkF, argsToLocals, Value.category]; done) | rfl
def Q14 (Z : State) (a1 : Addr) (w2 : Int32) (h0 : Heap) (n0 : Nat) (v : Option Value) (h : Heap) (L : List Loc) : Prop := v = some (.int w2) ∧ Fr n0 L ∧ h = h0
set_option maxRecDepth 65536 in
set_option maxHeartbeats 40000000 in
theorem rm14 (l : Launch) (Z : State) (a0 : Array Value) (hw : ∀ d ∈ tables_1, d.before a0 Z = true) (ws : List Jvm.Cond) (a1 : Addr) (w2 : Int32) (h0 : Heap) (n0 : Nat) (Z0 : n0 ≤ h0.size) (F_line_a1 : Fld Z h0 a1 "nephrite/EvaluationException" "line" "I" (.int w2)) :
    MetFree l (⟨"nephrite/EvaluationException", "line", "()I"⟩ : MethodName) (head1 (Jvm.Cond.code (⟨"nephrite/EvaluationException", "line", "()I"⟩ : MethodName) prog_36_method_5_code 1 (some .int) :: ws) ({ frames := 0, cells := 0, slots := 0, locals := 0 } : Room)) (fun a U => a = #[(.ref a1)] ∧ Z.Warmed39 U.vm ∧ U.heap = h0) (fun _ _ _ _ _ => True) (fun _ U o U' => ∃ v L, o = .returned v ∧ Q14 Z a1 w2 h0 n0 v U'.heap L ∧ FrameEnd U o U' L ({ frames := 0, cells := 0, slots := 0, locals := 0 } : Room).cells ({ frames := 0, cells := 0, slots := 0, locals := 0 } : Room).slots) := by
  refine MetFree.of_bodySF (plainFor_of_name pn_14) hisR ?_
  intro p e s m args below meth c s₁ Bd hml0 hP hK
  obtain ⟨rfl, hZ, hh⟩ := hP
  have hx := Bd.exec
  have hby := Bd.bytes
  have hml : c.maxLocals = 1 := hml0
  have hown : s.vm.findClass "nephrite/EvaluationException" = some m.cls := findClass_of_methodNamed Bd.named
  have hnm := (name_of_methodNamed Bd.named Bd.method).1
  have X0 : Stand p l e ({ frames := 0, cells := 0, slots := 0, locals := 0 } : Room) s m #[(.ref a1)] below meth c s₁ [] 0 0 := Stand.of_body Bd
  have e0 : s₁.heap = h0 := by rw [← hh, Bd.state]; rfl
  have N0 := Fr.nil n0
  have pre0 : ∀ t, Steps p.tables e below (s₁.setTop (mkF m 0 #[.val (.ref a1)] [])) t → Steps p.tables e below (s₁.setTop (entryFrame m #[(.ref a1)] 1)) t := fun t k => castTop (ef_14 m a1) k
  obtain ⟨T3, X3, e3, st3⟩ := getF X0 hx hZ hown (host := "") (Or.inl (hw _ (List.mem_of_getElem? (i := 102) rfl))) Via.refl e0 F_line_a1 (g := (mkF m 1 #[.val (.ref a1)] [(.ref a1)])) rfl rfl (hb hby d14_1)
  obtain ⟨fs, hr, hrun, hended, hW, hsame⟩ := X3.leave (v := some (.int w2)) (fun h => by rw [Bd.returns] at h; cases h)
  refine ⟨_, _, pre0 _ ?_, hrun, hended, _, _, rfl, ?_, ⟨_, rfl⟩, hW, hsame.mono (by decide) (by decide)⟩
  · show Steps p.tables e below (s₁.setTop (mkF m 0 #[.val (.ref a1)] [])) _
    refine XS.aloadN X0.here hx rfl (hb hby d14_0) rfl rfl ?_
    show Steps p.tables e below (s₁.setTop (mkF m 1 #[.val (.ref a1)] [(.ref a1)])) _
    refine st3 _ ?_
    show Steps p.tables e below (T3.setTop (mkF m 4 #[.val (.ref a1)] [(.int w2)])) _
    exact retI X3 hx Bd.returns (hb hby d14_4) hr
  · show Q14 Z a1 w2 h0 n0 _ T3.heap _
    rw [e3]
    exact ⟨rfl, N0, rfl⟩
theorem d15_0 : decode prog_36_method_4_code 0 = .ok (.aload_n 0, 1) := by decide +kernel
theorem d15_1 : decode prog_36_method_4_code 1 = .ok (.getfield 16, 3) := by decide +kernel
theorem d15_4 : decode prog_36_method_4_code 4 = .ok (.areturn, 1) := by decide +kernel
theorem pn_15 : plainName "nephrite/EvaluationException" = true := by first | (simp [plainName, overriddenIn]; done) | decide +kernel
theorem ef_15 (m : MethodId) (x0 : Addr) : entryFrame m #[(.ref x0)] 1 = mkF m 0 #[.val (.ref x0)] [] := by first | (simp [entryFrame, mkF, argsToLocals, Value.category]; done) | rfl
def Q15 (Z : State) (a1 : Addr) (w2 : Addr) (h0 : Heap) (n0 : Nat) (v : Option Value) (h : Heap) (L : List Loc) : Prop := v = some (.ref w2) ∧ Fr n0 L ∧ h = h0
set_option maxRecDepth 65536 in
set_option maxHeartbeats 40000000 in
theorem rm15 (l : Launch) (Z : State) (a0 : Array Value) (hw : ∀ d ∈ tables_1, d.before a0 Z = true) (ws : List Jvm.Cond) (a1 : Addr) (w2 : Addr) (h0 : Heap) (n0 : Nat) (Z0 : n0 ≤ h0.size) (F_templateName_a1 : Fld Z h0 a1 "nephrite/EvaluationException" "templateName" "Ljava/lang/String;" (.ref w2)) :
    MetFree l (⟨"nephrite/EvaluationException", "templateName", "()Ljava/lang/String;"⟩ : MethodName) (head1 (Jvm.Cond.code (⟨"nephrite/EvaluationException", "templateName", "()Ljava/lang/String;"⟩ : MethodName) prog_36_method_4_code 1 (some (.object "java/lang/String")) :: ws) ({ frames := 0, cells := 0, slots := 0, locals := 0 } : Room)) (fun a U => a = #[(.ref a1)] ∧ Z.Warmed39 U.vm ∧ U.heap = h0) (fun _ _ _ _ _ => True) (fun _ U o U' => ∃ v L, o = .returned v ∧ Q15 Z a1 w2 h0 n0 v U'.heap L ∧ FrameEnd U o U' L ({ frames := 0, cells := 0, slots := 0, locals := 0 } : Room).cells ({ frames := 0, cells := 0, slots := 0, locals := 0 } : Room).slots) := by
  refine MetFree.of_bodySF (plainFor_of_name pn_15) hisR ?_
  intro p e s m args below meth c s₁ Bd hml0 hP hK
  obtain ⟨rfl, hZ, hh⟩ := hP
  have hx := Bd.exec
  have hby := Bd.bytes
  have hml : c.maxLocals = 1 := hml0
  have hown : s.vm.findClass "nephrite/EvaluationException" = some m.cls := findClass_of_methodNamed Bd.named
  have hnm := (name_of_methodNamed Bd.named Bd.method).1
  have X0 : Stand p l e ({ frames := 0, cells := 0, slots := 0, locals := 0 } : Room) s m #[(.ref a1)] below meth c s₁ [] 0 0 := Stand.of_body Bd
  have e0 : s₁.heap = h0 := by rw [← hh, Bd.state]; rfl
  have N0 := Fr.nil n0
  have pre0 : ∀ t, Steps p.tables e below (s₁.setTop (mkF m 0 #[.val (.ref a1)] [])) t → Steps p.tables e below (s₁.setTop (entryFrame m #[(.ref a1)] 1)) t := fun t k => castTop (ef_15 m a1) k
  obtain ⟨T3, X3, e3, st3⟩ := getF X0 hx hZ hown (host := "") (Or.inl (hw _ (List.mem_of_getElem? (i := 109) rfl))) Via.refl e0 F_templateName_a1 (g := (mkF m 1 #[.val (.ref a1)] [(.ref a1)])) rfl rfl (hb hby d15_1)
  obtain ⟨fs, hr, hrun, hended, hW, hsame⟩ := X3.leave (v := some (.ref w2)) (fun h => by rw [Bd.returns] at h; cases h)
  refine ⟨_, _, pre0 _ ?_, hrun, hended, _, _, rfl, ?_, ⟨_, rfl⟩, hW, hsame.mono (by decide) (by decide)⟩
  · show Steps p.tables e below (s₁.setTop (mkF m 0 #[.val (.ref a1)] [])) _
    refine XS.aloadN X0.here hx rfl (hb hby d15_0) rfl rfl ?_
    show Steps p.tables e below (s₁.setTop (mkF m 1 #[.val (.ref a1)] [(.ref a1)])) _
    refine st3 _ ?_
    show Steps p.tables e below (T3.setTop (mkF m 4 #[.val (.ref a1)] [(.ref w2)])) _
    jvm_step X3.here [X3.here.top, hx, (hb hby d15_4), X3.method', Bd.returns, Value.isRef, FieldType.isReference]
    first | (intro acts; rw [hr _ acts rfl rfl rfl]) | rw [hr _ _ rfl rfl rfl]
    exact Steps.refl _
  · show Q15 Z a1 w2 h0 n0 _ T3.heap _
    rw [e3]
    exact ⟨rfl, N0, rfl⟩
def Q15n (Z : State) (a1 : Addr) (h0 : Heap) (n0 : Nat) (v : Option Value) (h : Heap) (L : List Loc) : Prop := v = some .null ∧ Fr n0 L ∧ h = h0
set_option maxRecDepth 65536 in
set_option maxHeartbeats 40000000 in
theorem rm15n (l : Launch) (Z : State) (a0 : Array Value) (hw : ∀ d ∈ tables_1, d.before a0 Z = true) (ws : List Jvm.Cond) (a1 : Addr) (h0 : Heap) (n0 : Nat) (Z0 : n0 ≤ h0.size) (F_templateName_a1 : Fld Z h0 a1 "nephrite/EvaluationException" "templateName" "Ljava/lang/String;" .null) :
    MetFree l (⟨"nephrite/EvaluationException", "templateName", "()Ljava/lang/String;"⟩ : MethodName) (head1 (Jvm.Cond.code (⟨"nephrite/EvaluationException", "templateName", "()Ljava/lang/String;"⟩ : MethodName) prog_36_method_4_code 1 (some (.object "java/lang/String")) :: ws) ({ frames := 0, cells := 0, slots := 0, locals := 0 } : Room)) (fun a U => a = #[(.ref a1)] ∧ Z.Warmed39 U.vm ∧ U.heap = h0) (fun _ _ _ _ _ => True) (fun _ U o U' => ∃ v L, o = .returned v ∧ Q15n Z a1 h0 n0 v U'.heap L ∧ FrameEnd U o U' L ({ frames := 0, cells := 0, slots := 0, locals := 0 } : Room).cells ({ frames := 0, cells := 0, slots := 0, locals := 0 } : Room).slots) := by
  refine MetFree.of_bodySF (plainFor_of_name pn_15) hisR ?_
  intro p e s m args below meth c s₁ Bd hml0 hP hK
  obtain ⟨rfl, hZ, hh⟩ := hP
  have hx := Bd.exec
  have hby := Bd.bytes
  have hml : c.maxLocals = 1 := hml0
  have hown : s.vm.findClass "nephrite/EvaluationException" = some m.cls := findClass_of_methodNamed Bd.named
  have hnm := (name_of_methodNamed Bd.named Bd.method).1
  have X0 : Stand p l e ({ frames := 0, cells := 0, slots := 0, locals := 0 } : Room) s m #[(.ref a1)] below meth c s₁ [] 0 0 := Stand.of_body Bd
  have e0 : s₁.heap = h0 := by rw [← hh, Bd.state]; rfl
  have N0 := Fr.nil n0
  have pre0 : ∀ t, Steps p.tables e below (s₁.setTop (mkF m 0 #[.val (.ref a1)] [])) t → Steps p.tables e below (s₁.setTop (entryFrame m #[(.ref a1)] 1)) t := fun t k => castTop (ef_15 m a1) k
  obtain ⟨T3, X3, e3, st3⟩ := getF X0 hx hZ hown (host := "") (Or.inl (hw _ (List.mem_of_getElem? (i := 109) rfl))) Via.refl e0 F_templateName_a1 (g := (mkF m 1 #[.val (.ref a1)] [(.ref a1)])) rfl rfl (hb hby d15_1)
  obtain ⟨fs, hr, hrun, hended, hW, hsame⟩ := X3.leave (v := some .null) (fun h => by rw [Bd.returns] at h; cases h)
  refine ⟨_, _, pre0 _ ?_, hrun, hended, _, _, rfl, ?_, ⟨_, rfl⟩, hW, hsame.mono (by decide) (by decide)⟩
  · show Steps p.tables e below (s₁.setTop (mkF m 0 #[.val (.ref a1)] [])) _
    refine XS.aloadN X0.here hx rfl (hb hby d15_0) rfl rfl ?_
    show Steps p.tables e below (s₁.setTop (mkF m 1 #[.val (.ref a1)] [(.ref a1)])) _
    refine st3 _ ?_
    show Steps p.tables e below (T3.setTop (mkF m 4 #[.val (.ref a1)] [.null])) _
    jvm_step X3.here [X3.here.top, hx, (hb hby d15_4), X3.method', Bd.returns, Value.isRef, FieldType.isReference]
    first | (intro acts; rw [hr _ acts rfl rfl rfl]) | rw [hr _ _ rfl rfl rfl]
    exact Steps.refl _
  · show Q15n Z a1 h0 n0 _ T3.heap _
    rw [e3]
    exact ⟨rfl, N0, rfl⟩
theorem d16_0 : decode prog_36_method_3_code 0 = .ok (.aload_n 0, 1) := by decide +kernel
theorem d16_1 : decode prog_36_method_3_code 1 = .ok (.getfield 10, 3) := by decide +kernel
theorem d16_4 : decode prog_36_method_3_code 4 = .ok (.ifCond .ne 13, 3) := by decide +kernel
theorem d16_7 : decode prog_36_method_3_code 7 = .ok (.aload_n 0, 1) := by decide +kernel
theorem d16_8 : decode prog_36_method_3_code 8 = .ok (.aload_n 1, 1) := by decide +kernel
theorem d16_9 : decode prog_36_method_3_code 9 = .ok (.putfield 16, 3) := by decide +kernel
theorem d16_12 : decode prog_36_method_3_code 12 = .ok (.aload_n 0, 1) := by decide +kernel
theorem d16_13 : decode prog_36_method_3_code 13 = .ok (.iload_n 2, 1) := by decide +kernel
theorem d16_14 : decode prog_36_method_3_code 14 = .ok (.putfield 10, 3) := by decide +kernel
theorem d16_17 : decode prog_36_method_3_code 17 = .ok (.aload_n 0, 1) := by decide +kernel
theorem d16_18 : decode prog_36_method_3_code 18 = .ok (.areturn, 1) := by decide +kernel
theorem pn_16 : plainName "nephrite/EvaluationException" = true := by first | (simp [plainName, overriddenIn]; done) | decide +kernel
theorem ef_16 (m : MethodId) (x0 : Addr) (x1 : Addr) (x2 : Int32) : entryFrame m #[(.ref x0), (.ref x1), (.int x2)] 3 = mkF m 0 #[.val (.ref x0), .val (.ref x1), .val (.int x2)] [] := by first | (simp [entryFrame, mkF, argsToLocals, Value.category]; done) | rfl
def Q16f (Z : State) (a1 : Addr) (a2 : Addr) (p3 : Int32) (w4 : Int32) (u_templateName_a1 : Value) (h0 : Heap) (n0 : Nat) (v : Option Value) (h : Heap) (L : List Loc) : Prop := v = some (.ref a1) ∧ Fr n0 L ∧ Keep h0 h [a1] ∧ Exa Z h a1 "nephrite/EvaluationException" ∧ Fld Z h a1 "nephrite/EvaluationException" "line" "I" (.int p3) ∧ Fld Z h a1 "nephrite/EvaluationException" "templateName" "Ljava/lang/String;" (.ref a2)
set_option maxRecDepth 65536 in
set_option maxHeartbeats 40000000 in
theorem rm16f (l : Launch) (Z : State) (a0 : Array Value) (hw : ∀ d ∈ tables_1, d.before a0 Z = true) (ws : List Jvm.Cond) (a1 : Addr) (a2 : Addr) (p3 : Int32) (w4 : Int32) (u_templateName_a1 : Value) (h0 : Heap) (n0 : Nat) (Z0 : n0 ≤ h0.size) (F_line_a1 : Fld Z h0 a1 "nephrite/EvaluationException" "line" "I" (.int w4)) (E_a1 : Exa Z h0 a1 "nephrite/EvaluationException") (F_templateName_a1 : Fld Z h0 a1 "nephrite/EvaluationException" "templateName" "Ljava/lang/String;" u_templateName_a1) (g_a1 : n0 ≤ a1) (hc4 : w4 = (0 : Int32)) :
    MetFree l (⟨"nephrite/EvaluationException", "on", "(Ljava/lang/String;I)Lnephrite/EvaluationException;"⟩ : MethodName) (head1 (Jvm.Cond.code (⟨"nephrite/EvaluationException", "on", "(Ljava/lang/String;I)Lnephrite/EvaluationException;"⟩ : MethodName) prog_36_method_3_code 3 (some (.object "nephrite/EvaluationException")) :: ws) ({ frames := 0, cells := 0, slots := 0, locals := 0 } : Room)) (fun a U => a = #[(.ref a1), (.ref a2), (.int p3)] ∧ Z.Warmed39 U.vm ∧ U.heap = h0) (fun _ _ _ _ _ => True) (fun _ U o U' => ∃ v L, o = .returned v ∧ Q16f Z a1 a2 p3 w4 u_templateName_a1 h0 n0 v U'.heap L ∧ FrameEnd U o U' L ({ frames := 0, cells := 0, slots := 0, locals := 0 } : Room).cells ({ frames := 0, cells := 0, slots := 0, locals := 0 } : Room).slots) := by
  refine MetFree.of_bodySF (plainFor_of_name pn_16) hisR ?_
  intro p e s m args below meth c s₁ Bd hml0 hP hK
  obtain ⟨rfl, hZ, hh⟩ := hP
  have hx := Bd.exec
  have hby := Bd.bytes
  have hml : c.maxLocals = 3 := hml0
  have hown : s.vm.findClass "nephrite/EvaluationException" = some m.cls := findClass_of_methodNamed Bd.named
  have hnm := (name_of_methodNamed Bd.named Bd.method).1
  have X0 : Stand p l e ({ frames := 0, cells := 0, slots := 0, locals := 0 } : Room) s m #[(.ref a1), (.ref a2), (.int p3)] below meth c s₁ [] 0 0 := Stand.of_body Bd
  have e0 : s₁.heap = h0 := by rw [← hh, Bd.state]; rfl
  have N0 := Fr.nil n0
  have pre0 : ∀ t, Steps p.tables e below (s₁.setTop (mkF m 0 #[.val (.ref a1), .val (.ref a2), .val (.int p3)] [])) t → Steps p.tables e below (s₁.setTop (entryFrame m #[(.ref a1), (.ref a2), (.int p3)] 3)) t := fun t k => castTop (ef_16 m a1 a2 p3) k
  obtain ⟨T5, X5, e5, st5⟩ := getF X0 hx hZ hown (host := "") (Or.inl (hw _ (List.mem_of_getElem? (i := 102) rfl))) Via.refl e0 F_line_a1 (g := (mkF m 1 #[.val (.ref a1), .val (.ref a2), .val (.int p3)] [(.ref a1)])) rfl rfl (hb hby d16_1)
  obtain ⟨T6, h6, X6, e6, W6, st6⟩ := putF X5 hx hZ hown (host := "") (Or.inl (hw _ (List.mem_of_getElem? (i := 109) rfl))) Via.refl e5 F_templateName_a1 E_a1 (Or.inl (hw _ (List.mem_of_getElem? (i := 110) rfl))) (hw _ (List.mem_of_getElem? (i := 35) rfl)) (ty := (.object "java/lang/String")) (by decide) rfl rfl (g := (mkF m 9 #[.val (.ref a1), .val (.ref a2), .val (.int p3)] [(.ref a2), (.ref a1)])) rfl rfl (hb hby d16_9)
  have Fw6 := F_templateName_a1.same W6
  have K6 : Keep h0 h6 [a1] := (Keep.refl h0 [a1]).wr W6 (Or.inl (List.mem_of_getElem? (i := 0) rfl))
  have N6 := Fr.snoc X6 N0 g_a1
  obtain ⟨T7, h7, X7, e7, W7, st7⟩ := putF X6 hx hZ hown (host := "") (Or.inl (hw _ (List.mem_of_getElem? (i := 102) rfl))) Via.refl e6 (F_line_a1.other W6 (Or.inr (slot_ne (Or.inl (hw _ (List.mem_of_getElem? (i := 103) rfl))) (Or.inl (hw _ (List.mem_of_getElem? (i := 110) rfl))) (by decide) (t := .int) (t' := (.object "java/lang/String")) (by decide) (by decide)))) (E_a1.wr W6) (Or.inl (hw _ (List.mem_of_getElem? (i := 103) rfl))) (hw _ (List.mem_of_getElem? (i := 35) rfl)) (ty := .int) (by decide) rfl rfl (g := (mkF m 14 #[.val (.ref a1), .val (.ref a2), .val (.int p3)] [(.int p3), (.ref a1)])) rfl rfl (hb hby d16_14)
  have Fw7 := (F_line_a1.other W6 (Or.inr (slot_ne (Or.inl (hw _ (List.mem_of_getElem? (i := 103) rfl))) (Or.inl (hw _ (List.mem_of_getElem? (i := 110) rfl))) (by decide) (t := .int) (t' := (.object "java/lang/String")) (by decide) (by decide)))).same W7
  have K7 : Keep h0 h7 [a1] := K6.wr W7 (Or.inl (List.mem_of_getElem? (i := 0) rfl))
  have N7 := Fr.snoc X7 N6 g_a1
  obtain ⟨fs, hr, hrun, hended, hW, hsame⟩ := X7.leave (v := some (.ref a1)) (fun h => by rw [Bd.returns] at h; cases h)
  refine ⟨_, _, pre0 _ ?_, hrun, hended, _, _, rfl, ?_, ⟨_, rfl⟩, hW, hsame.mono (by decide) (by decide)⟩
  · show Steps p.tables e below (s₁.setTop (mkF m 0 #[.val (.ref a1), .val (.ref a2), .val (.int p3)] [])) _
    refine XS.aloadN X0.here hx rfl (hb hby d16_0) rfl rfl ?_
    show Steps p.tables e below (s₁.setTop (mkF m 1 #[.val (.ref a1), .val (.ref a2), .val (.int p3)] [(.ref a1)])) _
    refine st5 _ ?_
    show Steps p.tables e below (T5.setTop (mkF m 4 #[.val (.ref a1), .val (.ref a2), .val (.int p3)] [(.int w4)])) _
    refine XS.ifNo X5.here hx rfl (hb hby d16_4) rfl ((if0 _ _).trans (teq hc4).2) ?_
    show Steps p.tables e below (T5.setTop (mkF m 7 #[.val (.ref a1), .val (.ref a2), .val (.int p3)] [])) _
    refine XS.aloadN X5.here hx rfl (hb hby d16_7) rfl rfl ?_
    show Steps p.tables e below (T5.setTop (mkF m 8 #[.val (.ref a1), .val (.ref a2), .val (.int p3)] [(.ref a1)])) _
    refine XS.aloadN X5.here hx rfl (hb hby d16_8) rfl rfl ?_
    show Steps p.tables e below (T5.setTop (mkF m 9 #[.val (.ref a1), .val (.ref a2), .val (.int p3)] [(.ref a2), (.ref a1)])) _
    refine st6 _ ?_
    show Steps p.tables e below (T6.setTop (mkF m 12 #[.val (.ref a1), .val (.ref a2), .val (.int p3)] [])) _
    refine XS.aloadN X6.here hx rfl (hb hby d16_12) rfl rfl ?_
    show Steps p.tables e below (T6.setTop (mkF m 13 #[.val (.ref a1), .val (.ref a2), .val (.int p3)] [(.ref a1)])) _
    refine XS.iloadN X6.here hx rfl (hb hby d16_13) rfl ?_
    show Steps p.tables e below (T6.setTop (mkF m 14 #[.val (.ref a1), .val (.ref a2), .val (.int p3)] [(.int p3), (.ref a1)])) _
    refine st7 _ ?_
    show Steps p.tables e below (T7.setTop (mkF m 17 #[.val (.ref a1), .val (.ref a2), .val (.int p3)] [])) _
    refine XS.aloadN X7.here hx rfl (hb hby d16_17) rfl rfl ?_
    show Steps p.tables e below (T7.setTop (mkF m 18 #[.val (.ref a1), .val (.ref a2), .val (.int p3)] [(.ref a1)])) _
    jvm_step X7.here [X7.here.top, hx, (hb hby d16_18), X7.method', Bd.returns, Value.isRef, FieldType.isReference]
    first | (intro acts; rw [hr _ acts rfl rfl rfl]) | rw [hr _ _ rfl rfl rfl]
    exact Steps.refl _
  · show Q16f Z a1 a2 p3 w4 u_templateName_a1 h0 n0 _ T7.heap _
    rw [e7]
    exact ⟨rfl, N7, K7, ((E_a1.wr W6).wr W7), Fw7, (Fw6.other W7 (Or.inr (slot_ne (Or.inl (hw _ (List.mem_of_getElem? (i := 110) rfl))) (Or.inl (hw _ (List.mem_of_getElem? (i := 103) rfl))) (by decide) (t := (.object "java/lang/String")) (t' := .int) (by decide) (by decide))))⟩
def Q16t (Z : State) (a1 : Addr) (a2 : Addr) (p3 : Int32) (w4 : Int32) (h0 : Heap) (n0 : Nat) (v : Option Value) (h : Heap) (L : List Loc) : Prop := v = some (.ref a1) ∧ Fr n0 L ∧ h = h0
set_option maxRecDepth 65536 in
set_option maxHeartbeats 40000000 in
theorem rm16t (l : Launch) (Z : State) (a0 : Array Value) (hw : ∀ d ∈ tables_1, d.before a0 Z = true) (ws : List Jvm.Cond) (a1 : Addr) (a2 : Addr) (p3 : Int32) (w4 : Int32) (h0 : Heap) (n0 : Nat) (Z0 : n0 ≤ h0.size) (F_line_a1 : Fld Z h0 a1 "nephrite/EvaluationException" "line" "I" (.int w4)) (hc4 : ¬ (w4 = (0 : Int32))) :
    MetFree l (⟨"nephrite/EvaluationException", "on", "(Ljava/lang/String;I)Lnephrite/EvaluationException;"⟩ : MethodName) (head1 (Jvm.Cond.code (⟨"nephrite/EvaluationException", "on", "(Ljava/lang/String;I)Lnephrite/EvaluationException;"⟩ : MethodName) prog_36_method_3_code 3 (some (.object "nephrite/EvaluationException")) :: ws) ({ frames := 0, cells := 0, slots := 0, locals := 0 } : Room)) (fun a U => a = #[(.ref a1), (.ref a2), (.int p3)] ∧ Z.Warmed39 U.vm ∧ U.heap = h0) (fun _ _ _ _ _ => True) (fun _ U o U' => ∃ v L, o = .returned v ∧ Q16t Z a1 a2 p3 w4 h0 n0 v U'.heap L ∧ FrameEnd U o U' L ({ frames := 0, cells := 0, slots := 0, locals := 0 } : Room).cells ({ frames := 0, cells := 0, slots := 0, locals := 0 } : Room).slots) := by
  refine MetFree.of_bodySF (plainFor_of_name pn_16) hisR ?_
  intro p e s m args below meth c s₁ Bd hml0 hP hK
  obtain ⟨rfl, hZ, hh⟩ := hP
  have hx := Bd.exec
  have hby := Bd.bytes
  have hml : c.maxLocals = 3 := hml0
  have hown : s.vm.findClass "nephrite/EvaluationException" = some m.cls := findClass_of_methodNamed Bd.named
  have hnm := (name_of_methodNamed Bd.named Bd.method).1
  have X0 : Stand p l e ({ frames := 0, cells := 0, slots := 0, locals := 0 } : Room) s m #[(.ref a1), (.ref a2), (.int p3)] below meth c s₁ [] 0 0 := Stand.of_body Bd
  have e0 : s₁.heap = h0 := by rw [← hh, Bd.state]; rfl
  have N0 := Fr.nil n0
  have pre0 : ∀ t, Steps p.tables e below (s₁.setTop (mkF m 0 #[.val (.ref a1), .val (.ref a2), .val (.int p3)] [])) t → Steps p.tables e below (s₁.setTop (entryFrame m #[(.ref a1), (.ref a2), (.int p3)] 3)) t := fun t k => castTop (ef_16 m a1 a2 p3) k
  obtain ⟨T5, X5, e5, st5⟩ := getF X0 hx hZ hown (host := "") (Or.inl (hw _ (List.mem_of_getElem? (i := 102) rfl))) Via.refl e0 F_line_a1 (g := (mkF m 1 #[.val (.ref a1), .val (.ref a2), .val (.int p3)] [(.ref a1)])) rfl rfl (hb hby d16_1)
  obtain ⟨fs, hr, hrun, hended, hW, hsame⟩ := X5.leave (v := some (.ref a1)) (fun h => by rw [Bd.returns] at h; cases h)
  refine ⟨_, _, pre0 _ ?_, hrun, hended, _, _, rfl, ?_, ⟨_, rfl⟩, hW, hsame.mono (by decide) (by decide)⟩
  · show Steps p.tables e below (s₁.setTop (mkF m 0 #[.val (.ref a1), .val (.ref a2), .val (.int p3)] [])) _
    refine XS.aloadN X0.here hx rfl (hb hby d16_0) rfl rfl ?_
    show Steps p.tables e below (s₁.setTop (mkF m 1 #[.val (.ref a1), .val (.ref a2), .val (.int p3)] [(.ref a1)])) _
    refine st5 _ ?_
    show Steps p.tables e below (T5.setTop (mkF m 4 #[.val (.ref a1), .val (.ref a2), .val (.int p3)] [(.int w4)])) _
    refine XS.ifYes X5.here hx rfl (pc0 := 4) (pc' := 17) rfl (hb hby d16_4) rfl ((if0 _ _).trans (feq hc4).2) (by decide) (by decide) ?_
    show Steps p.tables e below (T5.setTop (mkF m 17 #[.val (.ref a1), .val (.ref a2), .val (.int p3)] [])) _
    refine XS.aloadN X5.here hx rfl (hb hby d16_17) rfl rfl ?_
    show Steps p.tables e below (T5.setTop (mkF m 18 #[.val (.ref a1), .val (.ref a2), .val (.int p3)] [(.ref a1)])) _
    jvm_step X5.here [X5.here.top, hx, (hb hby d16_18), X5.method', Bd.returns, Value.isRef, FieldType.isReference]
    first | (intro acts; rw [hr _ acts rfl rfl rfl]) | rw [hr _ _ rfl rfl rfl]
    exact Steps.refl _
  · show Q16t Z a1 a2 p3 w4 h0 n0 _ T5.heap _
    rw [e5]
    exact ⟨rfl, N0, rfl⟩
theorem ef_16n (m : MethodId) (x0 : Addr) (x2 : Int32) : entryFrame m #[(.ref x0), .null, (.int x2)] 3 = mkF m 0 #[.val (.ref x0), .val .null, .val (.int x2)] [] := by first | (simp [entryFrame, mkF, argsToLocals, Value.category]; done) | rfl
def Q16fn (Z : State) (a1 : Addr) (p2 : Int32) (w3 : Int32) (u_templateName_a1 : Value) (h0 : Heap) (n0 : Nat) (v : Option Value) (h : Heap) (L : List Loc) : Prop := v = some (.ref a1) ∧ Fr n0 L ∧ Keep h0 h [a1] ∧ Exa Z h a1 "nephrite/EvaluationException" ∧ Fld Z h a1 "nephrite/EvaluationException" "line" "I" (.int p2) ∧ Fld Z h a1 "nephrite/EvaluationException" "templateName" "Ljava/lang/String;" .null
set_option maxRecDepth 65536 in
set_option maxHeartbeats 40000000 in
theorem rm16fn (l : Launch) (Z : State) (a0 : Array Value) (hw : ∀ d ∈ tables_1, d.before a0 Z = true) (ws : List Jvm.Cond) (a1 : Addr) (p2 : Int32) (w3 : Int32) (u_templateName_a1 : Value) (h0 : Heap) (n0 : Nat) (Z0 : n0 ≤ h0.size) (F_line_a1 : Fld Z h0 a1 "nephrite/EvaluationException" "line" "I" (.int w3)) (E_a1 : Exa Z h0 a1 "nephrite/EvaluationException") (F_templateName_a1 : Fld Z h0 a1 "nephrite/EvaluationException" "templateName" "Ljava/lang/String;" u_templateName_a1) (g_a1 : n0 ≤ a1) (hc4 : w3 = (0 : Int32)) :
    MetFree l (⟨"nephrite/EvaluationException", "on", "(Ljava/lang/String;I)Lnephrite/EvaluationException;"⟩ : MethodName) (head1 (Jvm.Cond.code (⟨"nephrite/EvaluationException", "on", "(Ljava/lang/String;I)Lnephrite/EvaluationException;"⟩ : MethodName) prog_36_method_3_code 3 (some (.object "nephrite/EvaluationException")) :: ws) ({ frames := 0, cells := 0, slots := 0, locals := 0 } : Room)) (fun a U => a = #[(.ref a1), .null, (.int p2)] ∧ Z.Warmed39 U.vm ∧ U.heap = h0) (fun _ _ _ _ _ => True) (fun _ U o U' => ∃ v L, o = .returned v ∧ Q16fn Z a1 p2 w3 u_templateName_a1 h0 n0 v U'.heap L ∧ FrameEnd U o U' L ({ frames := 0, cells := 0, slots := 0, locals := 0 } : Room).cells ({ frames := 0, cells := 0, slots := 0, locals := 0 } : Room).slots) := by
  refine MetFree.of_bodySF (plainFor_of_name pn_16) hisR ?_
  intro p e s m args below meth c s₁ Bd hml0 hP hK
  obtain ⟨rfl, hZ, hh⟩ := hP
  have hx := Bd.exec
  have hby := Bd.bytes
  have hml : c.maxLocals = 3 := hml0
  have hown : s.vm.findClass "nephrite/EvaluationException" = some m.cls := findClass_of_methodNamed Bd.named
  have hnm := (name_of_methodNamed Bd.named Bd.method).1
  have X0 : Stand p l e ({ frames := 0, cells := 0, slots := 0, locals := 0 } : Room) s m #[(.ref a1), .null, (.int p2)] below meth c s₁ [] 0 0 := Stand.of_body Bd
  have e0 : s₁.heap = h0 := by rw [← hh, Bd.state]; rfl
  have N0 := Fr.nil n0
  have pre0 : ∀ t, Steps p.tables e below (s₁.setTop (mkF m 0 #[.val (.ref a1), .val .null, .val (.int p2)] [])) t → Steps p.tables e below (s₁.setTop (entryFrame m #[(.ref a1), .null, (.int p2)] 3)) t := fun t k => castTop (ef_16n m a1 p2) k
  obtain ⟨T4, X4, e4, st4⟩ := getF X0 hx hZ hown (host := "") (Or.inl (hw _ (List.mem_of_getElem? (i := 102) rfl))) Via.refl e0 F_line_a1 (g := (mkF m 1 #[.val (.ref a1), .val .null, .val (.int p2)] [(.ref a1)])) rfl rfl (hb hby d16_1)
  obtain ⟨T5, h5, X5, e5, W5, st5⟩ := putF X4 hx hZ hown (host := "") (Or.inl (hw _ (List.mem_of_getElem? (i := 109) rfl))) Via.refl e4 F_templateName_a1 E_a1 (Or.inl (hw _ (List.mem_of_getElem? (i := 110) rfl))) (hw _ (List.mem_of_getElem? (i := 35) rfl)) (ty := (.object "java/lang/String")) (by decide) rfl rfl (g := (mkF m 9 #[.val (.ref a1), .val .null, .val (.int p2)] [.null, (.ref a1)])) rfl rfl (hb hby d16_9)
  have Fw5 := F_templateName_a1.same W5
  have K5 : Keep h0 h5 [a1] := (Keep.refl h0 [a1]).wr W5 (Or.inl (List.mem_of_getElem? (i := 0) rfl))
  have N5 := Fr.snoc X5 N0 g_a1
  obtain ⟨T6, h6, X6, e6, W6, st6⟩ := putF X5 hx hZ hown (host := "") (Or.inl (hw _ (List.mem_of_getElem? (i := 102) rfl))) Via.refl e5 (F_line_a1.other W5 (Or.inr (slot_ne (Or.inl (hw _ (List.mem_of_getElem? (i := 103) rfl))) (Or.inl (hw _ (List.mem_of_getElem? (i := 110) rfl))) (by decide) (t := .int) (t' := (.object "java/lang/String")) (by decide) (by decide)))) (E_a1.wr W5) (Or.inl (hw _ (List.mem_of_getElem? (i := 103) rfl))) (hw _ (List.mem_of_getElem? (i := 35) rfl)) (ty := .int) (by decide) rfl rfl (g := (mkF m 14 #[.val (.ref a1), .val .null, .val (.int p2)] [(.int p2), (.ref a1)])) rfl rfl (hb hby d16_14)
  have Fw6 := (F_line_a1.other W5 (Or.inr (slot_ne (Or.inl (hw _ (List.mem_of_getElem? (i := 103) rfl))) (Or.inl (hw _ (List.mem_of_getElem? (i := 110) rfl))) (by decide) (t := .int) (t' := (.object "java/lang/String")) (by decide) (by decide)))).same W6
  have K6 : Keep h0 h6 [a1] := K5.wr W6 (Or.inl (List.mem_of_getElem? (i := 0) rfl))
  have N6 := Fr.snoc X6 N5 g_a1
  obtain ⟨fs, hr, hrun, hended, hW, hsame⟩ := X6.leave (v := some (.ref a1)) (fun h => by rw [Bd.returns] at h; cases h)
  refine ⟨_, _, pre0 _ ?_, hrun, hended, _, _, rfl, ?_, ⟨_, rfl⟩, hW, hsame.mono (by decide) (by decide)⟩
  · show Steps p.tables e below (s₁.setTop (mkF m 0 #[.val (.ref a1), .val .null, .val (.int p2)] [])) _
    refine XS.aloadN X0.here hx rfl (hb hby d16_0) rfl rfl ?_
    show Steps p.tables e below (s₁.setTop (mkF m 1 #[.val (.ref a1), .val .null, .val (.int p2)] [(.ref a1)])) _
    refine st4 _ ?_
    show Steps p.tables e below (T4.setTop (mkF m 4 #[.val (.ref a1), .val .null, .val (.int p2)] [(.int w3)])) _
    refine XS.ifNo X4.here hx rfl (hb hby d16_4) rfl ((if0 _ _).trans (teq hc4).2) ?_
    show Steps p.tables e below (T4.setTop (mkF m 7 #[.val (.ref a1), .val .null, .val (.int p2)] [])) _
    refine XS.aloadN X4.here hx rfl (hb hby d16_7) rfl rfl ?_
    show Steps p.tables e below (T4.setTop (mkF m 8 #[.val (.ref a1), .val .null, .val (.int p2)] [(.ref a1)])) _
    refine XS.aloadN X4.here hx rfl (hb hby d16_8) rfl rfl ?_
    show Steps p.tables e below (T4.setTop (mkF m 9 #[.val (.ref a1), .val .null, .val (.int p2)] [.null, (.ref a1)])) _
    refine st5 _ ?_
    show Steps p.tables e below (T5.setTop (mkF m 12 #[.val (.ref a1), .val .null, .val (.int p2)] [])) _
    refine XS.aloadN X5.here hx rfl (hb hby d16_12) rfl rfl ?_
    show Steps p.tables e below (T5.setTop (mkF m 13 #[.val (.ref a1), .val .null, .val (.int p2)] [(.ref a1)])) _
    refine XS.iloadN X5.here hx rfl (hb hby d16_13) rfl ?_
    show Steps p.tables e below (T5.setTop (mkF m 14 #[.val (.ref a1), .val .null, .val (.int p2)] [(.int p2), (.ref a1)])) _
    refine st6 _ ?_
    show Steps p.tables e below (T6.setTop (mkF m 17 #[.val (.ref a1), .val .null, .val (.int p2)] [])) _
    refine XS.aloadN X6.here hx rfl (hb hby d16_17) rfl rfl ?_
    show Steps p.tables e below (T6.setTop (mkF m 18 #[.val (.ref a1), .val .null, .val (.int p2)] [(.ref a1)])) _
    jvm_step X6.here [X6.here.top, hx, (hb hby d16_18), X6.method', Bd.returns, Value.isRef, FieldType.isReference]
    first | (intro acts; rw [hr _ acts rfl rfl rfl]) | rw [hr _ _ rfl rfl rfl]
    exact Steps.refl _
  · show Q16fn Z a1 p2 w3 u_templateName_a1 h0 n0 _ T6.heap _
    rw [e6]
    exact ⟨rfl, N6, K6, ((E_a1.wr W5).wr W6), Fw6, (Fw5.other W6 (Or.inr (slot_ne (Or.inl (hw _ (List.mem_of_getElem? (i := 110) rfl))) (Or.inl (hw _ (List.mem_of_getElem? (i := 103) rfl))) (by decide) (t := (.object "java/lang/String")) (t' := .int) (by decide) (by decide))))⟩
def Q16tn (Z : State) (a1 : Addr) (p2 : Int32) (w3 : Int32) (h0 : Heap) (n0 : Nat) (v : Option Value) (h : Heap) (L : List Loc) : Prop := v = some (.ref a1) ∧ Fr n0 L ∧ h = h0
set_option maxRecDepth 65536 in
set_option maxHeartbeats 40000000 in
theorem rm16tn (l : Launch) (Z : State) (a0 : Array Value) (hw : ∀ d ∈ tables_1, d.before a0 Z = true) (ws : List Jvm.Cond) (a1 : Addr) (p2 : Int32) (w3 : Int32) (h0 : Heap) (n0 : Nat) (Z0 : n0 ≤ h0.size) (F_line_a1 : Fld Z h0 a1 "nephrite/EvaluationException" "line" "I" (.int w3)) (hc4 : ¬ (w3 = (0 : Int32))) :
    MetFree l (⟨"nephrite/EvaluationException", "on", "(Ljava/lang/String;I)Lnephrite/EvaluationException;"⟩ : MethodName) (head1 (Jvm.Cond.code (⟨"nephrite/EvaluationException", "on", "(Ljava/lang/String;I)Lnephrite/EvaluationException;"⟩ : MethodName) prog_36_method_3_code 3 (some (.object "nephrite/EvaluationException")) :: ws) ({ frames := 0, cells := 0, slots := 0, locals := 0 } : Room)) (fun a U => a = #[(.ref a1), .null, (.int p2)] ∧ Z.Warmed39 U.vm ∧ U.heap = h0) (fun _ _ _ _ _ => True) (fun _ U o U' => ∃ v L, o = .returned v ∧ Q16tn Z a1 p2 w3 h0 n0 v U'.heap L ∧ FrameEnd U o U' L ({ frames := 0, cells := 0, slots := 0, locals := 0 } : Room).cells ({ frames := 0, cells := 0, slots := 0, locals := 0 } : Room).slots) := by
  refine MetFree.of_bodySF (plainFor_of_name pn_16) hisR ?_
  intro p e s m args below meth c s₁ Bd hml0 hP hK
  obtain ⟨rfl, hZ, hh⟩ := hP
  have hx := Bd.exec
  have hby := Bd.bytes
  have hml : c.maxLocals = 3 := hml0
  have hown : s.vm.findClass "nephrite/EvaluationException" = some m.cls := findClass_of_methodNamed Bd.named
  have hnm := (name_of_methodNamed Bd.named Bd.method).1
  have X0 : Stand p l e ({ frames := 0, cells := 0, slots := 0, locals := 0 } : Room) s m #[(.ref a1), .null, (.int p2)] below meth c s₁ [] 0 0 := Stand.of_body Bd
  have e0 : s₁.heap = h0 := by rw [← hh, Bd.state]; rfl
  have N0 := Fr.nil n0
  have pre0 : ∀ t, Steps p.tables e below (s₁.setTop (mkF m 0 #[.val (.ref a1), .val .null, .val (.int p2)] [])) t → Steps p.tables e below (s₁.setTop (entryFrame m #[(.ref a1), .null, (.int p2)] 3)) t := fun t k => castTop (ef_16n m a1 p2) k
  obtain ⟨T4, X4, e4, st4⟩ := getF X0 hx hZ hown (host := "") (Or.inl (hw _ (List.mem_of_getElem? (i := 102) rfl))) Via.refl e0 F_line_a1 (g := (mkF m 1 #[.val (.ref a1), .val .null, .val (.int p2)] [(.ref a1)])) rfl rfl (hb hby d16_1)
  obtain ⟨fs, hr, hrun, hended, hW, hsame⟩ := X4.leave (v := some (.ref a1)) (fun h => by rw [Bd.returns] at h; cases h)
  refine ⟨_, _, pre0 _ ?_, hrun, hended, _, _, rfl, ?_, ⟨_, rfl⟩, hW, hsame.mono (by decide) (by decide)⟩
  · show Steps p.tables e below (s₁.setTop (mkF m 0 #[.val (.ref a1), .val .null, .val (.int p2)] [])) _
    refine XS.aloadN X0.here hx rfl (hb hby d16_0) rfl rfl ?_
    show Steps p.tables e below (s₁.setTop (mkF m 1 #[.val (.ref a1), .val .null, .val (.int p2)] [(.ref a1)])) _
    refine st4 _ ?_
    show Steps p.tables e below (T4.setTop (mkF m 4 #[.val (.ref a1), .val .null, .val (.int p2)] [(.int w3)])) _
    refine XS.ifYes X4.here hx rfl (pc0 := 4) (pc' := 17) rfl (hb hby d16_4) rfl ((if0 _ _).trans (feq hc4).2) (by decide) (by decide) ?_
    show Steps p.tables e below (T4.setTop (mkF m 17 #[.val (.ref a1), .val .null, .val (.int p2)] [])) _
    refine XS.aloadN X4.here hx rfl (hb hby d16_17) rfl rfl ?_
    show Steps p.tables e below (T4.setTop (mkF m 18 #[.val (.ref a1), .val .null, .val (.int p2)] [(.ref a1)])) _
    jvm_step X4.here [X4.here.top, hx, (hb hby d16_18), X4.method', Bd.returns, Value.isRef, FieldType.isReference]
    first | (intro acts; rw [hr _ acts rfl rfl rfl]) | rw [hr _ _ rfl rfl rfl]
    exact Steps.refl _
  · show Q16tn Z a1 p2 w3 h0 n0 _ T4.heap _
    rw [e4]
    exact ⟨rfl, N0, rfl⟩
theorem pn_0 : plainName "nephrite/EvaluationExceptionOnPinLaw" = true := by first | (simp [plainName, overriddenIn]; done) | decide +kernel
theorem pd_0_0 : parseMethodDescriptor "(IZ)Ljava/lang/String;" = some ⟨[.int, .boolean], some (.object "java/lang/String")⟩ := by decide +kernel
theorem pd_0_7 : parseMethodDescriptor "(Ljava/lang/String;)V" = some ⟨[(.object "java/lang/String")], none⟩ := by decide +kernel
theorem pd_0_10 : parseMethodDescriptor "()I" = some ⟨[], some .int⟩ := by decide +kernel
theorem pd_0_11 : parseMethodDescriptor "()Ljava/lang/String;" = some ⟨[], some (.object "java/lang/String")⟩ := by decide +kernel
theorem pd_0_12 : parseMethodDescriptor "(Ljava/lang/String;I)Lnephrite/EvaluationException;" = some ⟨[(.object "java/lang/String"), .int], some (.object "nephrite/EvaluationException")⟩ := by decide +kernel
theorem ef_0 (m : MethodId) (x0 : Int32) (x1 : Int32) (x2 : Int32) (x3 : Int32) (x4 : Int32) : entryFrame m #[(.int x0), (.int x1), (.int x2), (.int x3), (.int x4)] maxLocals = mkF m 0 #[.val (.int x0), .val (.int x1), .val (.int x2), .val (.int x3), .val (.int x4), .unset, .unset, .unset, .unset, .unset, .unset, .unset, .unset, .unset, .unset] [] := by first | (simp [entryFrame, mkF, argsToLocals, Value.category, maxLocals]; done) | rfl
def Q0rrz (Z : State) (p1 : Int32) (p2 : Int32) (p3 : Int32) (p4 : Int32) (p5 : Int32) (v12_s0 : Int32) (v27_s0 : Int32) (h0 : Heap) (n0 : Nat) (v : Option Value) (h : Heap) (L : List Loc) : Prop := v = some (.int (1 : Int32)) ∧ Fr n0 L
set_option maxRecDepth 65536 in
set_option maxHeartbeats 40000000 in
theorem rm0rrz (l : Launch) (Z : State) (a0 : Array Value) (hw : ∀ d ∈ tables_1, d.before a0 Z = true) (ws : List Jvm.Cond) (p1 : Int32) (p2 : Int32) (p3 : Int32) (p4 : Int32) (p5 : Int32) (v12_s0 : Int32) (v27_s0 : Int32) (zc : Int32) (h0 : Heap) (n0 : Nat) (Z0 : n0 ≤ h0.size) (hv12_s0 : v12_s0 = (if (p5 &&& (1 : Int32)) = (0 : Int32) then p1 else (0 : Int32))) (hv27_s0 : v27_s0 = (if (p5 &&& (8 : Int32)) = (0 : Int32) then p2 else (0 : Int32))) (O0 : Old Z n0 h0) (hc34 : (p5 &&& (2 : Int32)) = (0 : Int32)) (hc52 : (p5 &&& (4 : Int32)) = (0 : Int32)) (hc162 : v12_s0 = (0 : Int32)) (hc176 : v12_s0 = (0 : Int32)) (hlT : l.stackTraces = true) (S0 : own_St Z Z.heap) (S_cs : Sta Z Z.heap "java/lang/String" "COMPACT_STRINGS" "Z" (.int zc)) (hcs : ¬ (zc = (0 : Int32))) (wS : ∀ a ∈ Bundle.stringAtoms, a.before a0 Z = true) (hz0 : h0 = Z.heap) :
    MetFree l x (head1 (Jvm.Cond.code x code maxLocals ret :: ws) room_1) (fun a U => a = #[(.int p1), (.int p2), (.int p3), (.int p4), (.int p5)] ∧ U.vm = Z.vm ∧ U.heap = h0) (fun _ _ B U _ => U.vm.MethodsKnown ∧ U.vm.FramesKnown B) (fun _ U o U' => ∃ v L, o = .returned v ∧ Q0rrz Z p1 p2 p3 p4 p5 v12_s0 v27_s0 h0 n0 v U'.heap L ∧ ReturnedEndW U o U' L room_1.cells room_1.slots) := by
  refine MetFree.of_bodySF (plainFor_of_name pn_0) hisR ?_
  intro p e s m args below meth c s₁ Bd hml0 hP hK
  obtain ⟨rfl, hU, hh⟩ := hP
  obtain ⟨hTK, hBK⟩ := hK
  rw [hU] at hTK hBK
  have hZ : Z.Warmed39 (s.setVm s.vm).vm := by
    show Z.Warmed39 s.vm
    rw [hU]; exact State.Warmed39.refl Z
  have hx := Bd.exec
  have hby := Bd.bytes
  have hml : c.maxLocals = 15 := hml0
  have hown : (s.setVm s.vm).vm.findClass "nephrite/EvaluationExceptionOnPinLaw" = some m.cls := findClass_of_methodNamed Bd.named
  have hnm := (name_of_methodNamed Bd.named Bd.method).1
  have X0 : Stand p l e room_1 (s.setVm s.vm) m #[(.int p1), (.int p2), (.int p3), (.int p4), (.int p5)] below meth c s₁ [] 0 0 := Stand.of_body Bd
  have e0 : s₁.heap = h0 := by rw [← hh, Bd.state]; rfl
  have N0 := Fr.nil n0
  have hS : s.Since s.vm h0.size := (State.WarmedH.refl s).since _
  have hk : h0.size ≤ h0.size := Nat.le_refl _
  have pre0 : ∀ t, Steps p.tables e below (s₁.setTop (mkF m 0 #[.val (.int p1), .val (.int p2), .val (.int p3), .val (.int p4), .val (.int p5), .unset, .unset, .unset, .unset, .unset, .unset, .unset, .unset, .unset, .unset] [])) t → Steps p.tables e below (s₁.setTop (entryFrame m #[(.int p1), (.int p2), (.int p3), (.int p4), (.int p5)] maxLocals)) t := fun t k => castTop (ef_0 m p1 p2 p3 p4 p5) k
  have sg4 : ∀ t, Steps p.tables e below (s₁.setTop (mkF m 12 #[.val (.int p1), .val (.int p2), .val (.int p3), .val (.int p4), .val (.int p5), .unset, .unset, .unset, .unset, .unset, .unset, .unset, .unset, .unset, .unset] [(.int v12_s0)])) t → Steps p.tables e below (s₁.setTop (mkF m 4 #[.val (.int p1), .val (.int p2), .val (.int p3), .val (.int p4), .val (.int p5), .unset, .unset, .unset, .unset, .unset, .unset, .unset, .unset, .unset, .unset] [(.int (p5 &&& (1 : Int32)))])) t := by
    intro t kt
    show Steps p.tables e below (s₁.setTop (mkF m 4 #[.val (.int p1), .val (.int p2), .val (.int p3), .val (.int p4), .val (.int p5), .unset, .unset, .unset, .unset, .unset, .unset, .unset, .unset, .unset, .unset] [(.int (p5 &&& (1 : Int32)))])) _
    by_cases hm4 : (p5 &&& (1 : Int32)) = (0 : Int32)
    · rw [show v12_s0 = p1 by rw [hv12_s0, if_pos hm4]] at kt
      refine XS.ifYes X0.here hx rfl (pc0 := 4) (pc' := 11) rfl (hb hby at_4) rfl ((if0 _ _).trans (teq hm4).1) (by decide) (by decide) ?_
      show Steps p.tables e below (s₁.setTop (mkF m 11 #[.val (.int p1), .val (.int p2), .val (.int p3), .val (.int p4), .val (.int p5), .unset, .unset, .unset, .unset, .unset, .unset, .unset, .unset, .unset, .unset] [])) _
      refine XS.iloadN X0.here hx rfl (hb hby at_11) rfl ?_
      exact kt
    · rw [show v12_s0 = (0 : Int32) by rw [hv12_s0, if_neg hm4]] at kt
      refine XS.ifNo X0.here hx rfl (hb hby at_4) rfl ((if0 _ _).trans (feq hm4).1) ?_
      show Steps p.tables e below (s₁.setTop (mkF m 7 #[.val (.int p1), .val (.int p2), .val (.int p3), .val (.int p4), .val (.int p5), .unset, .unset, .unset, .unset, .unset, .unset, .unset, .unset, .unset, .unset] [])) _
      refine XS.iconst X0.here hx rfl (hb hby at_7) ?_
      show Steps p.tables e below (s₁.setTop (mkF m 8 #[.val (.int p1), .val (.int p2), .val (.int p3), .val (.int p4), .val (.int p5), .unset, .unset, .unset, .unset, .unset, .unset, .unset, .unset, .unset, .unset] [(.int (0 : Int32))])) _
      refine XS.goto X0.here hx rfl (pc0 := 8) (pc' := 12) rfl (hb hby at_8) (by decide) (by decide) ?_
      exact kt
  have sg19 : ∀ t, Steps p.tables e below (s₁.setTop (mkF m 27 #[.val (.int p1), .val (.int p2), .val (.int p3), .val (.int p4), .val (.int p5), .val (.int v12_s0), .unset, .unset, .unset, .unset, .unset, .unset, .unset, .unset, .unset] [(.int v27_s0)])) t → Steps p.tables e below (s₁.setTop (mkF m 19 #[.val (.int p1), .val (.int p2), .val (.int p3), .val (.int p4), .val (.int p5), .val (.int v12_s0), .unset, .unset, .unset, .unset, .unset, .unset, .unset, .unset, .unset] [(.int (p5 &&& (8 : Int32)))])) t := by
    intro t kt
    show Steps p.tables e below (s₁.setTop (mkF m 19 #[.val (.int p1), .val (.int p2), .val (.int p3), .val (.int p4), .val (.int p5), .val (.int v12_s0), .unset, .unset, .unset, .unset, .unset, .unset, .unset, .unset, .unset] [(.int (p5 &&& (8 : Int32)))])) _
    by_cases hm19 : (p5 &&& (8 : Int32)) = (0 : Int32)
    · rw [show v27_s0 = p2 by rw [hv27_s0, if_pos hm19]] at kt
      refine XS.ifYes X0.here hx rfl (pc0 := 19) (pc' := 26) rfl (hb hby at_19) rfl ((if0 _ _).trans (teq hm19).1) (by decide) (by decide) ?_
      show Steps p.tables e below (s₁.setTop (mkF m 26 #[.val (.int p1), .val (.int p2), .val (.int p3), .val (.int p4), .val (.int p5), .val (.int v12_s0), .unset, .unset, .unset, .unset, .unset, .unset, .unset, .unset, .unset] [])) _
      refine XS.iloadN X0.here hx rfl (hb hby at_26) rfl ?_
      exact kt
    · rw [show v27_s0 = (0 : Int32) by rw [hv27_s0, if_neg hm19]] at kt
      refine XS.ifNo X0.here hx rfl (hb hby at_19) rfl ((if0 _ _).trans (feq hm19).1) ?_
      show Steps p.tables e below (s₁.setTop (mkF m 22 #[.val (.int p1), .val (.int p2), .val (.int p3), .val (.int p4), .val (.int p5), .val (.int v12_s0), .unset, .unset, .unset, .unset, .unset, .unset, .unset, .unset, .unset] [])) _
      refine XS.iconst X0.here hx rfl (hb hby at_22) ?_
      show Steps p.tables e below (s₁.setTop (mkF m 23 #[.val (.int p1), .val (.int p2), .val (.int p3), .val (.int p4), .val (.int p5), .val (.int v12_s0), .unset, .unset, .unset, .unset, .unset, .unset, .unset, .unset, .unset] [(.int (0 : Int32))])) _
      refine XS.goto X0.here hx rfl (pc0 := 23) (pc' := 27) rfl (hb hby at_23) (by decide) (by decide) ?_
      exact kt
  obtain ⟨_, _, ⟨T6, L6, k6, n6⟩, -, X6, ⟨Lc6, hQ6, l6, y6, z6⟩, st6⟩ := Jvm.LawKit.callS X0 hx (y := (⟨"nephrite/EvaluationExceptionOnPinLaw", "name", "(IZ)Ljava/lang/String;"⟩ : MethodName)) hown (mvT hZ (hw _ (List.mem_of_getElem? (i := 0) rfl))) (mvT hZ (hw _ (List.mem_of_getElem? (i := 1) rfl))) (mvT hZ (hw _ (List.mem_of_getElem? (i := 2) rfl))) (mvT hZ (hw _ (List.mem_of_getElem? (i := 3) rfl))) (by decide) (backOf (W := 0) (rm1 l Z a0 hw [] p3 (0 : Int32) zc h0 n0 Z0 S_cs hcs O0 rfl) hZ (hw _ (List.mem_of_getElem? (i := 3) rfl)) (hw _ (List.mem_of_getElem? (i := 2) rfl)) (by decide) (by decide)) (g := (mkF m 42 #[.val (.int p1), .val (.int p2), .val (.int p3), .val (.int p4), .val (.int p5), .val (.int v12_s0), .val (.int v27_s0), .unset, .unset, .unset, .unset, .unset, .unset, .unset, .unset] [(.int (0 : Int32)), (.int p3)])) rfl (by rw [hml]; rfl) (argsL := [(.int p3), (.int (0 : Int32))]) (rest := []) (lenOf pd_0_0 rfl) rfl (by show 2 * 0 + _ ≤ _; exact Nat.le_of_eq rfl) (hb hby at_42) (fun _ _ => ⟨rfl, e0, (by decide : 0 + 3 ≤ _), (by decide : 0 + 6 ≤ _)⟩)
  dsimp only [Pt.U, Pt.locs, Pt.cells, Pt.slots] at X6 l6 y6 z6 st6 hQ6
  subst l6 y6 z6
  obtain ⟨b6, rfl, N6q, K6c, g_b6, s6b, Ec6⟩ := hQ6
  have N6 := Fr.app N0 N6q
  have sz_b6 : h0.size ≤ b6 := Nat.le_trans (Keep.refl h0 []).1 s6b
  have K6 : Keep h0 T6.heap [] := (Keep.refl h0 []).trans K6c all0
  obtain ⟨_, _, ⟨T7, L7, k7, n7⟩, -, X7, ⟨Lc7, hQ7, l7, y7, z7⟩, st7⟩ := Jvm.LawKit.callS X6 hx (y := (⟨"nephrite/EvaluationExceptionOnPinLaw", "name", "(IZ)Ljava/lang/String;"⟩ : MethodName)) hown (mvT hZ (hw _ (List.mem_of_getElem? (i := 0) rfl))) (mvT hZ (hw _ (List.mem_of_getElem? (i := 1) rfl))) (mvT hZ (hw _ (List.mem_of_getElem? (i := 2) rfl))) (mvT hZ (hw _ (List.mem_of_getElem? (i := 3) rfl))) (by decide) (backOf (W := 0) (rm1 l Z a0 hw [] p4 (0 : Int32) zc T6.heap n0 (Nat.le_trans Z0 K6c.1) S_cs hcs (O0.keep K6 all0) rfl) hZ (hw _ (List.mem_of_getElem? (i := 3) rfl)) (hw _ (List.mem_of_getElem? (i := 2) rfl)) (by decide) (by decide)) (g := (mkF m 60 #[.val (.int p1), .val (.int p2), .val (.int p3), .val (.int p4), .val (.int p5), .val (.int v12_s0), .val (.int v27_s0), .val (.ref b6), .unset, .unset, .unset, .unset, .unset, .unset, .unset] [(.int (0 : Int32)), (.int p4)])) rfl (by rw [hml]; rfl) (argsL := [(.int p4), (.int (0 : Int32))]) (rest := []) (lenOf pd_0_0 rfl) rfl (by show 2 * 0 + _ ≤ _; exact Nat.le_of_eq rfl) (hb hby at_60) (fun _ _ => ⟨rfl, rfl, (by decide : 3 + 3 ≤ _), (by decide : 6 + 6 ≤ _)⟩)
  dsimp only [Pt.U, Pt.locs, Pt.cells, Pt.slots] at X7 l7 y7 z7 st7 hQ7
  subst l7 y7 z7
  obtain ⟨b7, rfl, N7q, K7c, g_b7, s7b, Ec7⟩ := hQ7
  have N7 := Fr.app N6 N7q
  have sz_b7 : h0.size ≤ b7 := Nat.le_trans K6.1 s7b
  have K7 : Keep h0 T7.heap [] := K6.trans K7c all0
  obtain ⟨T8, h8, X8, e8, E8, A8, D8, U8, st8⟩ := newO X7 hx hZ hown (hw _ (List.mem_of_getElem? (i := 34) rfl)) (hw _ (List.mem_of_getElem? (i := 35) rfl)) (hw _ (List.mem_of_getElem? (i := 36) rfl)) rfl (g := (mkF m 65 #[.val (.int p1), .val (.int p2), .val (.int p3), .val (.int p4), .val (.int p5), .val (.int v12_s0), .val (.int v27_s0), .val (.ref b6), .val (.ref b7), .unset, .unset, .unset, .unset, .unset, .unset] [])) rfl (hb hby at_65) (by decide) (by decide)
  obtain ⟨b8, g8⟩ : ∃ z, z = T7.heap.size := ⟨_, rfl⟩
  rw [← g8] at A8 D8 st8
  have F_cause_b8 : Fld Z h8 b8 "java/lang/Throwable" "cause" "Ljava/lang/Throwable;" .null := D8 (Or.inl (hw _ (List.mem_of_getElem? (i := 62) rfl))) (ty := (.object "java/lang/Throwable")) (by decide)
  have F_stackTrace_b8 : Fld Z h8 b8 "java/lang/Throwable" "stackTrace" "[Ljava/lang/StackTraceElement;" .null := D8 (Or.inl (hw _ (List.mem_of_getElem? (i := 65) rfl))) (ty := (.array (.object "java/lang/StackTraceElement"))) (by decide)
  have F_suppressedExceptions_b8 : Fld Z h8 b8 "java/lang/Throwable" "suppressedExceptions" "Ljava/util/List;" .null := D8 (Or.inl (hw _ (List.mem_of_getElem? (i := 68) rfl))) (ty := (.object "java/util/List")) (by decide)
  have F_detailMessage_b8 : Fld Z h8 b8 "java/lang/Throwable" "detailMessage" "Ljava/lang/String;" .null := D8 (Or.inl (hw _ (List.mem_of_getElem? (i := 92) rfl))) (ty := (.object "java/lang/String")) (by decide)
  have F_backtrace_b8 : Fld Z h8 b8 "java/lang/Throwable" "backtrace" "Ljava/lang/Object;" .null := D8 (Or.inl (hw _ (List.mem_of_getElem? (i := 93) rfl))) (ty := (.object "java/lang/Object")) (by decide)
  have F_depth_b8 : Fld Z h8 b8 "java/lang/Throwable" "depth" "I" (.int (0 : Int32)) := D8 (Or.inl (hw _ (List.mem_of_getElem? (i := 94) rfl))) (ty := .int) (by decide)
  have F_line_b8 : Fld Z h8 b8 "nephrite/EvaluationException" "line" "I" (.int (0 : Int32)) := D8 (Or.inl (hw _ (List.mem_of_getElem? (i := 103) rfl))) (ty := .int) (by decide)
  have F_templateName_b8 : Fld Z h8 b8 "nephrite/EvaluationException" "templateName" "Ljava/lang/String;" .null := D8 (Or.inl (hw _ (List.mem_of_getElem? (i := 110) rfl))) (ty := (.object "java/lang/String")) (by decide)
  have U_b8 : Unt h8 b8 := by rw [g8]; exact U8
  have E_b8 := A8
  have g_b8 : n0 ≤ b8 := Nat.le_trans (Nat.le_trans (Nat.le_trans Z0 K6c.1) K7c.1) (Nat.le_of_eq g8.symm)
  have sz_b8 : h0.size ≤ b8 := (Nat.le_trans K7.1 (Nat.le_of_eq g8.symm))
  have K8 : Keep h0 h8 [] := K7.ext E8
  obtain ⟨b9, T9, h9, q9, X9, e9, E9, hS, hk, hZ, hown, hC9, -, st9⟩ := ldcOH X8 hx hZ hown (hw _ (List.mem_of_getElem? (i := 37) rfl)) wS e8 hS (Nat.le_trans hk K8.1) (EW.nil : EW Z a0 []) (fun _ q => by cases q) (g := (mkF m 69 #[.val (.int p1), .val (.int p2), .val (.int p3), .val (.int p4), .val (.int p5), .val (.int v12_s0), .val (.int v27_s0), .val (.ref b6), .val (.ref b7), .unset, .unset, .unset, .unset, .unset, .unset] [(.ref b8), (.ref b8)])) rfl (hb hby at_69) (n := 4) (by decide) (by decide) (by decide) (by decide)
  have H := hC9.1
  have K9 : Keep h0 h9 [] := K8.ext E9
  obtain ⟨_, _, ⟨T10, L10, k10, n10⟩, -, X10, ⟨Lc10, hQ10, l10, y10, z10⟩, st10⟩ := X9.specialBack hx (y := (⟨"nephrite/EvaluationException", "<init>", "(Ljava/lang/String;)V"⟩ : MethodName)) rfl hown (mvT hZ (hw _ (List.mem_of_getElem? (i := 40) rfl))) (mvT hZ (hw _ (List.mem_of_getElem? (i := 41) rfl))) (mvT hZ (hw _ (List.mem_of_getElem? (i := 42) rfl))) (by decide) (own_backK (W := 1) (rm8 l Z a0 hw [] b8 b9  h9 n0 (Nat.le_trans (Nat.le_trans (Nat.le_trans (Nat.le_trans Z0 K6c.1) K7c.1) E8.1) E9.1) g_b8 hlT ⟨(E_b8.ext E9), (U_b8.ext E9), ⟨_, (F_cause_b8.ext E9)⟩, ⟨_, (F_stackTrace_b8.ext E9)⟩, ⟨_, (F_suppressedExceptions_b8.ext E9)⟩, (F_backtrace_b8.ext E9), _, (F_detailMessage_b8.ext E9)⟩ (own_St_old S0 (O0.keep K9 all0))) hZ (hw _ (List.mem_of_getElem? (i := 42) rfl)) (hw _ (List.mem_of_getElem? (i := 36) rfl)) (Vm.MethodsKnown.alikeC hZ.alike hTK) (Vm.FramesKnown.alikeC hZ.alike hBK) (by decide) (by decide)) (g := (mkF m 71 #[.val (.int p1), .val (.int p2), .val (.int p3), .val (.int p4), .val (.int p5), .val (.int v12_s0), .val (.int v27_s0), .val (.ref b6), .val (.ref b7), .unset, .unset, .unset, .unset, .unset, .unset] [(.ref b9), (.ref b8), (.ref b8)])) rfl (by rw [hml]; rfl) (Steps.refl _) (a := b8) (argsL := [(.ref b9)]) (rest := [(.ref b8)]) (lenOf pd_0_7 rfl) rfl (by show 2 * 0 + _ ≤ _; exact Nat.le_of_eq rfl) (hb hby at_71) (fun _ _ => ⟨rfl, e9, (by decide : 9 + 1 ≤ _), (by decide : 28 + 2752 ≤ _)⟩)
  dsimp only [Pt.U, Pt.locs, Pt.cells, Pt.slots] at X10 l10 y10 z10 st10 hQ10
  subst l10 y10 z10
  obtain ⟨rfl, N10q, Kp10⟩ := hQ10
  have N10 := Fr.app N7 N10q
  have K10c := keep_of_kp Kp10
  have K10 : Keep h0 T10.heap [] := K9.trans K10c (allS (Or.inr sz_b8) all0)
  have Ec10 := (E_b8.ext E9).kp Kp10
  have Fk10_line := Fld.kp Kp10 (F_line_b8.ext E9) (Or.inr (own_six_ne hw (Or.inl (hw _ (List.mem_of_getElem? (i := 103) rfl))) (ty := .int) (by decide) (by decide)))
  have Fk10_templateName := Fld.kp Kp10 (F_templateName_b8.ext E9) (Or.inr (own_six_ne hw (Or.inl (hw _ (List.mem_of_getElem? (i := 110) rfl))) (ty := (.object "java/lang/String")) (by decide) (by decide)))
  obtain ⟨cq11, kq11, q11a, q11b, q11c⟩ := isOf hZ rfl Ec10
  obtain ⟨_, _, ⟨T11, L11, k11, n11⟩, -, X11, ⟨Lc11, hQ11, l11, y11, z11⟩, st11⟩ := X10.virtualBack hx (y := (⟨"nephrite/EvaluationException", "line", "()I"⟩ : MethodName)) (z := (⟨"nephrite/EvaluationException", "line", "()I"⟩ : MethodName)) hown (mvT hZ (hw _ (List.mem_of_getElem? (i := 97) rfl))) (mvT hZ (hw _ (List.mem_of_getElem? (i := 98) rfl))) (notFace_of_selects (args := #[]) (mvT hZ (hw _ (List.mem_of_getElem? (i := 100) rfl)))) (mvT hZ (hw _ (List.mem_of_getElem? (i := 100) rfl))) (mvT hZ (hw _ (List.mem_of_getElem? (i := 99) rfl))) (by decide) (backOf (W := 0) (rm14 l Z a0 hw [] b8 (0 : Int32) T10.heap n0 (Nat.le_trans (Nat.le_trans (Nat.le_trans (Nat.le_trans (Nat.le_trans Z0 K6c.1) K7c.1) E8.1) E9.1) K10c.1) Fk10_line) hZ (hw _ (List.mem_of_getElem? (i := 101) rfl)) (hw _ (List.mem_of_getElem? (i := 36) rfl)) (by decide) (by decide)) q11a q11c (g := (mkF m 78 #[.val (.int p1), .val (.int p2), .val (.int p3), .val (.int p4), .val (.int p5), .val (.int v12_s0), .val (.int v27_s0), .val (.ref b6), .val (.ref b7), .val (.ref b8), .unset, .unset, .unset, .unset, .unset] [(.ref b8)])) rfl (by rw [hml]; rfl) (Steps.refl _) (argsL := []) (rest := []) (lenOf pd_0_10 rfl) rfl (by show 2 * 0 + _ ≤ _; exact Nat.le_of_eq rfl) (hb hby at_78) (fun _ _ => ⟨rfl, rfl, (by decide : 10 + 0 ≤ _), (by decide : 2780 + 0 ≤ _)⟩)
  dsimp only [Pt.U, Pt.locs, Pt.cells, Pt.slots] at X11 l11 y11 z11 st11 hQ11
  subst l11 y11 z11
  obtain ⟨rfl, N11q, e11⟩ := hQ11
  have N11 := Fr.app N10 N11q
  obtain ⟨cq12, kq12, q12a, q12b, q12c⟩ := isOf hZ e11 Ec10
  obtain ⟨_, _, ⟨T12, L12, k12, n12⟩, -, X12, ⟨Lc12, hQ12, l12, y12, z12⟩, st12⟩ := X11.virtualBack hx (y := (⟨"nephrite/EvaluationException", "templateName", "()Ljava/lang/String;"⟩ : MethodName)) (z := (⟨"nephrite/EvaluationException", "templateName", "()Ljava/lang/String;"⟩ : MethodName)) hown (mvT hZ (hw _ (List.mem_of_getElem? (i := 104) rfl))) (mvT hZ (hw _ (List.mem_of_getElem? (i := 105) rfl))) (notFace_of_selects (args := #[]) (mvT hZ (hw _ (List.mem_of_getElem? (i := 107) rfl)))) (mvT hZ (hw _ (List.mem_of_getElem? (i := 107) rfl))) (mvT hZ (hw _ (List.mem_of_getElem? (i := 106) rfl))) (by decide) (backOf (W := 0) (rm15n l Z a0 hw [] b8  T10.heap n0 (Nat.le_trans (Nat.le_trans (Nat.le_trans (Nat.le_trans (Nat.le_trans Z0 K6c.1) K7c.1) E8.1) E9.1) K10c.1) Fk10_templateName) hZ (hw _ (List.mem_of_getElem? (i := 108) rfl)) (hw _ (List.mem_of_getElem? (i := 36) rfl)) (by decide) (by decide)) q12a q12c (g := (mkF m 86 #[.val (.int p1), .val (.int p2), .val (.int p3), .val (.int p4), .val (.int p5), .val (.int v12_s0), .val (.int v27_s0), .val (.ref b6), .val (.ref b7), .val (.ref b8), .unset, .unset, .unset, .unset, .unset] [(.ref b8)])) rfl (by rw [hml]; rfl) (Steps.refl _) (argsL := []) (rest := []) (lenOf pd_0_11 rfl) rfl (by show 2 * 0 + _ ≤ _; exact Nat.le_of_eq rfl) (hb hby at_86) (fun _ _ => ⟨rfl, e11, (by decide : 10 + 0 ≤ _), (by decide : 2780 + 0 ≤ _)⟩)
  dsimp only [Pt.U, Pt.locs, Pt.cells, Pt.slots] at X12 l12 y12 z12 st12 hQ12
  subst l12 y12 z12
  obtain ⟨rfl, N12q, e12⟩ := hQ12
  have N12 := Fr.app N11 N12q
  obtain ⟨cq13, kq13, q13a, q13b, q13c⟩ := isOf hZ e12 Ec10
  obtain ⟨_, _, ⟨T13, L13, k13, n13⟩, -, X13, ⟨Lc13, hQ13, l13, y13, z13⟩, st13⟩ := X12.virtualBack hx (y := (⟨"nephrite/EvaluationException", "on", "(Ljava/lang/String;I)Lnephrite/EvaluationException;"⟩ : MethodName)) (z := (⟨"nephrite/EvaluationException", "on", "(Ljava/lang/String;I)Lnephrite/EvaluationException;"⟩ : MethodName)) hown (mvT hZ (hw _ (List.mem_of_getElem? (i := 111) rfl))) (mvT hZ (hw _ (List.mem_of_getElem? (i := 112) rfl))) (notFace_of_selects (args := #[]) (mvT hZ (hw _ (List.mem_of_getElem? (i := 114) rfl)))) (mvT hZ (hw _ (List.mem_of_getElem? (i := 114) rfl))) (mvT hZ (hw _ (List.mem_of_getElem? (i := 113) rfl))) (by decide) (backOf (W := 0) (rm16f l Z a0 hw [] b8 b6 v12_s0 _ _ T10.heap n0 (Nat.le_trans (Nat.le_trans (Nat.le_trans (Nat.le_trans (Nat.le_trans Z0 K6c.1) K7c.1) E8.1) E9.1) K10c.1) Fk10_line Ec10 Fk10_templateName g_b8 rfl) hZ (hw _ (List.mem_of_getElem? (i := 115) rfl)) (hw _ (List.mem_of_getElem? (i := 36) rfl)) (by decide) (by decide)) q13a q13c (g := (mkF m 105 #[.val (.int p1), .val (.int p2), .val (.int p3), .val (.int p4), .val (.int p5), .val (.int v12_s0), .val (.int v27_s0), .val (.ref b6), .val (.ref b7), .val (.ref b8), .val (.int (1 : Int32)), .unset, .unset, .unset, .unset] [(.int v12_s0), (.ref b6), (.ref b8)])) rfl (by rw [hml]; rfl) (Steps.refl _) (argsL := [(.ref b6), (.int v12_s0)]) (rest := []) (lenOf pd_0_12 rfl) rfl (by show 2 * 0 + _ ≤ _; exact Nat.le_of_eq rfl) (hb hby at_105) (fun _ _ => ⟨rfl, e12, (by decide : 10 + 0 ≤ _), (by decide : 2780 + 0 ≤ _)⟩)
  dsimp only [Pt.U, Pt.locs, Pt.cells, Pt.slots] at X13 l13 y13 z13 st13 hQ13
  subst l13 y13 z13
  obtain ⟨rfl, N13q, K13c, Ec13, Fc13_0, Fc13_1⟩ := hQ13
  have N13 := Fr.app N12 N13q
  have K13 : Keep h0 T13.heap [] := K10.trans K13c (allS (Or.inr sz_b8) all0)
  obtain ⟨cq14, kq14, q14a, q14b, q14c⟩ := isOf hZ rfl Ec13
  obtain ⟨_, _, ⟨T14, L14, k14, n14⟩, -, X14, ⟨Lc14, hQ14, l14, y14, z14⟩, st14⟩ := X13.virtualBack hx (y := (⟨"nephrite/EvaluationException", "line", "()I"⟩ : MethodName)) (z := (⟨"nephrite/EvaluationException", "line", "()I"⟩ : MethodName)) hown (mvT hZ (hw _ (List.mem_of_getElem? (i := 97) rfl))) (mvT hZ (hw _ (List.mem_of_getElem? (i := 98) rfl))) (notFace_of_selects (args := #[]) (mvT hZ (hw _ (List.mem_of_getElem? (i := 100) rfl)))) (mvT hZ (hw _ (List.mem_of_getElem? (i := 100) rfl))) (mvT hZ (hw _ (List.mem_of_getElem? (i := 99) rfl))) (by decide) (backOf (W := 0) (rm14 l Z a0 hw [] b8 v12_s0 T13.heap n0 (Nat.le_trans (Nat.le_trans (Nat.le_trans (Nat.le_trans (Nat.le_trans (Nat.le_trans Z0 K6c.1) K7c.1) E8.1) E9.1) K10c.1) K13c.1) Fc13_0) hZ (hw _ (List.mem_of_getElem? (i := 101) rfl)) (hw _ (List.mem_of_getElem? (i := 36) rfl)) (by decide) (by decide)) q14a q14c (g := (mkF m 124 #[.val (.int p1), .val (.int p2), .val (.int p3), .val (.int p4), .val (.int p5), .val (.int v12_s0), .val (.int v27_s0), .val (.ref b6), .val (.ref b7), .val (.ref b8), .val (.int (1 : Int32)), .val (.ref b8), .unset, .unset, .unset] [(.ref b8)])) rfl (by rw [hml]; rfl) (Steps.refl _) (argsL := []) (rest := []) (lenOf pd_0_10 rfl) rfl (by show 2 * 0 + _ ≤ _; exact Nat.le_of_eq rfl) (hb hby at_124) (fun _ _ => ⟨rfl, rfl, (by decide : 10 + 0 ≤ _), (by decide : 2780 + 0 ≤ _)⟩)
  dsimp only [Pt.U, Pt.locs, Pt.cells, Pt.slots] at X14 l14 y14 z14 st14 hQ14
  subst l14 y14 z14
  obtain ⟨rfl, N14q, e14⟩ := hQ14
  have N14 := Fr.app N13 N14q
  obtain ⟨cq15, kq15, q15a, q15b, q15c⟩ := isOf hZ e14 Ec13
  obtain ⟨_, _, ⟨T15, L15, k15, n15⟩, -, X15, ⟨Lc15, hQ15, l15, y15, z15⟩, st15⟩ := X14.virtualBack hx (y := (⟨"nephrite/EvaluationException", "templateName", "()Ljava/lang/String;"⟩ : MethodName)) (z := (⟨"nephrite/EvaluationException", "templateName", "()Ljava/lang/String;"⟩ : MethodName)) hown (mvT hZ (hw _ (List.mem_of_getElem? (i := 104) rfl))) (mvT hZ (hw _ (List.mem_of_getElem? (i := 105) rfl))) (notFace_of_selects (args := #[]) (mvT hZ (hw _ (List.mem_of_getElem? (i := 107) rfl)))) (mvT hZ (hw _ (List.mem_of_getElem? (i := 107) rfl))) (mvT hZ (hw _ (List.mem_of_getElem? (i := 106) rfl))) (by decide) (backOf (W := 0) (rm15 l Z a0 hw [] b8 b6 T13.heap n0 (Nat.le_trans (Nat.le_trans (Nat.le_trans (Nat.le_trans (Nat.le_trans (Nat.le_trans Z0 K6c.1) K7c.1) E8.1) E9.1) K10c.1) K13c.1) Fc13_1) hZ (hw _ (List.mem_of_getElem? (i := 108) rfl)) (hw _ (List.mem_of_getElem? (i := 36) rfl)) (by decide) (by decide)) q15a q15c (g := (mkF m 134 #[.val (.int p1), .val (.int p2), .val (.int p3), .val (.int p4), .val (.int p5), .val (.int v12_s0), .val (.int v27_s0), .val (.ref b6), .val (.ref b7), .val (.ref b8), .val (.int (1 : Int32)), .val (.ref b8), .unset, .unset, .unset] [(.ref b8)])) rfl (by rw [hml]; rfl) (Steps.refl _) (argsL := []) (rest := []) (lenOf pd_0_11 rfl) rfl (by show 2 * 0 + _ ≤ _; exact Nat.le_of_eq rfl) (hb hby at_134) (fun _ _ => ⟨rfl, e14, (by decide : 10 + 0 ≤ _), (by decide : 2780 + 0 ≤ _)⟩)
  dsimp only [Pt.U, Pt.locs, Pt.cells, Pt.slots] at X15 l15 y15 z15 st15 hQ15
  subst l15 y15 z15
  obtain ⟨rfl, N15q, e15⟩ := hQ15
  have N15 := Fr.app N14 N15q
  obtain ⟨cq16, kq16, q16a, q16b, q16c⟩ := isOf hZ e15 Ec13
  obtain ⟨_, _, ⟨T16, L16, k16, n16⟩, -, X16, ⟨Lc16, hQ16, l16, y16, z16⟩, st16⟩ := X15.virtualBack hx (y := (⟨"nephrite/EvaluationException", "on", "(Ljava/lang/String;I)Lnephrite/EvaluationException;"⟩ : MethodName)) (z := (⟨"nephrite/EvaluationException", "on", "(Ljava/lang/String;I)Lnephrite/EvaluationException;"⟩ : MethodName)) hown (mvT hZ (hw _ (List.mem_of_getElem? (i := 111) rfl))) (mvT hZ (hw _ (List.mem_of_getElem? (i := 112) rfl))) (notFace_of_selects (args := #[]) (mvT hZ (hw _ (List.mem_of_getElem? (i := 114) rfl)))) (mvT hZ (hw _ (List.mem_of_getElem? (i := 114) rfl))) (mvT hZ (hw _ (List.mem_of_getElem? (i := 113) rfl))) (by decide) (backOf (W := 0) (rm16f l Z a0 hw [] b8 b7 v27_s0 _ _ T13.heap n0 (Nat.le_trans (Nat.le_trans (Nat.le_trans (Nat.le_trans (Nat.le_trans (Nat.le_trans Z0 K6c.1) K7c.1) E8.1) E9.1) K10c.1) K13c.1) Fc13_0 Ec13 Fc13_1 g_b8 hc162) hZ (hw _ (List.mem_of_getElem? (i := 115) rfl)) (hw _ (List.mem_of_getElem? (i := 36) rfl)) (by decide) (by decide)) q16a q16c (g := (mkF m 155 #[.val (.int p1), .val (.int p2), .val (.int p3), .val (.int p4), .val (.int p5), .val (.int v12_s0), .val (.int v27_s0), .val (.ref b6), .val (.ref b7), .val (.ref b8), .val (.int (1 : Int32)), .val (.ref b8), .unset, .unset, .unset] [(.int v27_s0), (.ref b7), (.ref b8)])) rfl (by rw [hml]; rfl) (Steps.refl _) (argsL := [(.ref b7), (.int v27_s0)]) (rest := []) (lenOf pd_0_12 rfl) rfl (by show 2 * 0 + _ ≤ _; exact Nat.le_of_eq rfl) (hb hby at_155) (fun _ _ => ⟨rfl, e15, (by decide : 10 + 0 ≤ _), (by decide : 2780 + 0 ≤ _)⟩)
  dsimp only [Pt.U, Pt.locs, Pt.cells, Pt.slots] at X16 l16 y16 z16 st16 hQ16
  subst l16 y16 z16
  obtain ⟨rfl, N16q, K16c, Ec16, Fc16_0, Fc16_1⟩ := hQ16
  have N16 := Fr.app N15 N16q
  have K16 : Keep h0 T16.heap [] := K13.trans K16c (allS (Or.inr sz_b8) all0)
  obtain ⟨cq17, kq17, q17a, q17b, q17c⟩ := isOf hZ rfl Ec16
  obtain ⟨_, _, ⟨T17, L17, k17, n17⟩, -, X17, ⟨Lc17, hQ17, l17, y17, z17⟩, st17⟩ := X16.virtualBack hx (y := (⟨"nephrite/EvaluationException", "line", "()I"⟩ : MethodName)) (z := (⟨"nephrite/EvaluationException", "line", "()I"⟩ : MethodName)) hown (mvT hZ (hw _ (List.mem_of_getElem? (i := 97) rfl))) (mvT hZ (hw _ (List.mem_of_getElem? (i := 98) rfl))) (notFace_of_selects (args := #[]) (mvT hZ (hw _ (List.mem_of_getElem? (i := 100) rfl)))) (mvT hZ (hw _ (List.mem_of_getElem? (i := 100) rfl))) (mvT hZ (hw _ (List.mem_of_getElem? (i := 99) rfl))) (by decide) (backOf (W := 0) (rm14 l Z a0 hw [] b8 v27_s0 T16.heap n0 (Nat.le_trans (Nat.le_trans (Nat.le_trans (Nat.le_trans (Nat.le_trans (Nat.le_trans (Nat.le_trans Z0 K6c.1) K7c.1) E8.1) E9.1) K10c.1) K13c.1) K16c.1) Fc16_0) hZ (hw _ (List.mem_of_getElem? (i := 101) rfl)) (hw _ (List.mem_of_getElem? (i := 36) rfl)) (by decide) (by decide)) q17a q17c (g := (mkF m 202 #[.val (.int p1), .val (.int p2), .val (.int p3), .val (.int p4), .val (.int p5), .val (.int v12_s0), .val (.int v27_s0), .val (.ref b6), .val (.ref b7), .val (.ref b8), .val (.int (1 : Int32)), .val (.ref b8), .val (.ref b8), .val (.int v27_s0), .val (.ref b7)] [(.ref b8)])) rfl (by rw [hml]; rfl) (Steps.refl _) (argsL := []) (rest := []) (lenOf pd_0_10 rfl) rfl (by show 2 * 0 + _ ≤ _; exact Nat.le_of_eq rfl) (hb hby at_202) (fun _ _ => ⟨rfl, rfl, (by decide : 10 + 0 ≤ _), (by decide : 2780 + 0 ≤ _)⟩)
  dsimp only [Pt.U, Pt.locs, Pt.cells, Pt.slots] at X17 l17 y17 z17 st17 hQ17
  subst l17 y17 z17
  obtain ⟨rfl, N17q, e17⟩ := hQ17
  have N17 := Fr.app N16 N17q
  obtain ⟨cq18, kq18, q18a, q18b, q18c⟩ := isOf hZ e17 Ec16
  obtain ⟨_, _, ⟨T18, L18, k18, n18⟩, -, X18, ⟨Lc18, hQ18, l18, y18, z18⟩, st18⟩ := X17.virtualBack hx (y := (⟨"nephrite/EvaluationException", "templateName", "()Ljava/lang/String;"⟩ : MethodName)) (z := (⟨"nephrite/EvaluationException", "templateName", "()Ljava/lang/String;"⟩ : MethodName)) hown (mvT hZ (hw _ (List.mem_of_getElem? (i := 104) rfl))) (mvT hZ (hw _ (List.mem_of_getElem? (i := 105) rfl))) (notFace_of_selects (args := #[]) (mvT hZ (hw _ (List.mem_of_getElem? (i := 107) rfl)))) (mvT hZ (hw _ (List.mem_of_getElem? (i := 107) rfl))) (mvT hZ (hw _ (List.mem_of_getElem? (i := 106) rfl))) (by decide) (backOf (W := 0) (rm15 l Z a0 hw [] b8 b7 T16.heap n0 (Nat.le_trans (Nat.le_trans (Nat.le_trans (Nat.le_trans (Nat.le_trans (Nat.le_trans (Nat.le_trans Z0 K6c.1) K7c.1) E8.1) E9.1) K10c.1) K13c.1) K16c.1) Fc16_1) hZ (hw _ (List.mem_of_getElem? (i := 108) rfl)) (hw _ (List.mem_of_getElem? (i := 36) rfl)) (by decide) (by decide)) q18a q18c (g := (mkF m 212 #[.val (.int p1), .val (.int p2), .val (.int p3), .val (.int p4), .val (.int p5), .val (.int v12_s0), .val (.int v27_s0), .val (.ref b6), .val (.ref b7), .val (.ref b8), .val (.int (1 : Int32)), .val (.ref b8), .val (.ref b8), .val (.int v27_s0), .val (.ref b7)] [(.ref b8)])) rfl (by rw [hml]; rfl) (Steps.refl _) (argsL := []) (rest := []) (lenOf pd_0_11 rfl) rfl (by show 2 * 0 + _ ≤ _; exact Nat.le_of_eq rfl) (hb hby at_212) (fun _ _ => ⟨rfl, e17, (by decide : 10 + 0 ≤ _), (by decide : 2780 + 0 ≤ _)⟩)
  dsimp only [Pt.U, Pt.locs, Pt.cells, Pt.slots] at X18 l18 y18 z18 st18 hQ18
  subst l18 y18 z18
  obtain ⟨rfl, N18q, e18⟩ := hQ18
  have N18 := Fr.app N17 N18q
  obtain ⟨fs, hr, hrun, hended, hRE⟩ := X18.leaveW hS (by rw [e18]; exact (Nat.le_trans (Nat.le_trans (Nat.le_trans hk K10c.1) K13c.1) K16c.1)) (v := some (.int (1 : Int32))) (fun h => by rw [Bd.returns] at h; cases h)
  refine ⟨_, _, pre0 _ ?_, hrun, hended, _, _, rfl, ?_, hRE.1, hRE.2.1, hRE.2.2.1, hRE.2.2.2.mono (by decide) (by decide)⟩
  · show Steps p.tables e below (s₁.setTop (mkF m 0 #[.val (.int p1), .val (.int p2), .val (.int p3), .val (.int p4), .val (.int p5), .unset, .unset, .unset, .unset, .unset, .unset, .unset, .unset, .unset, .unset] [])) _
    refine XS.iload X0.here hx rfl (hb hby at_0) rfl ?_
    show Steps p.tables e below (s₁.setTop (mkF m 2 #[.val (.int p1), .val (.int p2), .val (.int p3), .val (.int p4), .val (.int p5), .unset, .unset, .unset, .unset, .unset, .unset, .unset, .unset, .unset, .unset] [(.int p5)])) _
    refine XS.iconst X0.here hx rfl (hb hby at_2) ?_
    show Steps p.tables e below (s₁.setTop (mkF m 3 #[.val (.int p1), .val (.int p2), .val (.int p3), .val (.int p4), .val (.int p5), .unset, .unset, .unset, .unset, .unset, .unset, .unset, .unset, .unset, .unset] [(.int (1 : Int32)), (.int p5)])) _
    refine XS.iand X0.here hx rfl (hb hby at_3) rfl ?_
    refine sg4 _ ?_
    show Steps p.tables e below (s₁.setTop (mkF m 12 #[.val (.int p1), .val (.int p2), .val (.int p3), .val (.int p4), .val (.int p5), .unset, .unset, .unset, .unset, .unset, .unset, .unset, .unset, .unset, .unset] [(.int v12_s0)])) _
    refine XS.istore X0.here hx rfl (hb hby at_12) rfl (l' := #[.val (.int p1), .val (.int p2), .val (.int p3), .val (.int p4), .val (.int p5), .val (.int v12_s0), .unset, .unset, .unset, .unset, .unset, .unset, .unset, .unset, .unset]) rfl ?_
    show Steps p.tables e below (s₁.setTop (mkF m 14 #[.val (.int p1), .val (.int p2), .val (.int p3), .val (.int p4), .val (.int p5), .val (.int v12_s0), .unset, .unset, .unset, .unset, .unset, .unset, .unset, .unset, .unset] [])) _
    refine XS.iload X0.here hx rfl (hb hby at_14) rfl ?_
    show Steps p.tables e below (s₁.setTop (mkF m 16 #[.val (.int p1), .val (.int p2), .val (.int p3), .val (.int p4), .val (.int p5), .val (.int v12_s0), .unset, .unset, .unset, .unset, .unset, .unset, .unset, .unset, .unset] [(.int p5)])) _
    refine XS.bipush X0.here hx rfl (hb hby at_16) ?_
    show Steps p.tables e below (s₁.setTop (mkF m 18 #[.val (.int p1), .val (.int p2), .val (.int p3), .val (.int p4), .val (.int p5), .val (.int v12_s0), .unset, .unset, .unset, .unset, .unset, .unset, .unset, .unset, .unset] [(.int (8 : Int32)), (.int p5)])) _
    refine XS.iand X0.here hx rfl (hb hby at_18) rfl ?_
    refine sg19 _ ?_
    show Steps p.tables e below (s₁.setTop (mkF m 27 #[.val (.int p1), .val (.int p2), .val (.int p3), .val (.int p4), .val (.int p5), .val (.int v12_s0), .unset, .unset, .unset, .unset, .unset, .unset, .unset, .unset, .unset] [(.int v27_s0)])) _
    refine XS.istore X0.here hx rfl (hb hby at_27) rfl (l' := #[.val (.int p1), .val (.int p2), .val (.int p3), .val (.int p4), .val (.int p5), .val (.int v12_s0), .val (.int v27_s0), .unset, .unset, .unset, .unset, .unset, .unset, .unset, .unset]) rfl ?_
    show Steps p.tables e below (s₁.setTop (mkF m 29 #[.val (.int p1), .val (.int p2), .val (.int p3), .val (.int p4), .val (.int p5), .val (.int v12_s0), .val (.int v27_s0), .unset, .unset, .unset, .unset, .unset, .unset, .unset, .unset] [])) _
    refine XS.iloadN X0.here hx rfl (hb hby at_29) rfl ?_
    show Steps p.tables e below (s₁.setTop (mkF m 30 #[.val (.int p1), .val (.int p2), .val (.int p3), .val (.int p4), .val (.int p5), .val (.int v12_s0), .val (.int v27_s0), .unset, .unset, .unset, .unset, .unset, .unset, .unset, .unset] [(.int p3)])) _
    refine XS.iload X0.here hx rfl (hb hby at_30) rfl ?_
    show Steps p.tables e below (s₁.setTop (mkF m 32 #[.val (.int p1), .val (.int p2), .val (.int p3), .val (.int p4), .val (.int p5), .val (.int v12_s0), .val (.int v27_s0), .unset, .unset, .unset, .unset, .unset, .unset, .unset, .unset] [(.int p5), (.int p3)])) _
    refine XS.iconst X0.here hx rfl (hb hby at_32) ?_
    show Steps p.tables e below (s₁.setTop (mkF m 33 #[.val (.int p1), .val (.int p2), .val (.int p3), .val (.int p4), .val (.int p5), .val (.int v12_s0), .val (.int v27_s0), .unset, .unset, .unset, .unset, .unset, .unset, .unset, .unset] [(.int (2 : Int32)), (.int p5), (.int p3)])) _
    refine XS.iand X0.here hx rfl (hb hby at_33) rfl ?_
    show Steps p.tables e below (s₁.setTop (mkF m 34 #[.val (.int p1), .val (.int p2), .val (.int p3), .val (.int p4), .val (.int p5), .val (.int v12_s0), .val (.int v27_s0), .unset, .unset, .unset, .unset, .unset, .unset, .unset, .unset] [(.int (p5 &&& (2 : Int32))), (.int p3)])) _
    refine XS.ifYes X0.here hx rfl (pc0 := 34) (pc' := 41) rfl (hb hby at_34) rfl ((if0 _ _).trans (teq hc34).1) (by decide) (by decide) ?_
    show Steps p.tables e below (s₁.setTop (mkF m 41 #[.val (.int p1), .val (.int p2), .val (.int p3), .val (.int p4), .val (.int p5), .val (.int v12_s0), .val (.int v27_s0), .unset, .unset, .unset, .unset, .unset, .unset, .unset, .unset] [(.int p3)])) _
    refine XS.iconst X0.here hx rfl (hb hby at_41) ?_
    show Steps p.tables e below (s₁.setTop (mkF m 42 #[.val (.int p1), .val (.int p2), .val (.int p3), .val (.int p4), .val (.int p5), .val (.int v12_s0), .val (.int v27_s0), .unset, .unset, .unset, .unset, .unset, .unset, .unset, .unset] [(.int (0 : Int32)), (.int p3)])) _
    refine st6 _ ?_
    show Steps p.tables e below (T6.setTop (mkF m 45 #[.val (.int p1), .val (.int p2), .val (.int p3), .val (.int p4), .val (.int p5), .val (.int v12_s0), .val (.int v27_s0), .unset, .unset, .unset, .unset, .unset, .unset, .unset, .unset] [(.ref b6)])) _
    refine XS.astore X6.here hx rfl (hb hby at_45) rfl rfl (l' := #[.val (.int p1), .val (.int p2), .val (.int p3), .val (.int p4), .val (.int p5), .val (.int v12_s0), .val (.int v27_s0), .val (.ref b6), .unset, .unset, .unset, .unset, .unset, .unset, .unset]) rfl ?_
    show Steps p.tables e below (T6.setTop (mkF m 47 #[.val (.int p1), .val (.int p2), .val (.int p3), .val (.int p4), .val (.int p5), .val (.int v12_s0), .val (.int v27_s0), .val (.ref b6), .unset, .unset, .unset, .unset, .unset, .unset, .unset] [])) _
    refine XS.iloadN X6.here hx rfl (hb hby at_47) rfl ?_
    show Steps p.tables e below (T6.setTop (mkF m 48 #[.val (.int p1), .val (.int p2), .val (.int p3), .val (.int p4), .val (.int p5), .val (.int v12_s0), .val (.int v27_s0), .val (.ref b6), .unset, .unset, .unset, .unset, .unset, .unset, .unset] [(.int p4)])) _
    refine XS.iload X6.here hx rfl (hb hby at_48) rfl ?_
    show Steps p.tables e below (T6.setTop (mkF m 50 #[.val (.int p1), .val (.int p2), .val (.int p3), .val (.int p4), .val (.int p5), .val (.int v12_s0), .val (.int v27_s0), .val (.ref b6), .unset, .unset, .unset, .unset, .unset, .unset, .unset] [(.int p5), (.int p4)])) _
    refine XS.iconst X6.here hx rfl (hb hby at_50) ?_
    show Steps p.tables e below (T6.setTop (mkF m 51 #[.val (.int p1), .val (.int p2), .val (.int p3), .val (.int p4), .val (.int p5), .val (.int v12_s0), .val (.int v27_s0), .val (.ref b6), .unset, .unset, .unset, .unset, .unset, .unset, .unset] [(.int (4 : Int32)), (.int p5), (.int p4)])) _
    refine XS.iand X6.here hx rfl (hb hby at_51) rfl ?_
    show Steps p.tables e below (T6.setTop (mkF m 52 #[.val (.int p1), .val (.int p2), .val (.int p3), .val (.int p4), .val (.int p5), .val (.int v12_s0), .val (.int v27_s0), .val (.ref b6), .unset, .unset, .unset, .unset, .unset, .unset, .unset] [(.int (p5 &&& (4 : Int32))), (.int p4)])) _
    refine XS.ifYes X6.here hx rfl (pc0 := 52) (pc' := 59) rfl (hb hby at_52) rfl ((if0 _ _).trans (teq hc52).1) (by decide) (by decide) ?_
    show Steps p.tables e below (T6.setTop (mkF m 59 #[.val (.int p1), .val (.int p2), .val (.int p3), .val (.int p4), .val (.int p5), .val (.int v12_s0), .val (.int v27_s0), .val (.ref b6), .unset, .unset, .unset, .unset, .unset, .unset, .unset] [(.int p4)])) _
    refine XS.iconst X6.here hx rfl (hb hby at_59) ?_
    show Steps p.tables e below (T6.setTop (mkF m 60 #[.val (.int p1), .val (.int p2), .val (.int p3), .val (.int p4), .val (.int p5), .val (.int v12_s0), .val (.int v27_s0), .val (.ref b6), .unset, .unset, .unset, .unset, .unset, .unset, .unset] [(.int (0 : Int32)), (.int p4)])) _
    refine st7 _ ?_
    show Steps p.tables e below (T7.setTop (mkF m 63 #[.val (.int p1), .val (.int p2), .val (.int p3), .val (.int p4), .val (.int p5), .val (.int v12_s0), .val (.int v27_s0), .val (.ref b6), .unset, .unset, .unset, .unset, .unset, .unset, .unset] [(.ref b7)])) _
    refine XS.astore X7.here hx rfl (hb hby at_63) rfl rfl (l' := #[.val (.int p1), .val (.int p2), .val (.int p3), .val (.int p4), .val (.int p5), .val (.int v12_s0), .val (.int v27_s0), .val (.ref b6), .val (.ref b7), .unset, .unset, .unset, .unset, .unset, .unset]) rfl ?_
    show Steps p.tables e below (T7.setTop (mkF m 65 #[.val (.int p1), .val (.int p2), .val (.int p3), .val (.int p4), .val (.int p5), .val (.int v12_s0), .val (.int v27_s0), .val (.ref b6), .val (.ref b7), .unset, .unset, .unset, .unset, .unset, .unset] [])) _
    refine st8 _ ?_
    show Steps p.tables e below (T8.setTop (mkF m 68 #[.val (.int p1), .val (.int p2), .val (.int p3), .val (.int p4), .val (.int p5), .val (.int v12_s0), .val (.int v27_s0), .val (.ref b6), .val (.ref b7), .unset, .unset, .unset, .unset, .unset, .unset] [(.ref b8)])) _
    refine XS.dup X8.here hx rfl (hb hby at_68) rfl rfl ?_
    show Steps p.tables e below (T8.setTop (mkF m 69 #[.val (.int p1), .val (.int p2), .val (.int p3), .val (.int p4), .val (.int p5), .val (.int v12_s0), .val (.int v27_s0), .val (.ref b6), .val (.ref b7), .unset, .unset, .unset, .unset, .unset, .unset] [(.ref b8), (.ref b8)])) _
    refine st9 _ ?_
    show Steps p.tables e below (T9.setTop (mkF m 71 #[.val (.int p1), .val (.int p2), .val (.int p3), .val (.int p4), .val (.int p5), .val (.int v12_s0), .val (.int v27_s0), .val (.ref b6), .val (.ref b7), .unset, .unset, .unset, .unset, .unset, .unset] [(.ref b9), (.ref b8), (.ref b8)])) _
    refine st10.trans ?_
    show Steps p.tables e below (T10.setTop (mkF m 74 #[.val (.int p1), .val (.int p2), .val (.int p3), .val (.int p4), .val (.int p5), .val (.int v12_s0), .val (.int v27_s0), .val (.ref b6), .val (.ref b7), .unset, .unset, .unset, .unset, .unset, .unset] [(.ref b8)])) _
    refine XS.astore X10.here hx rfl (hb hby at_74) rfl rfl (l' := #[.val (.int p1), .val (.int p2), .val (.int p3), .val (.int p4), .val (.int p5), .val (.int v12_s0), .val (.int v27_s0), .val (.ref b6), .val (.ref b7), .val (.ref b8), .unset, .unset, .unset, .unset, .unset]) rfl ?_
    show Steps p.tables e below (T10.setTop (mkF m 76 #[.val (.int p1), .val (.int p2), .val (.int p3), .val (.int p4), .val (.int p5), .val (.int v12_s0), .val (.int v27_s0), .val (.ref b6), .val (.ref b7), .val (.ref b8), .unset, .unset, .unset, .unset, .unset] [])) _
    refine XS.aload X10.here hx rfl (hb hby at_76) rfl rfl ?_
    show Steps p.tables e below (T10.setTop (mkF m 78 #[.val (.int p1), .val (.int p2), .val (.int p3), .val (.int p4), .val (.int p5), .val (.int v12_s0), .val (.int v27_s0), .val (.ref b6), .val (.ref b7), .val (.ref b8), .unset, .unset, .unset, .unset, .unset] [(.ref b8)])) _
    refine st11.trans ?_
    show Steps p.tables e below (T11.setTop (mkF m 81 #[.val (.int p1), .val (.int p2), .val (.int p3), .val (.int p4), .val (.int p5), .val (.int v12_s0), .val (.int v27_s0), .val (.ref b6), .val (.ref b7), .val (.ref b8), .unset, .unset, .unset, .unset, .unset] [(.int (0 : Int32))])) _
    refine XS.ifNo X11.here hx rfl (hb hby at_81) rfl ((if0 _ _).trans (teq (rfl : (0 : Int32) = (0 : Int32))).2) ?_
    show Steps p.tables e below (T11.setTop (mkF m 84 #[.val (.int p1), .val (.int p2), .val (.int p3), .val (.int p4), .val (.int p5), .val (.int v12_s0), .val (.int v27_s0), .val (.ref b6), .val (.ref b7), .val (.ref b8), .unset, .unset, .unset, .unset, .unset] [])) _
    refine XS.aload X11.here hx rfl (hb hby at_84) rfl rfl ?_
    show Steps p.tables e below (T11.setTop (mkF m 86 #[.val (.int p1), .val (.int p2), .val (.int p3), .val (.int p4), .val (.int p5), .val (.int v12_s0), .val (.int v27_s0), .val (.ref b6), .val (.ref b7), .val (.ref b8), .unset, .unset, .unset, .unset, .unset] [(.ref b8)])) _
    refine st12.trans ?_
    show Steps p.tables e below (T12.setTop (mkF m 89 #[.val (.int p1), .val (.int p2), .val (.int p3), .val (.int p4), .val (.int p5), .val (.int v12_s0), .val (.int v27_s0), .val (.ref b6), .val (.ref b7), .val (.ref b8), .unset, .unset, .unset, .unset, .unset] [.null])) _
    refine XS.ifnonnullNo X12.here hx rfl (hb hby at_89) rfl ?_
    show Steps p.tables e below (T12.setTop (mkF m 92 #[.val (.int p1), .val (.int p2), .val (.int p3), .val (.int p4), .val (.int p5), .val (.int v12_s0), .val (.int v27_s0), .val (.ref b6), .val (.ref b7), .val (.ref b8), .unset, .unset, .unset, .unset, .unset] [])) _
    refine XS.iconst X12.here hx rfl (hb hby at_92) ?_
    show Steps p.tables e below (T12.setTop (mkF m 93 #[.val (.int p1), .val (.int p2), .val (.int p3), .val (.int p4), .val (.int p5), .val (.int v12_s0), .val (.int v27_s0), .val (.ref b6), .val (.ref b7), .val (.ref b8), .unset, .unset, .unset, .unset, .unset] [(.int (1 : Int32))])) _
    refine XS.goto X12.here hx rfl (pc0 := 93) (pc' := 97) rfl (hb hby at_93) (by decide) (by decide) ?_
    show Steps p.tables e below (T12.setTop (mkF m 97 #[.val (.int p1), .val (.int p2), .val (.int p3), .val (.int p4), .val (.int p5), .val (.int v12_s0), .val (.int v27_s0), .val (.ref b6), .val (.ref b7), .val (.ref b8), .unset, .unset, .unset, .unset, .unset] [(.int (1 : Int32))])) _
    refine XS.istore X12.here hx rfl (hb hby at_97) rfl (l' := #[.val (.int p1), .val (.int p2), .val (.int p3), .val (.int p4), .val (.int p5), .val (.int v12_s0), .val (.int v27_s0), .val (.ref b6), .val (.ref b7), .val (.ref b8), .val (.int (1 : Int32)), .unset, .unset, .unset, .unset]) rfl ?_
    show Steps p.tables e below (T12.setTop (mkF m 99 #[.val (.int p1), .val (.int p2), .val (.int p3), .val (.int p4), .val (.int p5), .val (.int v12_s0), .val (.int v27_s0), .val (.ref b6), .val (.ref b7), .val (.ref b8), .val (.int (1 : Int32)), .unset, .unset, .unset, .unset] [])) _
    refine XS.aload X12.here hx rfl (hb hby at_99) rfl rfl ?_
    show Steps p.tables e below (T12.setTop (mkF m 101 #[.val (.int p1), .val (.int p2), .val (.int p3), .val (.int p4), .val (.int p5), .val (.int v12_s0), .val (.int v27_s0), .val (.ref b6), .val (.ref b7), .val (.ref b8), .val (.int (1 : Int32)), .unset, .unset, .unset, .unset] [(.ref b8)])) _
    refine XS.aload X12.here hx rfl (hb hby at_101) rfl rfl ?_
    show Steps p.tables e below (T12.setTop (mkF m 103 #[.val (.int p1), .val (.int p2), .val (.int p3), .val (.int p4), .val (.int p5), .val (.int v12_s0), .val (.int v27_s0), .val (.ref b6), .val (.ref b7), .val (.ref b8), .val (.int (1 : Int32)), .unset, .unset, .unset, .unset] [(.ref b6), (.ref b8)])) _
    refine XS.iload X12.here hx rfl (hb hby at_103) rfl ?_
    show Steps p.tables e below (T12.setTop (mkF m 105 #[.val (.int p1), .val (.int p2), .val (.int p3), .val (.int p4), .val (.int p5), .val (.int v12_s0), .val (.int v27_s0), .val (.ref b6), .val (.ref b7), .val (.ref b8), .val (.int (1 : Int32)), .unset, .unset, .unset, .unset] [(.int v12_s0), (.ref b6), (.ref b8)])) _
    refine st13.trans ?_
    show Steps p.tables e below (T13.setTop (mkF m 108 #[.val (.int p1), .val (.int p2), .val (.int p3), .val (.int p4), .val (.int p5), .val (.int v12_s0), .val (.int v27_s0), .val (.ref b6), .val (.ref b7), .val (.ref b8), .val (.int (1 : Int32)), .unset, .unset, .unset, .unset] [(.ref b8)])) _
    refine XS.astore X13.here hx rfl (hb hby at_108) rfl rfl (l' := #[.val (.int p1), .val (.int p2), .val (.int p3), .val (.int p4), .val (.int p5), .val (.int v12_s0), .val (.int v27_s0), .val (.ref b6), .val (.ref b7), .val (.ref b8), .val (.int (1 : Int32)), .val (.ref b8), .unset, .unset, .unset]) rfl ?_
    show Steps p.tables e below (T13.setTop (mkF m 110 #[.val (.int p1), .val (.int p2), .val (.int p3), .val (.int p4), .val (.int p5), .val (.int v12_s0), .val (.int v27_s0), .val (.ref b6), .val (.ref b7), .val (.ref b8), .val (.int (1 : Int32)), .val (.ref b8), .unset, .unset, .unset] [])) _
    refine XS.iload X13.here hx rfl (hb hby at_110) rfl ?_
    show Steps p.tables e below (T13.setTop (mkF m 112 #[.val (.int p1), .val (.int p2), .val (.int p3), .val (.int p4), .val (.int p5), .val (.int v12_s0), .val (.int v27_s0), .val (.ref b6), .val (.ref b7), .val (.ref b8), .val (.int (1 : Int32)), .val (.ref b8), .unset, .unset, .unset] [(.int (1 : Int32))])) _
    refine XS.ifNo X13.here hx rfl (hb hby at_112) rfl ((if0 _ _).trans (feq (by decide : ¬ ((1 : Int32) = (0 : Int32)))).1) ?_
    show Steps p.tables e below (T13.setTop (mkF m 115 #[.val (.int p1), .val (.int p2), .val (.int p3), .val (.int p4), .val (.int p5), .val (.int v12_s0), .val (.int v27_s0), .val (.ref b6), .val (.ref b7), .val (.ref b8), .val (.int (1 : Int32)), .val (.ref b8), .unset, .unset, .unset] [])) _
    refine XS.aload X13.here hx rfl (hb hby at_115) rfl rfl ?_
    show Steps p.tables e below (T13.setTop (mkF m 117 #[.val (.int p1), .val (.int p2), .val (.int p3), .val (.int p4), .val (.int p5), .val (.int v12_s0), .val (.int v27_s0), .val (.ref b6), .val (.ref b7), .val (.ref b8), .val (.int (1 : Int32)), .val (.ref b8), .unset, .unset, .unset] [(.ref b8)])) _
    refine XS.aload X13.here hx rfl (hb hby at_117) rfl rfl ?_
    show Steps p.tables e below (T13.setTop (mkF m 119 #[.val (.int p1), .val (.int p2), .val (.int p3), .val (.int p4), .val (.int p5), .val (.int v12_s0), .val (.int v27_s0), .val (.ref b6), .val (.ref b7), .val (.ref b8), .val (.int (1 : Int32)), .val (.ref b8), .unset, .unset, .unset] [(.ref b8), (.ref b8)])) _
    refine Jvm.RoadKit.acmp (g := (mkF m 119 #[.val (.int p1), .val (.int p2), .val (.int p3), .val (.int p4), .val (.int p5), .val (.int v12_s0), .val (.int v27_s0), .val (.ref b6), .val (.ref b7), .val (.ref b8), .val (.int (1 : Int32)), .val (.ref b8), .unset, .unset, .unset] [(.ref b8), (.ref b8)])) X13 hx rfl rfl rfl (pc0 := 119) (pc' := 122) (same := true) rfl (hb hby at_119) rfl (decide_eq_true rfl) (by decide) (by decide) ?_
    show Steps p.tables e below (T13.setTop (mkF m 122 #[.val (.int p1), .val (.int p2), .val (.int p3), .val (.int p4), .val (.int p5), .val (.int v12_s0), .val (.int v27_s0), .val (.ref b6), .val (.ref b7), .val (.ref b8), .val (.int (1 : Int32)), .val (.ref b8), .unset, .unset, .unset] [])) _
    refine XS.aload X13.here hx rfl (hb hby at_122) rfl rfl ?_
    show Steps p.tables e below (T13.setTop (mkF m 124 #[.val (.int p1), .val (.int p2), .val (.int p3), .val (.int p4), .val (.int p5), .val (.int v12_s0), .val (.int v27_s0), .val (.ref b6), .val (.ref b7), .val (.ref b8), .val (.int (1 : Int32)), .val (.ref b8), .unset, .unset, .unset] [(.ref b8)])) _
    refine st14.trans ?_
    show Steps p.tables e below (T14.setTop (mkF m 127 #[.val (.int p1), .val (.int p2), .val (.int p3), .val (.int p4), .val (.int p5), .val (.int v12_s0), .val (.int v27_s0), .val (.ref b6), .val (.ref b7), .val (.ref b8), .val (.int (1 : Int32)), .val (.ref b8), .unset, .unset, .unset] [(.int v12_s0)])) _
    refine XS.iload X14.here hx rfl (hb hby at_127) rfl ?_
    show Steps p.tables e below (T14.setTop (mkF m 129 #[.val (.int p1), .val (.int p2), .val (.int p3), .val (.int p4), .val (.int p5), .val (.int v12_s0), .val (.int v27_s0), .val (.ref b6), .val (.ref b7), .val (.ref b8), .val (.int (1 : Int32)), .val (.ref b8), .unset, .unset, .unset] [(.int v12_s0), (.int v12_s0)])) _
    refine XS.icmpNo X14.here hx rfl (hb hby at_129) rfl (teq (rfl : v12_s0 = v12_s0)).2 ?_
    show Steps p.tables e below (T14.setTop (mkF m 132 #[.val (.int p1), .val (.int p2), .val (.int p3), .val (.int p4), .val (.int p5), .val (.int v12_s0), .val (.int v27_s0), .val (.ref b6), .val (.ref b7), .val (.ref b8), .val (.int (1 : Int32)), .val (.ref b8), .unset, .unset, .unset] [])) _
    refine XS.aload X14.here hx rfl (hb hby at_132) rfl rfl ?_
    show Steps p.tables e below (T14.setTop (mkF m 134 #[.val (.int p1), .val (.int p2), .val (.int p3), .val (.int p4), .val (.int p5), .val (.int v12_s0), .val (.int v27_s0), .val (.ref b6), .val (.ref b7), .val (.ref b8), .val (.int (1 : Int32)), .val (.ref b8), .unset, .unset, .unset] [(.ref b8)])) _
    refine st15.trans ?_
    show Steps p.tables e below (T15.setTop (mkF m 137 #[.val (.int p1), .val (.int p2), .val (.int p3), .val (.int p4), .val (.int p5), .val (.int v12_s0), .val (.int v27_s0), .val (.ref b6), .val (.ref b7), .val (.ref b8), .val (.int (1 : Int32)), .val (.ref b8), .unset, .unset, .unset] [(.ref b6)])) _
    refine XS.aload X15.here hx rfl (hb hby at_137) rfl rfl ?_
    show Steps p.tables e below (T15.setTop (mkF m 139 #[.val (.int p1), .val (.int p2), .val (.int p3), .val (.int p4), .val (.int p5), .val (.int v12_s0), .val (.int v27_s0), .val (.ref b6), .val (.ref b7), .val (.ref b8), .val (.int (1 : Int32)), .val (.ref b8), .unset, .unset, .unset] [(.ref b6), (.ref b6)])) _
    refine Jvm.RoadKit.acmp (g := (mkF m 139 #[.val (.int p1), .val (.int p2), .val (.int p3), .val (.int p4), .val (.int p5), .val (.int v12_s0), .val (.int v27_s0), .val (.ref b6), .val (.ref b7), .val (.ref b8), .val (.int (1 : Int32)), .val (.ref b8), .unset, .unset, .unset] [(.ref b6), (.ref b6)])) X15 hx rfl rfl rfl (pc0 := 139) (pc' := 142) (same := true) rfl (hb hby at_139) rfl (decide_eq_true rfl) (by decide) (by decide) ?_
    show Steps p.tables e below (T15.setTop (mkF m 142 #[.val (.int p1), .val (.int p2), .val (.int p3), .val (.int p4), .val (.int p5), .val (.int v12_s0), .val (.int v27_s0), .val (.ref b6), .val (.ref b7), .val (.ref b8), .val (.int (1 : Int32)), .val (.ref b8), .unset, .unset, .unset] [])) _
    refine XS.iconst X15.here hx rfl (hb hby at_142) ?_
    show Steps p.tables e below (T15.setTop (mkF m 143 #[.val (.int p1), .val (.int p2), .val (.int p3), .val (.int p4), .val (.int p5), .val (.int v12_s0), .val (.int v27_s0), .val (.ref b6), .val (.ref b7), .val (.ref b8), .val (.int (1 : Int32)), .val (.ref b8), .unset, .unset, .unset] [(.int (1 : Int32))])) _
    refine XS.goto X15.here hx rfl (pc0 := 143) (pc' := 147) rfl (hb hby at_143) (by decide) (by decide) ?_
    show Steps p.tables e below (T15.setTop (mkF m 147 #[.val (.int p1), .val (.int p2), .val (.int p3), .val (.int p4), .val (.int p5), .val (.int v12_s0), .val (.int v27_s0), .val (.ref b6), .val (.ref b7), .val (.ref b8), .val (.int (1 : Int32)), .val (.ref b8), .unset, .unset, .unset] [(.int (1 : Int32))])) _
    refine XS.istore X15.here hx rfl (hb hby at_147) rfl (l' := #[.val (.int p1), .val (.int p2), .val (.int p3), .val (.int p4), .val (.int p5), .val (.int v12_s0), .val (.int v27_s0), .val (.ref b6), .val (.ref b7), .val (.ref b8), .val (.int (1 : Int32)), .val (.ref b8), .unset, .unset, .unset]) rfl ?_
    show Steps p.tables e below (T15.setTop (mkF m 149 #[.val (.int p1), .val (.int p2), .val (.int p3), .val (.int p4), .val (.int p5), .val (.int v12_s0), .val (.int v27_s0), .val (.ref b6), .val (.ref b7), .val (.ref b8), .val (.int (1 : Int32)), .val (.ref b8), .unset, .unset, .unset] [])) _
    refine XS.aload X15.here hx rfl (hb hby at_149) rfl rfl ?_
    show Steps p.tables e below (T15.setTop (mkF m 151 #[.val (.int p1), .val (.int p2), .val (.int p3), .val (.int p4), .val (.int p5), .val (.int v12_s0), .val (.int v27_s0), .val (.ref b6), .val (.ref b7), .val (.ref b8), .val (.int (1 : Int32)), .val (.ref b8), .unset, .unset, .unset] [(.ref b8)])) _
    refine XS.aload X15.here hx rfl (hb hby at_151) rfl rfl ?_
    show Steps p.tables e below (T15.setTop (mkF m 153 #[.val (.int p1), .val (.int p2), .val (.int p3), .val (.int p4), .val (.int p5), .val (.int v12_s0), .val (.int v27_s0), .val (.ref b6), .val (.ref b7), .val (.ref b8), .val (.int (1 : Int32)), .val (.ref b8), .unset, .unset, .unset] [(.ref b7), (.ref b8)])) _
    refine XS.iload X15.here hx rfl (hb hby at_153) rfl ?_
    show Steps p.tables e below (T15.setTop (mkF m 155 #[.val (.int p1), .val (.int p2), .val (.int p3), .val (.int p4), .val (.int p5), .val (.int v12_s0), .val (.int v27_s0), .val (.ref b6), .val (.ref b7), .val (.ref b8), .val (.int (1 : Int32)), .val (.ref b8), .unset, .unset, .unset] [(.int v27_s0), (.ref b7), (.ref b8)])) _
    refine st16.trans ?_
    show Steps p.tables e below (T16.setTop (mkF m 158 #[.val (.int p1), .val (.int p2), .val (.int p3), .val (.int p4), .val (.int p5), .val (.int v12_s0), .val (.int v27_s0), .val (.ref b6), .val (.ref b7), .val (.ref b8), .val (.int (1 : Int32)), .val (.ref b8), .unset, .unset, .unset] [(.ref b8)])) _
    refine XS.astore X16.here hx rfl (hb hby at_158) rfl rfl (l' := #[.val (.int p1), .val (.int p2), .val (.int p3), .val (.int p4), .val (.int p5), .val (.int v12_s0), .val (.int v27_s0), .val (.ref b6), .val (.ref b7), .val (.ref b8), .val (.int (1 : Int32)), .val (.ref b8), .val (.ref b8), .unset, .unset]) rfl ?_
    show Steps p.tables e below (T16.setTop (mkF m 160 #[.val (.int p1), .val (.int p2), .val (.int p3), .val (.int p4), .val (.int p5), .val (.int v12_s0), .val (.int v27_s0), .val (.ref b6), .val (.ref b7), .val (.ref b8), .val (.int (1 : Int32)), .val (.ref b8), .val (.ref b8), .unset, .unset] [])) _
    refine XS.iload X16.here hx rfl (hb hby at_160) rfl ?_
    show Steps p.tables e below (T16.setTop (mkF m 162 #[.val (.int p1), .val (.int p2), .val (.int p3), .val (.int p4), .val (.int p5), .val (.int v12_s0), .val (.int v27_s0), .val (.ref b6), .val (.ref b7), .val (.ref b8), .val (.int (1 : Int32)), .val (.ref b8), .val (.ref b8), .unset, .unset] [(.int v12_s0)])) _
    refine XS.ifNo X16.here hx rfl (hb hby at_162) rfl ((if0 _ _).trans (teq hc162).2) ?_
    show Steps p.tables e below (T16.setTop (mkF m 165 #[.val (.int p1), .val (.int p2), .val (.int p3), .val (.int p4), .val (.int p5), .val (.int v12_s0), .val (.int v27_s0), .val (.ref b6), .val (.ref b7), .val (.ref b8), .val (.int (1 : Int32)), .val (.ref b8), .val (.ref b8), .unset, .unset] [])) _
    refine XS.iload X16.here hx rfl (hb hby at_165) rfl ?_
    show Steps p.tables e below (T16.setTop (mkF m 167 #[.val (.int p1), .val (.int p2), .val (.int p3), .val (.int p4), .val (.int p5), .val (.int v12_s0), .val (.int v27_s0), .val (.ref b6), .val (.ref b7), .val (.ref b8), .val (.int (1 : Int32)), .val (.ref b8), .val (.ref b8), .unset, .unset] [(.int v27_s0)])) _
    refine XS.goto X16.here hx rfl (pc0 := 167) (pc' := 172) rfl (hb hby at_167) (by decide) (by decide) ?_
    show Steps p.tables e below (T16.setTop (mkF m 172 #[.val (.int p1), .val (.int p2), .val (.int p3), .val (.int p4), .val (.int p5), .val (.int v12_s0), .val (.int v27_s0), .val (.ref b6), .val (.ref b7), .val (.ref b8), .val (.int (1 : Int32)), .val (.ref b8), .val (.ref b8), .unset, .unset] [(.int v27_s0)])) _
    refine XS.istore X16.here hx rfl (hb hby at_172) rfl (l' := #[.val (.int p1), .val (.int p2), .val (.int p3), .val (.int p4), .val (.int p5), .val (.int v12_s0), .val (.int v27_s0), .val (.ref b6), .val (.ref b7), .val (.ref b8), .val (.int (1 : Int32)), .val (.ref b8), .val (.ref b8), .val (.int v27_s0), .unset]) rfl ?_
    show Steps p.tables e below (T16.setTop (mkF m 174 #[.val (.int p1), .val (.int p2), .val (.int p3), .val (.int p4), .val (.int p5), .val (.int v12_s0), .val (.int v27_s0), .val (.ref b6), .val (.ref b7), .val (.ref b8), .val (.int (1 : Int32)), .val (.ref b8), .val (.ref b8), .val (.int v27_s0), .unset] [])) _
    refine XS.iload X16.here hx rfl (hb hby at_174) rfl ?_
    show Steps p.tables e below (T16.setTop (mkF m 176 #[.val (.int p1), .val (.int p2), .val (.int p3), .val (.int p4), .val (.int p5), .val (.int v12_s0), .val (.int v27_s0), .val (.ref b6), .val (.ref b7), .val (.ref b8), .val (.int (1 : Int32)), .val (.ref b8), .val (.ref b8), .val (.int v27_s0), .unset] [(.int v12_s0)])) _
    refine XS.ifNo X16.here hx rfl (hb hby at_176) rfl ((if0 _ _).trans (teq hc176).2) ?_
    show Steps p.tables e below (T16.setTop (mkF m 179 #[.val (.int p1), .val (.int p2), .val (.int p3), .val (.int p4), .val (.int p5), .val (.int v12_s0), .val (.int v27_s0), .val (.ref b6), .val (.ref b7), .val (.ref b8), .val (.int (1 : Int32)), .val (.ref b8), .val (.ref b8), .val (.int v27_s0), .unset] [])) _
    refine XS.aload X16.here hx rfl (hb hby at_179) rfl rfl ?_
    show Steps p.tables e below (T16.setTop (mkF m 181 #[.val (.int p1), .val (.int p2), .val (.int p3), .val (.int p4), .val (.int p5), .val (.int v12_s0), .val (.int v27_s0), .val (.ref b6), .val (.ref b7), .val (.ref b8), .val (.int (1 : Int32)), .val (.ref b8), .val (.ref b8), .val (.int v27_s0), .unset] [(.ref b7)])) _
    refine XS.goto X16.here hx rfl (pc0 := 181) (pc' := 186) rfl (hb hby at_181) (by decide) (by decide) ?_
    show Steps p.tables e below (T16.setTop (mkF m 186 #[.val (.int p1), .val (.int p2), .val (.int p3), .val (.int p4), .val (.int p5), .val (.int v12_s0), .val (.int v27_s0), .val (.ref b6), .val (.ref b7), .val (.ref b8), .val (.int (1 : Int32)), .val (.ref b8), .val (.ref b8), .val (.int v27_s0), .unset] [(.ref b7)])) _
    refine XS.astore X16.here hx rfl (hb hby at_186) rfl rfl (l' := #[.val (.int p1), .val (.int p2), .val (.int p3), .val (.int p4), .val (.int p5), .val (.int v12_s0), .val (.int v27_s0), .val (.ref b6), .val (.ref b7), .val (.ref b8), .val (.int (1 : Int32)), .val (.ref b8), .val (.ref b8), .val (.int v27_s0), .val (.ref b7)]) rfl ?_
    show Steps p.tables e below (T16.setTop (mkF m 188 #[.val (.int p1), .val (.int p2), .val (.int p3), .val (.int p4), .val (.int p5), .val (.int v12_s0), .val (.int v27_s0), .val (.ref b6), .val (.ref b7), .val (.ref b8), .val (.int (1 : Int32)), .val (.ref b8), .val (.ref b8), .val (.int v27_s0), .val (.ref b7)] [])) _
    refine XS.iload X16.here hx rfl (hb hby at_188) rfl ?_
    show Steps p.tables e below (T16.setTop (mkF m 190 #[.val (.int p1), .val (.int p2), .val (.int p3), .val (.int p4), .val (.int p5), .val (.int v12_s0), .val (.int v27_s0), .val (.ref b6), .val (.ref b7), .val (.ref b8), .val (.int (1 : Int32)), .val (.ref b8), .val (.ref b8), .val (.int v27_s0), .val (.ref b7)] [(.int (1 : Int32))])) _
    refine XS.ifNo X16.here hx rfl (hb hby at_190) rfl ((if0 _ _).trans (feq (by decide : ¬ ((1 : Int32) = (0 : Int32)))).1) ?_
    show Steps p.tables e below (T16.setTop (mkF m 193 #[.val (.int p1), .val (.int p2), .val (.int p3), .val (.int p4), .val (.int p5), .val (.int v12_s0), .val (.int v27_s0), .val (.ref b6), .val (.ref b7), .val (.ref b8), .val (.int (1 : Int32)), .val (.ref b8), .val (.ref b8), .val (.int v27_s0), .val (.ref b7)] [])) _
    refine XS.aload X16.here hx rfl (hb hby at_193) rfl rfl ?_
    show Steps p.tables e below (T16.setTop (mkF m 195 #[.val (.int p1), .val (.int p2), .val (.int p3), .val (.int p4), .val (.int p5), .val (.int v12_s0), .val (.int v27_s0), .val (.ref b6), .val (.ref b7), .val (.ref b8), .val (.int (1 : Int32)), .val (.ref b8), .val (.ref b8), .val (.int v27_s0), .val (.ref b7)] [(.ref b8)])) _
    refine XS.aload X16.here hx rfl (hb hby at_195) rfl rfl ?_
    show Steps p.tables e below (T16.setTop (mkF m 197 #[.val (.int p1), .val (.int p2), .val (.int p3), .val (.int p4), .val (.int p5), .val (.int v12_s0), .val (.int v27_s0), .val (.ref b6), .val (.ref b7), .val (.ref b8), .val (.int (1 : Int32)), .val (.ref b8), .val (.ref b8), .val (.int v27_s0), .val (.ref b7)] [(.ref b8), (.ref b8)])) _
    refine Jvm.RoadKit.acmp (g := (mkF m 197 #[.val (.int p1), .val (.int p2), .val (.int p3), .val (.int p4), .val (.int p5), .val (.int v12_s0), .val (.int v27_s0), .val (.ref b6), .val (.ref b7), .val (.ref b8), .val (.int (1 : Int32)), .val (.ref b8), .val (.ref b8), .val (.int v27_s0), .val (.ref b7)] [(.ref b8), (.ref b8)])) X16 hx rfl rfl rfl (pc0 := 197) (pc' := 200) (same := true) rfl (hb hby at_197) rfl (decide_eq_true rfl) (by decide) (by decide) ?_
    show Steps p.tables e below (T16.setTop (mkF m 200 #[.val (.int p1), .val (.int p2), .val (.int p3), .val (.int p4), .val (.int p5), .val (.int v12_s0), .val (.int v27_s0), .val (.ref b6), .val (.ref b7), .val (.ref b8), .val (.int (1 : Int32)), .val (.ref b8), .val (.ref b8), .val (.int v27_s0), .val (.ref b7)] [])) _
    refine XS.aload X16.here hx rfl (hb hby at_200) rfl rfl ?_
    show Steps p.tables e below (T16.setTop (mkF m 202 #[.val (.int p1), .val (.int p2), .val (.int p3), .val (.int p4), .val (.int p5), .val (.int v12_s0), .val (.int v27_s0), .val (.ref b6), .val (.ref b7), .val (.ref b8), .val (.int (1 : Int32)), .val (.ref b8), .val (.ref b8), .val (.int v27_s0), .val (.ref b7)] [(.ref b8)])) _
    refine st17.trans ?_
    show Steps p.tables e below (T17.setTop (mkF m 205 #[.val (.int p1), .val (.int p2), .val (.int p3), .val (.int p4), .val (.int p5), .val (.int v12_s0), .val (.int v27_s0), .val (.ref b6), .val (.ref b7), .val (.ref b8), .val (.int (1 : Int32)), .val (.ref b8), .val (.ref b8), .val (.int v27_s0), .val (.ref b7)] [(.int v27_s0)])) _
    refine XS.iload X17.here hx rfl (hb hby at_205) rfl ?_
    show Steps p.tables e below (T17.setTop (mkF m 207 #[.val (.int p1), .val (.int p2), .val (.int p3), .val (.int p4), .val (.int p5), .val (.int v12_s0), .val (.int v27_s0), .val (.ref b6), .val (.ref b7), .val (.ref b8), .val (.int (1 : Int32)), .val (.ref b8), .val (.ref b8), .val (.int v27_s0), .val (.ref b7)] [(.int v27_s0), (.int v27_s0)])) _
    refine XS.icmpNo X17.here hx rfl (hb hby at_207) rfl (teq (rfl : v27_s0 = v27_s0)).2 ?_
    show Steps p.tables e below (T17.setTop (mkF m 210 #[.val (.int p1), .val (.int p2), .val (.int p3), .val (.int p4), .val (.int p5), .val (.int v12_s0), .val (.int v27_s0), .val (.ref b6), .val (.ref b7), .val (.ref b8), .val (.int (1 : Int32)), .val (.ref b8), .val (.ref b8), .val (.int v27_s0), .val (.ref b7)] [])) _
    refine XS.aload X17.here hx rfl (hb hby at_210) rfl rfl ?_
    show Steps p.tables e below (T17.setTop (mkF m 212 #[.val (.int p1), .val (.int p2), .val (.int p3), .val (.int p4), .val (.int p5), .val (.int v12_s0), .val (.int v27_s0), .val (.ref b6), .val (.ref b7), .val (.ref b8), .val (.int (1 : Int32)), .val (.ref b8), .val (.ref b8), .val (.int v27_s0), .val (.ref b7)] [(.ref b8)])) _
    refine st18.trans ?_
    show Steps p.tables e below (T18.setTop (mkF m 215 #[.val (.int p1), .val (.int p2), .val (.int p3), .val (.int p4), .val (.int p5), .val (.int v12_s0), .val (.int v27_s0), .val (.ref b6), .val (.ref b7), .val (.ref b8), .val (.int (1 : Int32)), .val (.ref b8), .val (.ref b8), .val (.int v27_s0), .val (.ref b7)] [(.ref b7)])) _
    refine XS.aload X18.here hx rfl (hb hby at_215) rfl rfl ?_
    show Steps p.tables e below (T18.setTop (mkF m 217 #[.val (.int p1), .val (.int p2), .val (.int p3), .val (.int p4), .val (.int p5), .val (.int v12_s0), .val (.int v27_s0), .val (.ref b6), .val (.ref b7), .val (.ref b8), .val (.int (1 : Int32)), .val (.ref b8), .val (.ref b8), .val (.int v27_s0), .val (.ref b7)] [(.ref b7), (.ref b7)])) _
    refine Jvm.RoadKit.acmp (g := (mkF m 217 #[.val (.int p1), .val (.int p2), .val (.int p3), .val (.int p4), .val (.int p5), .val (.int v12_s0), .val (.int v27_s0), .val (.ref b6), .val (.ref b7), .val (.ref b8), .val (.int (1 : Int32)), .val (.ref b8), .val (.ref b8), .val (.int v27_s0), .val (.ref b7)] [(.ref b7), (.ref b7)])) X18 hx rfl rfl rfl (pc0 := 217) (pc' := 220) (same := true) rfl (hb hby at_217) rfl (decide_eq_true rfl) (by decide) (by decide) ?_
    show Steps p.tables e below (T18.setTop (mkF m 220 #[.val (.int p1), .val (.int p2), .val (.int p3), .val (.int p4), .val (.int p5), .val (.int v12_s0), .val (.int v27_s0), .val (.ref b6), .val (.ref b7), .val (.ref b8), .val (.int (1 : Int32)), .val (.ref b8), .val (.ref b8), .val (.int v27_s0), .val (.ref b7)] [])) _
    refine XS.iconst X18.here hx rfl (hb hby at_220) ?_
    show Steps p.tables e below (T18.setTop (mkF m 221 #[.val (.int p1), .val (.int p2), .val (.int p3), .val (.int p4), .val (.int p5), .val (.int v12_s0), .val (.int v27_s0), .val (.ref b6), .val (.ref b7), .val (.ref b8), .val (.int (1 : Int32)), .val (.ref b8), .val (.ref b8), .val (.int v27_s0), .val (.ref b7)] [(.int (1 : Int32))])) _
    refine XS.goto X18.here hx rfl (pc0 := 221) (pc' := 225) rfl (hb hby at_221) (by decide) (by decide) ?_
    show Steps p.tables e below (T18.setTop (mkF m 225 #[.val (.int p1), .val (.int p2), .val (.int p3), .val (.int p4), .val (.int p5), .val (.int v12_s0), .val (.int v27_s0), .val (.ref b6), .val (.ref b7), .val (.ref b8), .val (.int (1 : Int32)), .val (.ref b8), .val (.ref b8), .val (.int v27_s0), .val (.ref b7)] [(.int (1 : Int32))])) _
    refine XS.istore X18.here hx rfl (hb hby at_225) rfl (l' := #[.val (.int p1), .val (.int p2), .val (.int p3), .val (.int p4), .val (.int p5), .val (.int v12_s0), .val (.int v27_s0), .val (.ref b6), .val (.ref b7), .val (.ref b8), .val (.int (1 : Int32)), .val (.ref b8), .val (.ref b8), .val (.int v27_s0), .val (.ref b7)]) rfl ?_
    show Steps p.tables e below (T18.setTop (mkF m 227 #[.val (.int p1), .val (.int p2), .val (.int p3), .val (.int p4), .val (.int p5), .val (.int v12_s0), .val (.int v27_s0), .val (.ref b6), .val (.ref b7), .val (.ref b8), .val (.int (1 : Int32)), .val (.ref b8), .val (.ref b8), .val (.int v27_s0), .val (.ref b7)] [])) _
    refine XS.iload X18.here hx rfl (hb hby at_227) rfl ?_
    show Steps p.tables e below (T18.setTop (mkF m 229 #[.val (.int p1), .val (.int p2), .val (.int p3), .val (.int p4), .val (.int p5), .val (.int v12_s0), .val (.int v27_s0), .val (.ref b6), .val (.ref b7), .val (.ref b8), .val (.int (1 : Int32)), .val (.ref b8), .val (.ref b8), .val (.int v27_s0), .val (.ref b7)] [(.int (1 : Int32))])) _
    exact retN X18 hx (t := .boolean) Bd.returns (by simp) (hb hby at_229) hr
  · show Q0rrz Z p1 p2 p3 p4 p5 v12_s0 v27_s0 h0 n0 _ T18.heap _
    rw [e18]
    exact ⟨rfl, N18⟩
def Q0rrt (Z : State) (p1 : Int32) (p2 : Int32) (p3 : Int32) (p4 : Int32) (p5 : Int32) (v12_s0 : Int32) (v27_s0 : Int32) (h0 : Heap) (n0 : Nat) (v : Option Value) (h : Heap) (L : List Loc) : Prop := v = some (.int (1 : Int32)) ∧ Fr n0 L
set_option maxRecDepth 65536 in
set_option maxHeartbeats 40000000 in
theorem rm0rrt (l : Launch) (Z : State) (a0 : Array Value) (hw : ∀ d ∈ tables_1, d.before a0 Z = true) (ws : List Jvm.Cond) (p1 : Int32) (p2 : Int32) (p3 : Int32) (p4 : Int32) (p5 : Int32) (v12_s0 : Int32) (v27_s0 : Int32) (zc : Int32) (h0 : Heap) (n0 : Nat) (Z0 : n0 ≤ h0.size) (hv12_s0 : v12_s0 = (if (p5 &&& (1 : Int32)) = (0 : Int32) then p1 else (0 : Int32))) (hv27_s0 : v27_s0 = (if (p5 &&& (8 : Int32)) = (0 : Int32) then p2 else (0 : Int32))) (O0 : Old Z n0 h0) (hc34 : (p5 &&& (2 : Int32)) = (0 : Int32)) (hc52 : (p5 &&& (4 : Int32)) = (0 : Int32)) (hc162 : ¬ (v12_s0 = (0 : Int32))) (hc176 : ¬ (v12_s0 = (0 : Int32))) (hlT : l.stackTraces = true) (S0 : own_St Z Z.heap) (S_cs : Sta Z Z.heap "java/lang/String" "COMPACT_STRINGS" "Z" (.int zc)) (hcs : ¬ (zc = (0 : Int32))) (wS : ∀ a ∈ Bundle.stringAtoms, a.before a0 Z = true) (hz0 : h0 = Z.heap) :
    MetFree l x (head1 (Jvm.Cond.code x code maxLocals ret :: ws) room_1) (fun a U => a = #[(.int p1), (.int p2), (.int p3), (.int p4), (.int p5)] ∧ U.vm = Z.vm ∧ U.heap = h0) (fun _ _ B U _ => U.vm.MethodsKnown ∧ U.vm.FramesKnown B) (fun _ U o U' => ∃ v L, o = .returned v ∧ Q0rrt Z p1 p2 p3 p4 p5 v12_s0 v27_s0 h0 n0 v U'.heap L ∧ ReturnedEndW U o U' L room_1.cells room_1.slots) := by
  refine MetFree.of_bodySF (plainFor_of_name pn_0) hisR ?_
  intro p e s m args below meth c s₁ Bd hml0 hP hK
  obtain ⟨rfl, hU, hh⟩ := hP
  obtain ⟨hTK, hBK⟩ := hK
  rw [hU] at hTK hBK
  have hZ : Z.Warmed39 (s.setVm s.vm).vm := by
    show Z.Warmed39 s.vm
    rw [hU]; exact State.Warmed39.refl Z
  have hx := Bd.exec
  have hby := Bd.bytes
  have hml : c.maxLocals = 15 := hml0
  have hown : (s.setVm s.vm).vm.findClass "nephrite/EvaluationExceptionOnPinLaw" = some m.cls := findClass_of_methodNamed Bd.named
  have hnm := (name_of_methodNamed Bd.named Bd.method).1
  have X0 : Stand p l e room_1 (s.setVm s.vm) m #[(.int p1), (.int p2), (.int p3), (.int p4), (.int p5)] below meth c s₁ [] 0 0 := Stand.of_body Bd
  have e0 : s₁.heap = h0 := by rw [← hh, Bd.state]; rfl
  have N0 := Fr.nil n0
  have hS : s.Since s.vm h0.size := (State.WarmedH.refl s).since _
  have hk : h0.size ≤ h0.size := Nat.le_refl _
  have pre0 : ∀ t, Steps p.tables e below (s₁.setTop (mkF m 0 #[.val (.int p1), .val (.int p2), .val (.int p3), .val (.int p4), .val (.int p5), .unset, .unset, .unset, .unset, .unset, .unset, .unset, .unset, .unset, .unset] [])) t → Steps p.tables e below (s₁.setTop (entryFrame m #[(.int p1), (.int p2), (.int p3), (.int p4), (.int p5)] maxLocals)) t := fun t k => castTop (ef_0 m p1 p2 p3 p4 p5) k
  have sg4 : ∀ t, Steps p.tables e below (s₁.setTop (mkF m 12 #[.val (.int p1), .val (.int p2), .val (.int p3), .val (.int p4), .val (.int p5), .unset, .unset, .unset, .unset, .unset, .unset, .unset, .unset, .unset, .unset] [(.int v12_s0)])) t → Steps p.tables e below (s₁.setTop (mkF m 4 #[.val (.int p1), .val (.int p2), .val (.int p3), .val (.int p4), .val (.int p5), .unset, .unset, .unset, .unset, .unset, .unset, .unset, .unset, .unset, .unset] [(.int (p5 &&& (1 : Int32)))])) t := by
    intro t kt
    show Steps p.tables e below (s₁.setTop (mkF m 4 #[.val (.int p1), .val (.int p2), .val (.int p3), .val (.int p4), .val (.int p5), .unset, .unset, .unset, .unset, .unset, .unset, .unset, .unset, .unset, .unset] [(.int (p5 &&& (1 : Int32)))])) _
    by_cases hm4 : (p5 &&& (1 : Int32)) = (0 : Int32)
    · rw [show v12_s0 = p1 by rw [hv12_s0, if_pos hm4]] at kt
      refine XS.ifYes X0.here hx rfl (pc0 := 4) (pc' := 11) rfl (hb hby at_4) rfl ((if0 _ _).trans (teq hm4).1) (by decide) (by decide) ?_
      show Steps p.tables e below (s₁.setTop (mkF m 11 #[.val (.int p1), .val (.int p2), .val (.int p3), .val (.int p4), .val (.int p5), .unset, .unset, .unset, .unset, .unset, .unset, .unset, .unset, .unset, .unset] [])) _
      refine XS.iloadN X0.here hx rfl (hb hby at_11) rfl ?_
      exact kt
    · rw [show v12_s0 = (0 : Int32) by rw [hv12_s0, if_neg hm4]] at kt
      refine XS.ifNo X0.here hx rfl (hb hby at_4) rfl ((if0 _ _).trans (feq hm4).1) ?_
      show Steps p.tables e below (s₁.setTop (mkF m 7 #[.val (.int p1), .val (.int p2), .val (.int p3), .val (.int p4), .val (.int p5), .unset, .unset, .unset, .unset, .unset, .unset, .unset, .unset, .unset, .unset] [])) _
      refine XS.iconst X0.here hx rfl (hb hby at_7) ?_
      show Steps p.tables e below (s₁.setTop (mkF m 8 #[.val (.int p1), .val (.int p2), .val (.int p3), .val (.int p4), .val (.int p5), .unset, .unset, .unset, .unset, .unset, .unset, .unset, .unset, .unset, .unset] [(.int (0 : Int32))])) _
      refine XS.goto X0.here hx rfl (pc0 := 8) (pc' := 12) rfl (hb hby at_8) (by decide) (by decide) ?_
      exact kt
  have sg19 : ∀ t, Steps p.tables e below (s₁.setTop (mkF m 27 #[.val (.int p1), .val (.int p2), .val (.int p3), .val (.int p4), .val (.int p5), .val (.int v12_s0), .unset, .unset, .unset, .unset, .unset, .unset, .unset, .unset, .unset] [(.int v27_s0)])) t → Steps p.tables e below (s₁.setTop (mkF m 19 #[.val (.int p1), .val (.int p2), .val (.int p3), .val (.int p4), .val (.int p5), .val (.int v12_s0), .unset, .unset, .unset, .unset, .unset, .unset, .unset, .unset, .unset] [(.int (p5 &&& (8 : Int32)))])) t := by
    intro t kt
    show Steps p.tables e below (s₁.setTop (mkF m 19 #[.val (.int p1), .val (.int p2), .val (.int p3), .val (.int p4), .val (.int p5), .val (.int v12_s0), .unset, .unset, .unset, .unset, .unset, .unset, .unset, .unset, .unset] [(.int (p5 &&& (8 : Int32)))])) _
    by_cases hm19 : (p5 &&& (8 : Int32)) = (0 : Int32)
    · rw [show v27_s0 = p2 by rw [hv27_s0, if_pos hm19]] at kt
      refine XS.ifYes X0.here hx rfl (pc0 := 19) (pc' := 26) rfl (hb hby at_19) rfl ((if0 _ _).trans (teq hm19).1) (by decide) (by decide) ?_
      show Steps p.tables e below (s₁.setTop (mkF m 26 #[.val (.int p1), .val (.int p2), .val (.int p3), .val (.int p4), .val (.int p5), .val (.int v12_s0), .unset, .unset, .unset, .unset, .unset, .unset, .unset, .unset, .unset] [])) _
      refine XS.iloadN X0.here hx rfl (hb hby at_26) rfl ?_
      exact kt
    · rw [show v27_s0 = (0 : Int32) by rw [hv27_s0, if_neg hm19]] at kt
      refine XS.ifNo X0.here hx rfl (hb hby at_19) rfl ((if0 _ _).trans (feq hm19).1) ?_
      show Steps p.tables e below (s₁.setTop (mkF m 22 #[.val (.int p1), .val (.int p2), .val (.int p3), .val (.int p4), .val (.int p5), .val (.int v12_s0), .unset, .unset, .unset, .unset, .unset, .unset, .unset, .unset, .unset] [])) _
      refine XS.iconst X0.here hx rfl (hb hby at_22) ?_
      show Steps p.tables e below (s₁.setTop (mkF m 23 #[.val (.int p1), .val (.int p2), .val (.int p3), .val (.int p4), .val (.int p5), .val (.int v12_s0), .unset, .unset, .unset, .unset, .unset, .unset, .unset, .unset, .unset] [(.int (0 : Int32))])) _
      refine XS.goto X0.here hx rfl (pc0 := 23) (pc' := 27) rfl (hb hby at_23) (by decide) (by decide) ?_
      exact kt
  obtain ⟨_, _, ⟨T6, L6, k6, n6⟩, -, X6, ⟨Lc6, hQ6, l6, y6, z6⟩, st6⟩ := Jvm.LawKit.callS X0 hx (y := (⟨"nephrite/EvaluationExceptionOnPinLaw", "name", "(IZ)Ljava/lang/String;"⟩ : MethodName)) hown (mvT hZ (hw _ (List.mem_of_getElem? (i := 0) rfl))) (mvT hZ (hw _ (List.mem_of_getElem? (i := 1) rfl))) (mvT hZ (hw _ (List.mem_of_getElem? (i := 2) rfl))) (mvT hZ (hw _ (List.mem_of_getElem? (i := 3) rfl))) (by decide) (backOf (W := 0) (rm1 l Z a0 hw [] p3 (0 : Int32) zc h0 n0 Z0 S_cs hcs O0 rfl) hZ (hw _ (List.mem_of_getElem? (i := 3) rfl)) (hw _ (List.mem_of_getElem? (i := 2) rfl)) (by decide) (by decide)) (g := (mkF m 42 #[.val (.int p1), .val (.int p2), .val (.int p3), .val (.int p4), .val (.int p5), .val (.int v12_s0), .val (.int v27_s0), .unset, .unset, .unset, .unset, .unset, .unset, .unset, .unset] [(.int (0 : Int32)), (.int p3)])) rfl (by rw [hml]; rfl) (argsL := [(.int p3), (.int (0 : Int32))]) (rest := []) (lenOf pd_0_0 rfl) rfl (by show 2 * 0 + _ ≤ _; exact Nat.le_of_eq rfl) (hb hby at_42) (fun _ _ => ⟨rfl, e0, (by decide : 0 + 3 ≤ _), (by decide : 0 + 6 ≤ _)⟩)
  dsimp only [Pt.U, Pt.locs, Pt.cells, Pt.slots] at X6 l6 y6 z6 st6 hQ6
  subst l6 y6 z6
  obtain ⟨b6, rfl, N6q, K6c, g_b6, s6b, Ec6⟩ := hQ6
  have N6 := Fr.app N0 N6q
  have sz_b6 : h0.size ≤ b6 := Nat.le_trans (Keep.refl h0 []).1 s6b
  have K6 : Keep h0 T6.heap [] := (Keep.refl h0 []).trans K6c all0
  obtain ⟨_, _, ⟨T7, L7, k7, n7⟩, -, X7, ⟨Lc7, hQ7, l7, y7, z7⟩, st7⟩ := Jvm.LawKit.callS X6 hx (y := (⟨"nephrite/EvaluationExceptionOnPinLaw", "name", "(IZ)Ljava/lang/String;"⟩ : MethodName)) hown (mvT hZ (hw _ (List.mem_of_getElem? (i := 0) rfl))) (mvT hZ (hw _ (List.mem_of_getElem? (i := 1) rfl))) (mvT hZ (hw _ (List.mem_of_getElem? (i := 2) rfl))) (mvT hZ (hw _ (List.mem_of_getElem? (i := 3) rfl))) (by decide) (backOf (W := 0) (rm1 l Z a0 hw [] p4 (0 : Int32) zc T6.heap n0 (Nat.le_trans Z0 K6c.1) S_cs hcs (O0.keep K6 all0) rfl) hZ (hw _ (List.mem_of_getElem? (i := 3) rfl)) (hw _ (List.mem_of_getElem? (i := 2) rfl)) (by decide) (by decide)) (g := (mkF m 60 #[.val (.int p1), .val (.int p2), .val (.int p3), .val (.int p4), .val (.int p5), .val (.int v12_s0), .val (.int v27_s0), .val (.ref b6), .unset, .unset, .unset, .unset, .unset, .unset, .unset] [(.int (0 : Int32)), (.int p4)])) rfl (by rw [hml]; rfl) (argsL := [(.int p4), (.int (0 : Int32))]) (rest := []) (lenOf pd_0_0 rfl) rfl (by show 2 * 0 + _ ≤ _; exact Nat.le_of_eq rfl) (hb hby at_60) (fun _ _ => ⟨rfl, rfl, (by decide : 3 + 3 ≤ _), (by decide : 6 + 6 ≤ _)⟩)
  dsimp only [Pt.U, Pt.locs, Pt.cells, Pt.slots] at X7 l7 y7 z7 st7 hQ7
  subst l7 y7 z7
  obtain ⟨b7, rfl, N7q, K7c, g_b7, s7b, Ec7⟩ := hQ7
  have N7 := Fr.app N6 N7q
  have sz_b7 : h0.size ≤ b7 := Nat.le_trans K6.1 s7b
  have K7 : Keep h0 T7.heap [] := K6.trans K7c all0
  obtain ⟨T8, h8, X8, e8, E8, A8, D8, U8, st8⟩ := newO X7 hx hZ hown (hw _ (List.mem_of_getElem? (i := 34) rfl)) (hw _ (List.mem_of_getElem? (i := 35) rfl)) (hw _ (List.mem_of_getElem? (i := 36) rfl)) rfl (g := (mkF m 65 #[.val (.int p1), .val (.int p2), .val (.int p3), .val (.int p4), .val (.int p5), .val (.int v12_s0), .val (.int v27_s0), .val (.ref b6), .val (.ref b7), .unset, .unset, .unset, .unset, .unset, .unset] [])) rfl (hb hby at_65) (by decide) (by decide)
  obtain ⟨b8, g8⟩ : ∃ z, z = T7.heap.size := ⟨_, rfl⟩
  rw [← g8] at A8 D8 st8
  have F_cause_b8 : Fld Z h8 b8 "java/lang/Throwable" "cause" "Ljava/lang/Throwable;" .null := D8 (Or.inl (hw _ (List.mem_of_getElem? (i := 62) rfl))) (ty := (.object "java/lang/Throwable")) (by decide)
  have F_stackTrace_b8 : Fld Z h8 b8 "java/lang/Throwable" "stackTrace" "[Ljava/lang/StackTraceElement;" .null := D8 (Or.inl (hw _ (List.mem_of_getElem? (i := 65) rfl))) (ty := (.array (.object "java/lang/StackTraceElement"))) (by decide)
  have F_suppressedExceptions_b8 : Fld Z h8 b8 "java/lang/Throwable" "suppressedExceptions" "Ljava/util/List;" .null := D8 (Or.inl (hw _ (List.mem_of_getElem? (i := 68) rfl))) (ty := (.object "java/util/List")) (by decide)
  have F_detailMessage_b8 : Fld Z h8 b8 "java/lang/Throwable" "detailMessage" "Ljava/lang/String;" .null := D8 (Or.inl (hw _ (List.mem_of_getElem? (i := 92) rfl))) (ty := (.object "java/lang/String")) (by decide)
  have F_backtrace_b8 : Fld Z h8 b8 "java/lang/Throwable" "backtrace" "Ljava/lang/Object;" .null := D8 (Or.inl (hw _ (List.mem_of_getElem? (i := 93) rfl))) (ty := (.object "java/lang/Object")) (by decide)
  have F_depth_b8 : Fld Z h8 b8 "java/lang/Throwable" "depth" "I" (.int (0 : Int32)) := D8 (Or.inl (hw _ (List.mem_of_getElem? (i := 94) rfl))) (ty := .int) (by decide)
  have F_line_b8 : Fld Z h8 b8 "nephrite/EvaluationException" "line" "I" (.int (0 : Int32)) := D8 (Or.inl (hw _ (List.mem_of_getElem? (i := 103) rfl))) (ty := .int) (by decide)
  have F_templateName_b8 : Fld Z h8 b8 "nephrite/EvaluationException" "templateName" "Ljava/lang/String;" .null := D8 (Or.inl (hw _ (List.mem_of_getElem? (i := 110) rfl))) (ty := (.object "java/lang/String")) (by decide)
  have U_b8 : Unt h8 b8 := by rw [g8]; exact U8
  have E_b8 := A8
  have g_b8 : n0 ≤ b8 := Nat.le_trans (Nat.le_trans (Nat.le_trans Z0 K6c.1) K7c.1) (Nat.le_of_eq g8.symm)
  have sz_b8 : h0.size ≤ b8 := (Nat.le_trans K7.1 (Nat.le_of_eq g8.symm))
  have K8 : Keep h0 h8 [] := K7.ext E8
  obtain ⟨b9, T9, h9, q9, X9, e9, E9, hS, hk, hZ, hown, hC9, -, st9⟩ := ldcOH X8 hx hZ hown (hw _ (List.mem_of_getElem? (i := 37) rfl)) wS e8 hS (Nat.le_trans hk K8.1) (EW.nil : EW Z a0 []) (fun _ q => by cases q) (g := (mkF m 69 #[.val (.int p1), .val (.int p2), .val (.int p3), .val (.int p4), .val (.int p5), .val (.int v12_s0), .val (.int v27_s0), .val (.ref b6), .val (.ref b7), .unset, .unset, .unset, .unset, .unset, .unset] [(.ref b8), (.ref b8)])) rfl (hb hby at_69) (n := 4) (by decide) (by decide) (by decide) (by decide)
  have H := hC9.1
  have K9 : Keep h0 h9 [] := K8.ext E9
  obtain ⟨_, _, ⟨T10, L10, k10, n10⟩, -, X10, ⟨Lc10, hQ10, l10, y10, z10⟩, st10⟩ := X9.specialBack hx (y := (⟨"nephrite/EvaluationException", "<init>", "(Ljava/lang/String;)V"⟩ : MethodName)) rfl hown (mvT hZ (hw _ (List.mem_of_getElem? (i := 40) rfl))) (mvT hZ (hw _ (List.mem_of_getElem? (i := 41) rfl))) (mvT hZ (hw _ (List.mem_of_getElem? (i := 42) rfl))) (by decide) (own_backK (W := 1) (rm8 l Z a0 hw [] b8 b9  h9 n0 (Nat.le_trans (Nat.le_trans (Nat.le_trans (Nat.le_trans Z0 K6c.1) K7c.1) E8.1) E9.1) g_b8 hlT ⟨(E_b8.ext E9), (U_b8.ext E9), ⟨_, (F_cause_b8.ext E9)⟩, ⟨_, (F_stackTrace_b8.ext E9)⟩, ⟨_, (F_suppressedExceptions_b8.ext E9)⟩, (F_backtrace_b8.ext E9), _, (F_detailMessage_b8.ext E9)⟩ (own_St_old S0 (O0.keep K9 all0))) hZ (hw _ (List.mem_of_getElem? (i := 42) rfl)) (hw _ (List.mem_of_getElem? (i := 36) rfl)) (Vm.MethodsKnown.alikeC hZ.alike hTK) (Vm.FramesKnown.alikeC hZ.alike hBK) (by decide) (by decide)) (g := (mkF m 71 #[.val (.int p1), .val (.int p2), .val (.int p3), .val (.int p4), .val (.int p5), .val (.int v12_s0), .val (.int v27_s0), .val (.ref b6), .val (.ref b7), .unset, .unset, .unset, .unset, .unset, .unset] [(.ref b9), (.ref b8), (.ref b8)])) rfl (by rw [hml]; rfl) (Steps.refl _) (a := b8) (argsL := [(.ref b9)]) (rest := [(.ref b8)]) (lenOf pd_0_7 rfl) rfl (by show 2 * 0 + _ ≤ _; exact Nat.le_of_eq rfl) (hb hby at_71) (fun _ _ => ⟨rfl, e9, (by decide : 9 + 1 ≤ _), (by decide : 28 + 2752 ≤ _)⟩)
  dsimp only [Pt.U, Pt.locs, Pt.cells, Pt.slots] at X10 l10 y10 z10 st10 hQ10
  subst l10 y10 z10
  obtain ⟨rfl, N10q, Kp10⟩ := hQ10
  have N10 := Fr.app N7 N10q
  have K10c := keep_of_kp Kp10
  have K10 : Keep h0 T10.heap [] := K9.trans K10c (allS (Or.inr sz_b8) all0)
  have Ec10 := (E_b8.ext E9).kp Kp10
  have Fk10_line := Fld.kp Kp10 (F_line_b8.ext E9) (Or.inr (own_six_ne hw (Or.inl (hw _ (List.mem_of_getElem? (i := 103) rfl))) (ty := .int) (by decide) (by decide)))
  have Fk10_templateName := Fld.kp Kp10 (F_templateName_b8.ext E9) (Or.inr (own_six_ne hw (Or.inl (hw _ (List.mem_of_getElem? (i := 110) rfl))) (ty := (.object "java/lang/String")) (by decide) (by decide)))
  obtain ⟨cq11, kq11, q11a, q11b, q11c⟩ := isOf hZ rfl Ec10
  obtain ⟨_, _, ⟨T11, L11, k11, n11⟩, -, X11, ⟨Lc11, hQ11, l11, y11, z11⟩, st11⟩ := X10.virtualBack hx (y := (⟨"nephrite/EvaluationException", "line", "()I"⟩ : MethodName)) (z := (⟨"nephrite/EvaluationException", "line", "()I"⟩ : MethodName)) hown (mvT hZ (hw _ (List.mem_of_getElem? (i := 97) rfl))) (mvT hZ (hw _ (List.mem_of_getElem? (i := 98) rfl))) (notFace_of_selects (args := #[]) (mvT hZ (hw _ (List.mem_of_getElem? (i := 100) rfl)))) (mvT hZ (hw _ (List.mem_of_getElem? (i := 100) rfl))) (mvT hZ (hw _ (List.mem_of_getElem? (i := 99) rfl))) (by decide) (backOf (W := 0) (rm14 l Z a0 hw [] b8 (0 : Int32) T10.heap n0 (Nat.le_trans (Nat.le_trans (Nat.le_trans (Nat.le_trans (Nat.le_trans Z0 K6c.1) K7c.1) E8.1) E9.1) K10c.1) Fk10_line) hZ (hw _ (List.mem_of_getElem? (i := 101) rfl)) (hw _ (List.mem_of_getElem? (i := 36) rfl)) (by decide) (by decide)) q11a q11c (g := (mkF m 78 #[.val (.int p1), .val (.int p2), .val (.int p3), .val (.int p4), .val (.int p5), .val (.int v12_s0), .val (.int v27_s0), .val (.ref b6), .val (.ref b7), .val (.ref b8), .unset, .unset, .unset, .unset, .unset] [(.ref b8)])) rfl (by rw [hml]; rfl) (Steps.refl _) (argsL := []) (rest := []) (lenOf pd_0_10 rfl) rfl (by show 2 * 0 + _ ≤ _; exact Nat.le_of_eq rfl) (hb hby at_78) (fun _ _ => ⟨rfl, rfl, (by decide : 10 + 0 ≤ _), (by decide : 2780 + 0 ≤ _)⟩)
  dsimp only [Pt.U, Pt.locs, Pt.cells, Pt.slots] at X11 l11 y11 z11 st11 hQ11
  subst l11 y11 z11
  obtain ⟨rfl, N11q, e11⟩ := hQ11
  have N11 := Fr.app N10 N11q
  obtain ⟨cq12, kq12, q12a, q12b, q12c⟩ := isOf hZ e11 Ec10
  obtain ⟨_, _, ⟨T12, L12, k12, n12⟩, -, X12, ⟨Lc12, hQ12, l12, y12, z12⟩, st12⟩ := X11.virtualBack hx (y := (⟨"nephrite/EvaluationException", "templateName", "()Ljava/lang/String;"⟩ : MethodName)) (z := (⟨"nephrite/EvaluationException", "templateName", "()Ljava/lang/String;"⟩ : MethodName)) hown (mvT hZ (hw _ (List.mem_of_getElem? (i := 104) rfl))) (mvT hZ (hw _ (List.mem_of_getElem? (i := 105) rfl))) (notFace_of_selects (args := #[]) (mvT hZ (hw _ (List.mem_of_getElem? (i := 107) rfl)))) (mvT hZ (hw _ (List.mem_of_getElem? (i := 107) rfl))) (mvT hZ (hw _ (List.mem_of_getElem? (i := 106) rfl))) (by decide) (backOf (W := 0) (rm15n l Z a0 hw [] b8  T10.heap n0 (Nat.le_trans (Nat.le_trans (Nat.le_trans (Nat.le_trans (Nat.le_trans Z0 K6c.1) K7c.1) E8.1) E9.1) K10c.1) Fk10_templateName) hZ (hw _ (List.mem_of_getElem? (i := 108) rfl)) (hw _ (List.mem_of_getElem? (i := 36) rfl)) (by decide) (by decide)) q12a q12c (g := (mkF m 86 #[.val (.int p1), .val (.int p2), .val (.int p3), .val (.int p4), .val (.int p5), .val (.int v12_s0), .val (.int v27_s0), .val (.ref b6), .val (.ref b7), .val (.ref b8), .unset, .unset, .unset, .unset, .unset] [(.ref b8)])) rfl (by rw [hml]; rfl) (Steps.refl _) (argsL := []) (rest := []) (lenOf pd_0_11 rfl) rfl (by show 2 * 0 + _ ≤ _; exact Nat.le_of_eq rfl) (hb hby at_86) (fun _ _ => ⟨rfl, e11, (by decide : 10 + 0 ≤ _), (by decide : 2780 + 0 ≤ _)⟩)
  dsimp only [Pt.U, Pt.locs, Pt.cells, Pt.slots] at X12 l12 y12 z12 st12 hQ12
  subst l12 y12 z12
  obtain ⟨rfl, N12q, e12⟩ := hQ12
  have N12 := Fr.app N11 N12q
  obtain ⟨cq13, kq13, q13a, q13b, q13c⟩ := isOf hZ e12 Ec10
  obtain ⟨_, _, ⟨T13, L13, k13, n13⟩, -, X13, ⟨Lc13, hQ13, l13, y13, z13⟩, st13⟩ := X12.virtualBack hx (y := (⟨"nephrite/EvaluationException", "on", "(Ljava/lang/String;I)Lnephrite/EvaluationException;"⟩ : MethodName)) (z := (⟨"nephrite/EvaluationException", "on", "(Ljava/lang/String;I)Lnephrite/EvaluationException;"⟩ : MethodName)) hown (mvT hZ (hw _ (List.mem_of_getElem? (i := 111) rfl))) (mvT hZ (hw _ (List.mem_of_getElem? (i := 112) rfl))) (notFace_of_selects (args := #[]) (mvT hZ (hw _ (List.mem_of_getElem? (i := 114) rfl)))) (mvT hZ (hw _ (List.mem_of_getElem? (i := 114) rfl))) (mvT hZ (hw _ (List.mem_of_getElem? (i := 113) rfl))) (by decide) (backOf (W := 0) (rm16f l Z a0 hw [] b8 b6 v12_s0 _ _ T10.heap n0 (Nat.le_trans (Nat.le_trans (Nat.le_trans (Nat.le_trans (Nat.le_trans Z0 K6c.1) K7c.1) E8.1) E9.1) K10c.1) Fk10_line Ec10 Fk10_templateName g_b8 rfl) hZ (hw _ (List.mem_of_getElem? (i := 115) rfl)) (hw _ (List.mem_of_getElem? (i := 36) rfl)) (by decide) (by decide)) q13a q13c (g := (mkF m 105 #[.val (.int p1), .val (.int p2), .val (.int p3), .val (.int p4), .val (.int p5), .val (.int v12_s0), .val (.int v27_s0), .val (.ref b6), .val (.ref b7), .val (.ref b8), .val (.int (1 : Int32)), .unset, .unset, .unset, .unset] [(.int v12_s0), (.ref b6), (.ref b8)])) rfl (by rw [hml]; rfl) (Steps.refl _) (argsL := [(.ref b6), (.int v12_s0)]) (rest := []) (lenOf pd_0_12 rfl) rfl (by show 2 * 0 + _ ≤ _; exact Nat.le_of_eq rfl) (hb hby at_105) (fun _ _ => ⟨rfl, e12, (by decide : 10 + 0 ≤ _), (by decide : 2780 + 0 ≤ _)⟩)
  dsimp only [Pt.U, Pt.locs, Pt.cells, Pt.slots] at X13 l13 y13 z13 st13 hQ13
  subst l13 y13 z13
  obtain ⟨rfl, N13q, K13c, Ec13, Fc13_0, Fc13_1⟩ := hQ13
  have N13 := Fr.app N12 N13q
  have K13 : Keep h0 T13.heap [] := K10.trans K13c (allS (Or.inr sz_b8) all0)
  obtain ⟨cq14, kq14, q14a, q14b, q14c⟩ := isOf hZ rfl Ec13
  obtain ⟨_, _, ⟨T14, L14, k14, n14⟩, -, X14, ⟨Lc14, hQ14, l14, y14, z14⟩, st14⟩ := X13.virtualBack hx (y := (⟨"nephrite/EvaluationException", "line", "()I"⟩ : MethodName)) (z := (⟨"nephrite/EvaluationException", "line", "()I"⟩ : MethodName)) hown (mvT hZ (hw _ (List.mem_of_getElem? (i := 97) rfl))) (mvT hZ (hw _ (List.mem_of_getElem? (i := 98) rfl))) (notFace_of_selects (args := #[]) (mvT hZ (hw _ (List.mem_of_getElem? (i := 100) rfl)))) (mvT hZ (hw _ (List.mem_of_getElem? (i := 100) rfl))) (mvT hZ (hw _ (List.mem_of_getElem? (i := 99) rfl))) (by decide) (backOf (W := 0) (rm14 l Z a0 hw [] b8 v12_s0 T13.heap n0 (Nat.le_trans (Nat.le_trans (Nat.le_trans (Nat.le_trans (Nat.le_trans (Nat.le_trans Z0 K6c.1) K7c.1) E8.1) E9.1) K10c.1) K13c.1) Fc13_0) hZ (hw _ (List.mem_of_getElem? (i := 101) rfl)) (hw _ (List.mem_of_getElem? (i := 36) rfl)) (by decide) (by decide)) q14a q14c (g := (mkF m 124 #[.val (.int p1), .val (.int p2), .val (.int p3), .val (.int p4), .val (.int p5), .val (.int v12_s0), .val (.int v27_s0), .val (.ref b6), .val (.ref b7), .val (.ref b8), .val (.int (1 : Int32)), .val (.ref b8), .unset, .unset, .unset] [(.ref b8)])) rfl (by rw [hml]; rfl) (Steps.refl _) (argsL := []) (rest := []) (lenOf pd_0_10 rfl) rfl (by show 2 * 0 + _ ≤ _; exact Nat.le_of_eq rfl) (hb hby at_124) (fun _ _ => ⟨rfl, rfl, (by decide : 10 + 0 ≤ _), (by decide : 2780 + 0 ≤ _)⟩)
  dsimp only [Pt.U, Pt.locs, Pt.cells, Pt.slots] at X14 l14 y14 z14 st14 hQ14
  subst l14 y14 z14
  obtain ⟨rfl, N14q, e14⟩ := hQ14
  have N14 := Fr.app N13 N14q
  obtain ⟨cq15, kq15, q15a, q15b, q15c⟩ := isOf hZ e14 Ec13
  obtain ⟨_, _, ⟨T15, L15, k15, n15⟩, -, X15, ⟨Lc15, hQ15, l15, y15, z15⟩, st15⟩ := X14.virtualBack hx (y := (⟨"nephrite/EvaluationException", "templateName", "()Ljava/lang/String;"⟩ : MethodName)) (z := (⟨"nephrite/EvaluationException", "templateName", "()Ljava/lang/String;"⟩ : MethodName)) hown (mvT hZ (hw _ (List.mem_of_getElem? (i := 104) rfl))) (mvT hZ (hw _ (List.mem_of_getElem? (i := 105) rfl))) (notFace_of_selects (args := #[]) (mvT hZ (hw _ (List.mem_of_getElem? (i := 107) rfl)))) (mvT hZ (hw _ (List.mem_of_getElem? (i := 107) rfl))) (mvT hZ (hw _ (List.mem_of_getElem? (i := 106) rfl))) (by decide) (backOf (W := 0) (rm15 l Z a0 hw [] b8 b6 T13.heap n0 (Nat.le_trans (Nat.le_trans (Nat.le_trans (Nat.le_trans (Nat.le_trans (Nat.le_trans Z0 K6c.1) K7c.1) E8.1) E9.1) K10c.1) K13c.1) Fc13_1) hZ (hw _ (List.mem_of_getElem? (i := 108) rfl)) (hw _ (List.mem_of_getElem? (i := 36) rfl)) (by decide) (by decide)) q15a q15c (g := (mkF m 134 #[.val (.int p1), .val (.int p2), .val (.int p3), .val (.int p4), .val (.int p5), .val (.int v12_s0), .val (.int v27_s0), .val (.ref b6), .val (.ref b7), .val (.ref b8), .val (.int (1 : Int32)), .val (.ref b8), .unset, .unset, .unset] [(.ref b8)])) rfl (by rw [hml]; rfl) (Steps.refl _) (argsL := []) (rest := []) (lenOf pd_0_11 rfl) rfl (by show 2 * 0 + _ ≤ _; exact Nat.le_of_eq rfl) (hb hby at_134) (fun _ _ => ⟨rfl, e14, (by decide : 10 + 0 ≤ _), (by decide : 2780 + 0 ≤ _)⟩)
  dsimp only [Pt.U, Pt.locs, Pt.cells, Pt.slots] at X15 l15 y15 z15 st15 hQ15
  subst l15 y15 z15
  obtain ⟨rfl, N15q, e15⟩ := hQ15
  have N15 := Fr.app N14 N15q
  obtain ⟨cq16, kq16, q16a, q16b, q16c⟩ := isOf hZ e15 Ec13
  obtain ⟨_, _, ⟨T16, L16, k16, n16⟩, -, X16, ⟨Lc16, hQ16, l16, y16, z16⟩, st16⟩ := X15.virtualBack hx (y := (⟨"nephrite/EvaluationException", "on", "(Ljava/lang/String;I)Lnephrite/EvaluationException;"⟩ : MethodName)) (z := (⟨"nephrite/EvaluationException", "on", "(Ljava/lang/String;I)Lnephrite/EvaluationException;"⟩ : MethodName)) hown (mvT hZ (hw _ (List.mem_of_getElem? (i := 111) rfl))) (mvT hZ (hw _ (List.mem_of_getElem? (i := 112) rfl))) (notFace_of_selects (args := #[]) (mvT hZ (hw _ (List.mem_of_getElem? (i := 114) rfl)))) (mvT hZ (hw _ (List.mem_of_getElem? (i := 114) rfl))) (mvT hZ (hw _ (List.mem_of_getElem? (i := 113) rfl))) (by decide) (backOf (W := 0) (rm16t l Z a0 hw [] b8 b7 v27_s0 _ T13.heap n0 (Nat.le_trans (Nat.le_trans (Nat.le_trans (Nat.le_trans (Nat.le_trans (Nat.le_trans Z0 K6c.1) K7c.1) E8.1) E9.1) K10c.1) K13c.1) Fc13_0 hc162) hZ (hw _ (List.mem_of_getElem? (i := 115) rfl)) (hw _ (List.mem_of_getElem? (i := 36) rfl)) (by decide) (by decide)) q16a q16c (g := (mkF m 155 #[.val (.int p1), .val (.int p2), .val (.int p3), .val (.int p4), .val (.int p5), .val (.int v12_s0), .val (.int v27_s0), .val (.ref b6), .val (.ref b7), .val (.ref b8), .val (.int (1 : Int32)), .val (.ref b8), .unset, .unset, .unset] [(.int v27_s0), (.ref b7), (.ref b8)])) rfl (by rw [hml]; rfl) (Steps.refl _) (argsL := [(.ref b7), (.int v27_s0)]) (rest := []) (lenOf pd_0_12 rfl) rfl (by show 2 * 0 + _ ≤ _; exact Nat.le_of_eq rfl) (hb hby at_155) (fun _ _ => ⟨rfl, e15, (by decide : 10 + 0 ≤ _), (by decide : 2780 + 0 ≤ _)⟩)
  dsimp only [Pt.U, Pt.locs, Pt.cells, Pt.slots] at X16 l16 y16 z16 st16 hQ16
  subst l16 y16 z16
  obtain ⟨rfl, N16q, e16⟩ := hQ16
  have N16 := Fr.app N15 N16q
  obtain ⟨cq17, kq17, q17a, q17b, q17c⟩ := isOf hZ e16 Ec13
  obtain ⟨_, _, ⟨T17, L17, k17, n17⟩, -, X17, ⟨Lc17, hQ17, l17, y17, z17⟩, st17⟩ := X16.virtualBack hx (y := (⟨"nephrite/EvaluationException", "line", "()I"⟩ : MethodName)) (z := (⟨"nephrite/EvaluationException", "line", "()I"⟩ : MethodName)) hown (mvT hZ (hw _ (List.mem_of_getElem? (i := 97) rfl))) (mvT hZ (hw _ (List.mem_of_getElem? (i := 98) rfl))) (notFace_of_selects (args := #[]) (mvT hZ (hw _ (List.mem_of_getElem? (i := 100) rfl)))) (mvT hZ (hw _ (List.mem_of_getElem? (i := 100) rfl))) (mvT hZ (hw _ (List.mem_of_getElem? (i := 99) rfl))) (by decide) (backOf (W := 0) (rm14 l Z a0 hw [] b8 v12_s0 T13.heap n0 (Nat.le_trans (Nat.le_trans (Nat.le_trans (Nat.le_trans (Nat.le_trans (Nat.le_trans Z0 K6c.1) K7c.1) E8.1) E9.1) K10c.1) K13c.1) Fc13_0) hZ (hw _ (List.mem_of_getElem? (i := 101) rfl)) (hw _ (List.mem_of_getElem? (i := 36) rfl)) (by decide) (by decide)) q17a q17c (g := (mkF m 202 #[.val (.int p1), .val (.int p2), .val (.int p3), .val (.int p4), .val (.int p5), .val (.int v12_s0), .val (.int v27_s0), .val (.ref b6), .val (.ref b7), .val (.ref b8), .val (.int (1 : Int32)), .val (.ref b8), .val (.ref b8), .val (.int v12_s0), .val (.ref b6)] [(.ref b8)])) rfl (by rw [hml]; rfl) (Steps.refl _) (argsL := []) (rest := []) (lenOf pd_0_10 rfl) rfl (by show 2 * 0 + _ ≤ _; exact Nat.le_of_eq rfl) (hb hby at_202) (fun _ _ => ⟨rfl, e16, (by decide : 10 + 0 ≤ _), (by decide : 2780 + 0 ≤ _)⟩)
  dsimp only [Pt.U, Pt.locs, Pt.cells, Pt.slots] at X17 l17 y17 z17 st17 hQ17
  subst l17 y17 z17
  obtain ⟨rfl, N17q, e17⟩ := hQ17
  have N17 := Fr.app N16 N17q
  obtain ⟨cq18, kq18, q18a, q18b, q18c⟩ := isOf hZ e17 Ec13
  obtain ⟨_, _, ⟨T18, L18, k18, n18⟩, -, X18, ⟨Lc18, hQ18, l18, y18, z18⟩, st18⟩ := X17.virtualBack hx (y := (⟨"nephrite/EvaluationException", "templateName", "()Ljava/lang/String;"⟩ : MethodName)) (z := (⟨"nephrite/EvaluationException", "templateName", "()Ljava/lang/String;"⟩ : MethodName)) hown (mvT hZ (hw _ (List.mem_of_getElem? (i := 104) rfl))) (mvT hZ (hw _ (List.mem_of_getElem? (i := 105) rfl))) (notFace_of_selects (args := #[]) (mvT hZ (hw _ (List.mem_of_getElem? (i := 107) rfl)))) (mvT hZ (hw _ (List.mem_of_getElem? (i := 107) rfl))) (mvT hZ (hw _ (List.mem_of_getElem? (i := 106) rfl))) (by decide) (backOf (W := 0) (rm15 l Z a0 hw [] b8 b6 T13.heap n0 (Nat.le_trans (Nat.le_trans (Nat.le_trans (Nat.le_trans (Nat.le_trans (Nat.le_trans Z0 K6c.1) K7c.1) E8.1) E9.1) K10c.1) K13c.1) Fc13_1) hZ (hw _ (List.mem_of_getElem? (i := 108) rfl)) (hw _ (List.mem_of_getElem? (i := 36) rfl)) (by decide) (by decide)) q18a q18c (g := (mkF m 212 #[.val (.int p1), .val (.int p2), .val (.int p3), .val (.int p4), .val (.int p5), .val (.int v12_s0), .val (.int v27_s0), .val (.ref b6), .val (.ref b7), .val (.ref b8), .val (.int (1 : Int32)), .val (.ref b8), .val (.ref b8), .val (.int v12_s0), .val (.ref b6)] [(.ref b8)])) rfl (by rw [hml]; rfl) (Steps.refl _) (argsL := []) (rest := []) (lenOf pd_0_11 rfl) rfl (by show 2 * 0 + _ ≤ _; exact Nat.le_of_eq rfl) (hb hby at_212) (fun _ _ => ⟨rfl, e17, (by decide : 10 + 0 ≤ _), (by decide : 2780 + 0 ≤ _)⟩)
  dsimp only [Pt.U, Pt.locs, Pt.cells, Pt.slots] at X18 l18 y18 z18 st18 hQ18
  subst l18 y18 z18
  obtain ⟨rfl, N18q, e18⟩ := hQ18
  have N18 := Fr.app N17 N18q
  obtain ⟨fs, hr, hrun, hended, hRE⟩ := X18.leaveW hS (by rw [e18]; exact (Nat.le_trans (Nat.le_trans hk K10c.1) K13c.1)) (v := some (.int (1 : Int32))) (fun h => by rw [Bd.returns] at h; cases h)
  refine ⟨_, _, pre0 _ ?_, hrun, hended, _, _, rfl, ?_, hRE.1, hRE.2.1, hRE.2.2.1, hRE.2.2.2.mono (by decide) (by decide)⟩
  · show Steps p.tables e below (s₁.setTop (mkF m 0 #[.val (.int p1), .val (.int p2), .val (.int p3), .val (.int p4), .val (.int p5), .unset, .unset, .unset, .unset, .unset, .unset, .unset, .unset, .unset, .unset] [])) _
    refine XS.iload X0.here hx rfl (hb hby at_0) rfl ?_
    show Steps p.tables e below (s₁.setTop (mkF m 2 #[.val (.int p1), .val (.int p2), .val (.int p3), .val (.int p4), .val (.int p5), .unset, .unset, .unset, .unset, .unset, .unset, .unset, .unset, .unset, .unset] [(.int p5)])) _
    refine XS.iconst X0.here hx rfl (hb hby at_2) ?_
    show Steps p.tables e below (s₁.setTop (mkF m 3 #[.val (.int p1), .val (.int p2), .val (.int p3), .val (.int p4), .val (.int p5), .unset, .unset, .unset, .unset, .unset, .unset, .unset, .unset, .unset, .unset] [(.int (1 : Int32)), (.int p5)])) _
    refine XS.iand X0.here hx rfl (hb hby at_3) rfl ?_
    refine sg4 _ ?_
    show Steps p.tables e below (s₁.setTop (mkF m 12 #[.val (.int p1), .val (.int p2), .val (.int p3), .val (.int p4), .val (.int p5), .unset, .unset, .unset, .unset, .unset, .unset, .unset, .unset, .unset, .unset] [(.int v12_s0)])) _
    refine XS.istore X0.here hx rfl (hb hby at_12) rfl (l' := #[.val (.int p1), .val (.int p2), .val (.int p3), .val (.int p4), .val (.int p5), .val (.int v12_s0), .unset, .unset, .unset, .unset, .unset, .unset, .unset, .unset, .unset]) rfl ?_
    show Steps p.tables e below (s₁.setTop (mkF m 14 #[.val (.int p1), .val (.int p2), .val (.int p3), .val (.int p4), .val (.int p5), .val (.int v12_s0), .unset, .unset, .unset, .unset, .unset, .unset, .unset, .unset, .unset] [])) _
    refine XS.iload X0.here hx rfl (hb hby at_14) rfl ?_
    show Steps p.tables e below (s₁.setTop (mkF m 16 #[.val (.int p1), .val (.int p2), .val (.int p3), .val (.int p4), .val (.int p5), .val (.int v12_s0), .unset, .unset, .unset, .unset, .unset, .unset, .unset, .unset, .unset] [(.int p5)])) _
    refine XS.bipush X0.here hx rfl (hb hby at_16) ?_
    show Steps p.tables e below (s₁.setTop (mkF m 18 #[.val (.int p1), .val (.int p2), .val (.int p3), .val (.int p4), .val (.int p5), .val (.int v12_s0), .unset, .unset, .unset, .unset, .unset, .unset, .unset, .unset, .unset] [(.int (8 : Int32)), (.int p5)])) _
    refine XS.iand X0.here hx rfl (hb hby at_18) rfl ?_
    refine sg19 _ ?_
    show Steps p.tables e below (s₁.setTop (mkF m 27 #[.val (.int p1), .val (.int p2), .val (.int p3), .val (.int p4), .val (.int p5), .val (.int v12_s0), .unset, .unset, .unset, .unset, .unset, .unset, .unset, .unset, .unset] [(.int v27_s0)])) _
    refine XS.istore X0.here hx rfl (hb hby at_27) rfl (l' := #[.val (.int p1), .val (.int p2), .val (.int p3), .val (.int p4), .val (.int p5), .val (.int v12_s0), .val (.int v27_s0), .unset, .unset, .unset, .unset, .unset, .unset, .unset, .unset]) rfl ?_
    show Steps p.tables e below (s₁.setTop (mkF m 29 #[.val (.int p1), .val (.int p2), .val (.int p3), .val (.int p4), .val (.int p5), .val (.int v12_s0), .val (.int v27_s0), .unset, .unset, .unset, .unset, .unset, .unset, .unset, .unset] [])) _
    refine XS.iloadN X0.here hx rfl (hb hby at_29) rfl ?_
    show Steps p.tables e below (s₁.setTop (mkF m 30 #[.val (.int p1), .val (.int p2), .val (.int p3), .val (.int p4), .val (.int p5), .val (.int v12_s0), .val (.int v27_s0), .unset, .unset, .unset, .unset, .unset, .unset, .unset, .unset] [(.int p3)])) _
    refine XS.iload X0.here hx rfl (hb hby at_30) rfl ?_
    show Steps p.tables e below (s₁.setTop (mkF m 32 #[.val (.int p1), .val (.int p2), .val (.int p3), .val (.int p4), .val (.int p5), .val (.int v12_s0), .val (.int v27_s0), .unset, .unset, .unset, .unset, .unset, .unset, .unset, .unset] [(.int p5), (.int p3)])) _
    refine XS.iconst X0.here hx rfl (hb hby at_32) ?_
    show Steps p.tables e below (s₁.setTop (mkF m 33 #[.val (.int p1), .val (.int p2), .val (.int p3), .val (.int p4), .val (.int p5), .val (.int v12_s0), .val (.int v27_s0), .unset, .unset, .unset, .unset, .unset, .unset, .unset, .unset] [(.int (2 : Int32)), (.int p5), (.int p3)])) _
    refine XS.iand X0.here hx rfl (hb hby at_33) rfl ?_
    show Steps p.tables e below (s₁.setTop (mkF m 34 #[.val (.int p1), .val (.int p2), .val (.int p3), .val (.int p4), .val (.int p5), .val (.int v12_s0), .val (.int v27_s0), .unset, .unset, .unset, .unset, .unset, .unset, .unset, .unset] [(.int (p5 &&& (2 : Int32))), (.int p3)])) _
    refine XS.ifYes X0.here hx rfl (pc0 := 34) (pc' := 41) rfl (hb hby at_34) rfl ((if0 _ _).trans (teq hc34).1) (by decide) (by decide) ?_
    show Steps p.tables e below (s₁.setTop (mkF m 41 #[.val (.int p1), .val (.int p2), .val (.int p3), .val (.int p4), .val (.int p5), .val (.int v12_s0), .val (.int v27_s0), .unset, .unset, .unset, .unset, .unset, .unset, .unset, .unset] [(.int p3)])) _
    refine XS.iconst X0.here hx rfl (hb hby at_41) ?_
    show Steps p.tables e below (s₁.setTop (mkF m 42 #[.val (.int p1), .val (.int p2), .val (.int p3), .val (.int p4), .val (.int p5), .val (.int v12_s0), .val (.int v27_s0), .unset, .unset, .unset, .unset, .unset, .unset, .unset, .unset] [(.int (0 : Int32)), (.int p3)])) _
    refine st6 _ ?_
    show Steps p.tables e below (T6.setTop (mkF m 45 #[.val (.int p1), .val (.int p2), .val (.int p3), .val (.int p4), .val (.int p5), .val (.int v12_s0), .val (.int v27_s0), .unset, .unset, .unset, .unset, .unset, .unset, .unset, .unset] [(.ref b6)])) _
    refine XS.astore X6.here hx rfl (hb hby at_45) rfl rfl (l' := #[.val (.int p1), .val (.int p2), .val (.int p3), .val (.int p4), .val (.int p5), .val (.int v12_s0), .val (.int v27_s0), .val (.ref b6), .unset, .unset, .unset, .unset, .unset, .unset, .unset]) rfl ?_
    show Steps p.tables e below (T6.setTop (mkF m 47 #[.val (.int p1), .val (.int p2), .val (.int p3), .val (.int p4), .val (.int p5), .val (.int v12_s0), .val (.int v27_s0), .val (.ref b6), .unset, .unset, .unset, .unset, .unset, .unset, .unset] [])) _
    refine XS.iloadN X6.here hx rfl (hb hby at_47) rfl ?_
    show Steps p.tables e below (T6.setTop (mkF m 48 #[.val (.int p1), .val (.int p2), .val (.int p3), .val (.int p4), .val (.int p5), .val (.int v12_s0), .val (.int v27_s0), .val (.ref b6), .unset, .unset, .unset, .unset, .unset, .unset, .unset] [(.int p4)])) _
    refine XS.iload X6.here hx rfl (hb hby at_48) rfl ?_
    show Steps p.tables e below (T6.setTop (mkF m 50 #[.val (.int p1), .val (.int p2), .val (.int p3), .val (.int p4), .val (.int p5), .val (.int v12_s0), .val (.int v27_s0), .val (.ref b6), .unset, .unset, .unset, .unset, .unset, .unset, .unset] [(.int p5), (.int p4)])) _
    refine XS.iconst X6.here hx rfl (hb hby at_50) ?_
    show Steps p.tables e below (T6.setTop (mkF m 51 #[.val (.int p1), .val (.int p2), .val (.int p3), .val (.int p4), .val (.int p5), .val (.int v12_s0), .val (.int v27_s0), .val (.ref b6), .unset, .unset, .unset, .unset, .unset, .unset, .unset] [(.int (4 : Int32)), (.int p5), (.int p4)])) _
    refine XS.iand X6.here hx rfl (hb hby at_51) rfl ?_
    show Steps p.tables e below (T6.setTop (mkF m 52 #[.val (.int p1), .val (.int p2), .val (.int p3), .val (.int p4), .val (.int p5), .val (.int v12_s0), .val (.int v27_s0), .val (.ref b6), .unset, .unset, .unset, .unset, .unset, .unset, .unset] [(.int (p5 &&& (4 : Int32))), (.int p4)])) _
    refine XS.ifYes X6.here hx rfl (pc0 := 52) (pc' := 59) rfl (hb hby at_52) rfl ((if0 _ _).trans (teq hc52).1) (by decide) (by decide) ?_
    show Steps p.tables e below (T6.setTop (mkF m 59 #[.val (.int p1), .val (.int p2), .val (.int p3), .val (.int p4), .val (.int p5), .val (.int v12_s0), .val (.int v27_s0), .val (.ref b6), .unset, .unset, .unset, .unset, .unset, .unset, .unset] [(.int p4)])) _
    refine XS.iconst X6.here hx rfl (hb hby at_59) ?_
    show Steps p.tables e below (T6.setTop (mkF m 60 #[.val (.int p1), .val (.int p2), .val (.int p3), .val (.int p4), .val (.int p5), .val (.int v12_s0), .val (.int v27_s0), .val (.ref b6), .unset, .unset, .unset, .unset, .unset, .unset, .unset] [(.int (0 : Int32)), (.int p4)])) _
    refine st7 _ ?_
    show Steps p.tables e below (T7.setTop (mkF m 63 #[.val (.int p1), .val (.int p2), .val (.int p3), .val (.int p4), .val (.int p5), .val (.int v12_s0), .val (.int v27_s0), .val (.ref b6), .unset, .unset, .unset, .unset, .unset, .unset, .unset] [(.ref b7)])) _
    refine XS.astore X7.here hx rfl (hb hby at_63) rfl rfl (l' := #[.val (.int p1), .val (.int p2), .val (.int p3), .val (.int p4), .val (.int p5), .val (.int v12_s0), .val (.int v27_s0), .val (.ref b6), .val (.ref b7), .unset, .unset, .unset, .unset, .unset, .unset]) rfl ?_
    show Steps p.tables e below (T7.setTop (mkF m 65 #[.val (.int p1), .val (.int p2), .val (.int p3), .val (.int p4), .val (.int p5), .val (.int v12_s0), .val (.int v27_s0), .val (.ref b6), .val (.ref b7), .unset, .unset, .unset, .unset, .unset, .unset] [])) _
    refine st8 _ ?_
    show Steps p.tables e below (T8.setTop (mkF m 68 #[.val (.int p1), .val (.int p2), .val (.int p3), .val (.int p4), .val (.int p5), .val (.int v12_s0), .val (.int v27_s0), .val (.ref b6), .val (.ref b7), .unset, .unset, .unset, .unset, .unset, .unset] [(.ref b8)])) _
    refine XS.dup X8.here hx rfl (hb hby at_68) rfl rfl ?_
    show Steps p.tables e below (T8.setTop (mkF m 69 #[.val (.int p1), .val (.int p2), .val (.int p3), .val (.int p4), .val (.int p5), .val (.int v12_s0), .val (.int v27_s0), .val (.ref b6), .val (.ref b7), .unset, .unset, .unset, .unset, .unset, .unset] [(.ref b8), (.ref b8)])) _
    refine st9 _ ?_
    show Steps p.tables e below (T9.setTop (mkF m 71 #[.val (.int p1), .val (.int p2), .val (.int p3), .val (.int p4), .val (.int p5), .val (.int v12_s0), .val (.int v27_s0), .val (.ref b6), .val (.ref b7), .unset, .unset, .unset, .unset, .unset, .unset] [(.ref b9), (.ref b8), (.ref b8)])) _
    refine st10.trans ?_
    show Steps p.tables e below (T10.setTop (mkF m 74 #[.val (.int p1), .val (.int p2), .val (.int p3), .val (.int p4), .val (.int p5), .val (.int v12_s0), .val (.int v27_s0), .val (.ref b6), .val (.ref b7), .unset, .unset, .unset, .unset, .unset, .unset] [(.ref b8)])) _
    refine XS.astore X10.here hx rfl (hb hby at_74) rfl rfl (l' := #[.val (.int p1), .val (.int p2), .val (.int p3), .val (.int p4), .val (.int p5), .val (.int v12_s0), .val (.int v27_s0), .val (.ref b6), .val (.ref b7), .val (.ref b8), .unset, .unset, .unset, .unset, .unset]) rfl ?_
    show Steps p.tables e below (T10.setTop (mkF m 76 #[.val (.int p1), .val (.int p2), .val (.int p3), .val (.int p4), .val (.int p5), .val (.int v12_s0), .val (.int v27_s0), .val (.ref b6), .val (.ref b7), .val (.ref b8), .unset, .unset, .unset, .unset, .unset] [])) _
    refine XS.aload X10.here hx rfl (hb hby at_76) rfl rfl ?_
    show Steps p.tables e below (T10.setTop (mkF m 78 #[.val (.int p1), .val (.int p2), .val (.int p3), .val (.int p4), .val (.int p5), .val (.int v12_s0), .val (.int v27_s0), .val (.ref b6), .val (.ref b7), .val (.ref b8), .unset, .unset, .unset, .unset, .unset] [(.ref b8)])) _
    refine st11.trans ?_
    show Steps p.tables e below (T11.setTop (mkF m 81 #[.val (.int p1), .val (.int p2), .val (.int p3), .val (.int p4), .val (.int p5), .val (.int v12_s0), .val (.int v27_s0), .val (.ref b6), .val (.ref b7), .val (.ref b8), .unset, .unset, .unset, .unset, .unset] [(.int (0 : Int32))])) _
    refine XS.ifNo X11.here hx rfl (hb hby at_81) rfl ((if0 _ _).trans (teq (rfl : (0 : Int32) = (0 : Int32))).2) ?_
    show Steps p.tables e below (T11.setTop (mkF m 84 #[.val (.int p1), .val (.int p2), .val (.int p3), .val (.int p4), .val (.int p5), .val (.int v12_s0), .val (.int v27_s0), .val (.ref b6), .val (.ref b7), .val (.ref b8), .unset, .unset, .unset, .unset, .unset] [])) _
    refine XS.aload X11.here hx rfl (hb hby at_84) rfl rfl ?_
    show Steps p.tables e below (T11.setTop (mkF m 86 #[.val (.int p1), .val (.int p2), .val (.int p3), .val (.int p4), .val (.int p5), .val (.int v12_s0), .val (.int v27_s0), .val (.ref b6), .val (.ref b7), .val (.ref b8), .unset, .unset, .unset, .unset, .unset] [(.ref b8)])) _
    refine st12.trans ?_
    show Steps p.tables e below (T12.setTop (mkF m 89 #[.val (.int p1), .val (.int p2), .val (.int p3), .val (.int p4), .val (.int p5), .val (.int v12_s0), .val (.int v27_s0), .val (.ref b6), .val (.ref b7), .val (.ref b8), .unset, .unset, .unset, .unset, .unset] [.null])) _
    refine XS.ifnonnullNo X12.here hx rfl (hb hby at_89) rfl ?_
    show Steps p.tables e below (T12.setTop (mkF m 92 #[.val (.int p1), .val (.int p2), .val (.int p3), .val (.int p4), .val (.int p5), .val (.int v12_s0), .val (.int v27_s0), .val (.ref b6), .val (.ref b7), .val (.ref b8), .unset, .unset, .unset, .unset, .unset] [])) _
    refine XS.iconst X12.here hx rfl (hb hby at_92) ?_
    show Steps p.tables e below (T12.setTop (mkF m 93 #[.val (.int p1), .val (.int p2), .val (.int p3), .val (.int p4), .val (.int p5), .val (.int v12_s0), .val (.int v27_s0), .val (.ref b6), .val (.ref b7), .val (.ref b8), .unset, .unset, .unset, .unset, .unset] [(.int (1 : Int32))])) _
    refine XS.goto X12.here hx rfl (pc0 := 93) (pc' := 97) rfl (hb hby at_93) (by decide) (by decide) ?_
    show Steps p.tables e below (T12.setTop (mkF m 97 #[.val (.int p1), .val (.int p2), .val (.int p3), .val (.int p4), .val (.int p5), .val (.int v12_s0), .val (.int v27_s0), .val (.ref b6), .val (.ref b7), .val (.ref b8), .unset, .unset, .unset, .unset, .unset] [(.int (1 : Int32))])) _
    refine XS.istore X12.here hx rfl (hb hby at_97) rfl (l' := #[.val (.int p1), .val (.int p2), .val (.int p3), .val (.int p4), .val (.int p5), .val (.int v12_s0), .val (.int v27_s0), .val (.ref b6), .val (.ref b7), .val (.ref b8), .val (.int (1 : Int32)), .unset, .unset, .unset, .unset]) rfl ?_
    show Steps p.tables e below (T12.setTop (mkF m 99 #[.val (.int p1), .val (.int p2), .val (.int p3), .val (.int p4), .val (.int p5), .val (.int v12_s0), .val (.int v27_s0), .val (.ref b6), .val (.ref b7), .val (.ref b8), .val (.int (1 : Int32)), .unset, .unset, .unset, .unset] [])) _
    refine XS.aload X12.here hx rfl (hb hby at_99) rfl rfl ?_
    show Steps p.tables e below (T12.setTop (mkF m 101 #[.val (.int p1), .val (.int p2), .val (.int p3), .val (.int p4), .val (.int p5), .val (.int v12_s0), .val (.int v27_s0), .val (.ref b6), .val (.ref b7), .val (.ref b8), .val (.int (1 : Int32)), .unset, .unset, .unset, .unset] [(.ref b8)])) _
    refine XS.aload X12.here hx rfl (hb hby at_101) rfl rfl ?_
    show Steps p.tables e below (T12.setTop (mkF m 103 #[.val (.int p1), .val (.int p2), .val (.int p3), .val (.int p4), .val (.int p5), .val (.int v12_s0), .val (.int v27_s0), .val (.ref b6), .val (.ref b7), .val (.ref b8), .val (.int (1 : Int32)), .unset, .unset, .unset, .unset] [(.ref b6), (.ref b8)])) _
    refine XS.iload X12.here hx rfl (hb hby at_103) rfl ?_
    show Steps p.tables e below (T12.setTop (mkF m 105 #[.val (.int p1), .val (.int p2), .val (.int p3), .val (.int p4), .val (.int p5), .val (.int v12_s0), .val (.int v27_s0), .val (.ref b6), .val (.ref b7), .val (.ref b8), .val (.int (1 : Int32)), .unset, .unset, .unset, .unset] [(.int v12_s0), (.ref b6), (.ref b8)])) _
    refine st13.trans ?_
    show Steps p.tables e below (T13.setTop (mkF m 108 #[.val (.int p1), .val (.int p2), .val (.int p3), .val (.int p4), .val (.int p5), .val (.int v12_s0), .val (.int v27_s0), .val (.ref b6), .val (.ref b7), .val (.ref b8), .val (.int (1 : Int32)), .unset, .unset, .unset, .unset] [(.ref b8)])) _
    refine XS.astore X13.here hx rfl (hb hby at_108) rfl rfl (l' := #[.val (.int p1), .val (.int p2), .val (.int p3), .val (.int p4), .val (.int p5), .val (.int v12_s0), .val (.int v27_s0), .val (.ref b6), .val (.ref b7), .val (.ref b8), .val (.int (1 : Int32)), .val (.ref b8), .unset, .unset, .unset]) rfl ?_
    show Steps p.tables e below (T13.setTop (mkF m 110 #[.val (.int p1), .val (.int p2), .val (.int p3), .val (.int p4), .val (.int p5), .val (.int v12_s0), .val (.int v27_s0), .val (.ref b6), .val (.ref b7), .val (.ref b8), .val (.int (1 : Int32)), .val (.ref b8), .unset, .unset, .unset] [])) _
    refine XS.iload X13.here hx rfl (hb hby at_110) rfl ?_
    show Steps p.tables e below (T13.setTop (mkF m 112 #[.val (.int p1), .val (.int p2), .val (.int p3), .val (.int p4), .val (.int p5), .val (.int v12_s0), .val (.int v27_s0), .val (.ref b6), .val (.ref b7), .val (.ref b8), .val (.int (1 : Int32)), .val (.ref b8), .unset, .unset, .unset] [(.int (1 : Int32))])) _
    refine XS.ifNo X13.here hx rfl (hb hby at_112) rfl ((if0 _ _).trans (feq (by decide : ¬ ((1 : Int32) = (0 : Int32)))).1) ?_
    show Steps p.tables e below (T13.setTop (mkF m 115 #[.val (.int p1), .val (.int p2), .val (.int p3), .val (.int p4), .val (.int p5), .val (.int v12_s0), .val (.int v27_s0), .val (.ref b6), .val (.ref b7), .val (.ref b8), .val (.int (1 : Int32)), .val (.ref b8), .unset, .unset, .unset] [])) _
    refine XS.aload X13.here hx rfl (hb hby at_115) rfl rfl ?_
    show Steps p.tables e below (T13.setTop (mkF m 117 #[.val (.int p1), .val (.int p2), .val (.int p3), .val (.int p4), .val (.int p5), .val (.int v12_s0), .val (.int v27_s0), .val (.ref b6), .val (.ref b7), .val (.ref b8), .val (.int (1 : Int32)), .val (.ref b8), .unset, .unset, .unset] [(.ref b8)])) _
    refine XS.aload X13.here hx rfl (hb hby at_117) rfl rfl ?_
    show Steps p.tables e below (T13.setTop (mkF m 119 #[.val (.int p1), .val (.int p2), .val (.int p3), .val (.int p4), .val (.int p5), .val (.int v12_s0), .val (.int v27_s0), .val (.ref b6), .val (.ref b7), .val (.ref b8), .val (.int (1 : Int32)), .val (.ref b8), .unset, .unset, .unset] [(.ref b8), (.ref b8)])) _
    refine Jvm.RoadKit.acmp (g := (mkF m 119 #[.val (.int p1), .val (.int p2), .val (.int p3), .val (.int p4), .val (.int p5), .val (.int v12_s0), .val (.int v27_s0), .val (.ref b6), .val (.ref b7), .val (.ref b8), .val (.int (1 : Int32)), .val (.ref b8), .unset, .unset, .unset] [(.ref b8), (.ref b8)])) X13 hx rfl rfl rfl (pc0 := 119) (pc' := 122) (same := true) rfl (hb hby at_119) rfl (decide_eq_true rfl) (by decide) (by decide) ?_
    show Steps p.tables e below (T13.setTop (mkF m 122 #[.val (.int p1), .val (.int p2), .val (.int p3), .val (.int p4), .val (.int p5), .val (.int v12_s0), .val (.int v27_s0), .val (.ref b6), .val (.ref b7), .val (.ref b8), .val (.int (1 : Int32)), .val (.ref b8), .unset, .unset, .unset] [])) _
    refine XS.aload X13.here hx rfl (hb hby at_122) rfl rfl ?_
    show Steps p.tables e below (T13.setTop (mkF m 124 #[.val (.int p1), .val (.int p2), .val (.int p3), .val (.int p4), .val (.int p5), .val (.int v12_s0), .val (.int v27_s0), .val (.ref b6), .val (.ref b7), .val (.ref b8), .val (.int (1 : Int32)), .val (.ref b8), .unset, .unset, .unset] [(.ref b8)])) _
    refine st14.trans ?_
    show Steps p.tables e below (T14.setTop (mkF m 127 #[.val (.int p1), .val (.int p2), .val (.int p3), .val (.int p4), .val (.int p5), .val (.int v12_s0), .val (.int v27_s0), .val (.ref b6), .val (.ref b7), .val (.ref b8), .val (.int (1 : Int32)), .val (.ref b8), .unset, .unset, .unset] [(.int v12_s0)])) _
    refine XS.iload X14.here hx rfl (hb hby at_127) rfl ?_
    show Steps p.tables e below (T14.setTop (mkF m 129 #[.val (.int p1), .val (.int p2), .val (.int p3), .val (.int p4), .val (.int p5), .val (.int v12_s0), .val (.int v27_s0), .val (.ref b6), .val (.ref b7), .val (.ref b8), .val (.int (1 : Int32)), .val (.ref b8), .unset, .unset, .unset] [(.int v12_s0), (.int v12_s0)])) _
    refine XS.icmpNo X14.here hx rfl (hb hby at_129) rfl (teq (rfl : v12_s0 = v12_s0)).2 ?_
    show Steps p.tables e below (T14.setTop (mkF m 132 #[.val (.int p1), .val (.int p2), .val (.int p3), .val (.int p4), .val (.int p5), .val (.int v12_s0), .val (.int v27_s0), .val (.ref b6), .val (.ref b7), .val (.ref b8), .val (.int (1 : Int32)), .val (.ref b8), .unset, .unset, .unset] [])) _
    refine XS.aload X14.here hx rfl (hb hby at_132) rfl rfl ?_
    show Steps p.tables e below (T14.setTop (mkF m 134 #[.val (.int p1), .val (.int p2), .val (.int p3), .val (.int p4), .val (.int p5), .val (.int v12_s0), .val (.int v27_s0), .val (.ref b6), .val (.ref b7), .val (.ref b8), .val (.int (1 : Int32)), .val (.ref b8), .unset, .unset, .unset] [(.ref b8)])) _
    refine st15.trans ?_
    show Steps p.tables e below (T15.setTop (mkF m 137 #[.val (.int p1), .val (.int p2), .val (.int p3), .val (.int p4), .val (.int p5), .val (.int v12_s0), .val (.int v27_s0), .val (.ref b6), .val (.ref b7), .val (.ref b8), .val (.int (1 : Int32)), .val (.ref b8), .unset, .unset, .unset] [(.ref b6)])) _
    refine XS.aload X15.here hx rfl (hb hby at_137) rfl rfl ?_
    show Steps p.tables e below (T15.setTop (mkF m 139 #[.val (.int p1), .val (.int p2), .val (.int p3), .val (.int p4), .val (.int p5), .val (.int v12_s0), .val (.int v27_s0), .val (.ref b6), .val (.ref b7), .val (.ref b8), .val (.int (1 : Int32)), .val (.ref b8), .unset, .unset, .unset] [(.ref b6), (.ref b6)])) _
    refine Jvm.RoadKit.acmp (g := (mkF m 139 #[.val (.int p1), .val (.int p2), .val (.int p3), .val (.int p4), .val (.int p5), .val (.int v12_s0), .val (.int v27_s0), .val (.ref b6), .val (.ref b7), .val (.ref b8), .val (.int (1 : Int32)), .val (.ref b8), .unset, .unset, .unset] [(.ref b6), (.ref b6)])) X15 hx rfl rfl rfl (pc0 := 139) (pc' := 142) (same := true) rfl (hb hby at_139) rfl (decide_eq_true rfl) (by decide) (by decide) ?_
    show Steps p.tables e below (T15.setTop (mkF m 142 #[.val (.int p1), .val (.int p2), .val (.int p3), .val (.int p4), .val (.int p5), .val (.int v12_s0), .val (.int v27_s0), .val (.ref b6), .val (.ref b7), .val (.ref b8), .val (.int (1 : Int32)), .val (.ref b8), .unset, .unset, .unset] [])) _
    refine XS.iconst X15.here hx rfl (hb hby at_142) ?_
    show Steps p.tables e below (T15.setTop (mkF m 143 #[.val (.int p1), .val (.int p2), .val (.int p3), .val (.int p4), .val (.int p5), .val (.int v12_s0), .val (.int v27_s0), .val (.ref b6), .val (.ref b7), .val (.ref b8), .val (.int (1 : Int32)), .val (.ref b8), .unset, .unset, .unset] [(.int (1 : Int32))])) _
    refine XS.goto X15.here hx rfl (pc0 := 143) (pc' := 147) rfl (hb hby at_143) (by decide) (by decide) ?_
    show Steps p.tables e below (T15.setTop (mkF m 147 #[.val (.int p1), .val (.int p2), .val (.int p3), .val (.int p4), .val (.int p5), .val (.int v12_s0), .val (.int v27_s0), .val (.ref b6), .val (.ref b7), .val (.ref b8), .val (.int (1 : Int32)), .val (.ref b8), .unset, .unset, .unset] [(.int (1 : Int32))])) _
    refine XS.istore X15.here hx rfl (hb hby at_147) rfl (l' := #[.val (.int p1), .val (.int p2), .val (.int p3), .val (.int p4), .val (.int p5), .val (.int v12_s0), .val (.int v27_s0), .val (.ref b6), .val (.ref b7), .val (.ref b8), .val (.int (1 : Int32)), .val (.ref b8), .unset, .unset, .unset]) rfl ?_
    show Steps p.tables e below (T15.setTop (mkF m 149 #[.val (.int p1), .val (.int p2), .val (.int p3), .val (.int p4), .val (.int p5), .val (.int v12_s0), .val (.int v27_s0), .val (.ref b6), .val (.ref b7), .val (.ref b8), .val (.int (1 : Int32)), .val (.ref b8), .unset, .unset, .unset] [])) _
    refine XS.aload X15.here hx rfl (hb hby at_149) rfl rfl ?_
    show Steps p.tables e below (T15.setTop (mkF m 151 #[.val (.int p1), .val (.int p2), .val (.int p3), .val (.int p4), .val (.int p5), .val (.int v12_s0), .val (.int v27_s0), .val (.ref b6), .val (.ref b7), .val (.ref b8), .val (.int (1 : Int32)), .val (.ref b8), .unset, .unset, .unset] [(.ref b8)])) _
    refine XS.aload X15.here hx rfl (hb hby at_151) rfl rfl ?_
    show Steps p.tables e below (T15.setTop (mkF m 153 #[.val (.int p1), .val (.int p2), .val (.int p3), .val (.int p4), .val (.int p5), .val (.int v12_s0), .val (.int v27_s0), .val (.ref b6), .val (.ref b7), .val (.ref b8), .val (.int (1 : Int32)), .val (.ref b8), .unset, .unset, .unset] [(.ref b7), (.ref b8)])) _
    refine XS.iload X15.here hx rfl (hb hby at_153) rfl ?_
    show Steps p.tables e below (T15.setTop (mkF m 155 #[.val (.int p1), .val (.int p2), .val (.int p3), .val (.int p4), .val (.int p5), .val (.int v12_s0), .val (.int v27_s0), .val (.ref b6), .val (.ref b7), .val (.ref b8), .val (.int (1 : Int32)), .val (.ref b8), .unset, .unset, .unset] [(.int v27_s0), (.ref b7), (.ref b8)])) _
    refine st16.trans ?_
    show Steps p.tables e below (T16.setTop (mkF m 158 #[.val (.int p1), .val (.int p2), .val (.int p3), .val (.int p4), .val (.int p5), .val (.int v12_s0), .val (.int v27_s0), .val (.ref b6), .val (.ref b7), .val (.ref b8), .val (.int (1 : Int32)), .val (.ref b8), .unset, .unset, .unset] [(.ref b8)])) _
    refine XS.astore X16.here hx rfl (hb hby at_158) rfl rfl (l' := #[.val (.int p1), .val (.int p2), .val (.int p3), .val (.int p4), .val (.int p5), .val (.int v12_s0), .val (.int v27_s0), .val (.ref b6), .val (.ref b7), .val (.ref b8), .val (.int (1 : Int32)), .val (.ref b8), .val (.ref b8), .unset, .unset]) rfl ?_
    show Steps p.tables e below (T16.setTop (mkF m 160 #[.val (.int p1), .val (.int p2), .val (.int p3), .val (.int p4), .val (.int p5), .val (.int v12_s0), .val (.int v27_s0), .val (.ref b6), .val (.ref b7), .val (.ref b8), .val (.int (1 : Int32)), .val (.ref b8), .val (.ref b8), .unset, .unset] [])) _
    refine XS.iload X16.here hx rfl (hb hby at_160) rfl ?_
    show Steps p.tables e below (T16.setTop (mkF m 162 #[.val (.int p1), .val (.int p2), .val (.int p3), .val (.int p4), .val (.int p5), .val (.int v12_s0), .val (.int v27_s0), .val (.ref b6), .val (.ref b7), .val (.ref b8), .val (.int (1 : Int32)), .val (.ref b8), .val (.ref b8), .unset, .unset] [(.int v12_s0)])) _
    refine XS.ifYes X16.here hx rfl (pc0 := 162) (pc' := 170) rfl (hb hby at_162) rfl ((if0 _ _).trans (feq hc162).2) (by decide) (by decide) ?_
    show Steps p.tables e below (T16.setTop (mkF m 170 #[.val (.int p1), .val (.int p2), .val (.int p3), .val (.int p4), .val (.int p5), .val (.int v12_s0), .val (.int v27_s0), .val (.ref b6), .val (.ref b7), .val (.ref b8), .val (.int (1 : Int32)), .val (.ref b8), .val (.ref b8), .unset, .unset] [])) _
    refine XS.iload X16.here hx rfl (hb hby at_170) rfl ?_
    show Steps p.tables e below (T16.setTop (mkF m 172 #[.val (.int p1), .val (.int p2), .val (.int p3), .val (.int p4), .val (.int p5), .val (.int v12_s0), .val (.int v27_s0), .val (.ref b6), .val (.ref b7), .val (.ref b8), .val (.int (1 : Int32)), .val (.ref b8), .val (.ref b8), .unset, .unset] [(.int v12_s0)])) _
    refine XS.istore X16.here hx rfl (hb hby at_172) rfl (l' := #[.val (.int p1), .val (.int p2), .val (.int p3), .val (.int p4), .val (.int p5), .val (.int v12_s0), .val (.int v27_s0), .val (.ref b6), .val (.ref b7), .val (.ref b8), .val (.int (1 : Int32)), .val (.ref b8), .val (.ref b8), .val (.int v12_s0), .unset]) rfl ?_
    show Steps p.tables e below (T16.setTop (mkF m 174 #[.val (.int p1), .val (.int p2), .val (.int p3), .val (.int p4), .val (.int p5), .val (.int v12_s0), .val (.int v27_s0), .val (.ref b6), .val (.ref b7), .val (.ref b8), .val (.int (1 : Int32)), .val (.ref b8), .val (.ref b8), .val (.int v12_s0), .unset] [])) _
    refine XS.iload X16.here hx rfl (hb hby at_174) rfl ?_
    show Steps p.tables e below (T16.setTop (mkF m 176 #[.val (.int p1), .val (.int p2), .val (.int p3), .val (.int p4), .val (.int p5), .val (.int v12_s0), .val (.int v27_s0), .val (.ref b6), .val (.ref b7), .val (.ref b8), .val (.int (1 : Int32)), .val (.ref b8), .val (.ref b8), .val (.int v12_s0), .unset] [(.int v12_s0)])) _
    refine XS.ifYes X16.here hx rfl (pc0 := 176) (pc' := 184) rfl (hb hby at_176) rfl ((if0 _ _).trans (feq hc176).2) (by decide) (by decide) ?_
    show Steps p.tables e below (T16.setTop (mkF m 184 #[.val (.int p1), .val (.int p2), .val (.int p3), .val (.int p4), .val (.int p5), .val (.int v12_s0), .val (.int v27_s0), .val (.ref b6), .val (.ref b7), .val (.ref b8), .val (.int (1 : Int32)), .val (.ref b8), .val (.ref b8), .val (.int v12_s0), .unset] [])) _
    refine XS.aload X16.here hx rfl (hb hby at_184) rfl rfl ?_
    show Steps p.tables e below (T16.setTop (mkF m 186 #[.val (.int p1), .val (.int p2), .val (.int p3), .val (.int p4), .val (.int p5), .val (.int v12_s0), .val (.int v27_s0), .val (.ref b6), .val (.ref b7), .val (.ref b8), .val (.int (1 : Int32)), .val (.ref b8), .val (.ref b8), .val (.int v12_s0), .unset] [(.ref b6)])) _
    refine XS.astore X16.here hx rfl (hb hby at_186) rfl rfl (l' := #[.val (.int p1), .val (.int p2), .val (.int p3), .val (.int p4), .val (.int p5), .val (.int v12_s0), .val (.int v27_s0), .val (.ref b6), .val (.ref b7), .val (.ref b8), .val (.int (1 : Int32)), .val (.ref b8), .val (.ref b8), .val (.int v12_s0), .val (.ref b6)]) rfl ?_
    show Steps p.tables e below (T16.setTop (mkF m 188 #[.val (.int p1), .val (.int p2), .val (.int p3), .val (.int p4), .val (.int p5), .val (.int v12_s0), .val (.int v27_s0), .val (.ref b6), .val (.ref b7), .val (.ref b8), .val (.int (1 : Int32)), .val (.ref b8), .val (.ref b8), .val (.int v12_s0), .val (.ref b6)] [])) _
    refine XS.iload X16.here hx rfl (hb hby at_188) rfl ?_
    show Steps p.tables e below (T16.setTop (mkF m 190 #[.val (.int p1), .val (.int p2), .val (.int p3), .val (.int p4), .val (.int p5), .val (.int v12_s0), .val (.int v27_s0), .val (.ref b6), .val (.ref b7), .val (.ref b8), .val (.int (1 : Int32)), .val (.ref b8), .val (.ref b8), .val (.int v12_s0), .val (.ref b6)] [(.int (1 : Int32))])) _
    refine XS.ifNo X16.here hx rfl (hb hby at_190) rfl ((if0 _ _).trans (feq (by decide : ¬ ((1 : Int32) = (0 : Int32)))).1) ?_
    show Steps p.tables e below (T16.setTop (mkF m 193 #[.val (.int p1), .val (.int p2), .val (.int p3), .val (.int p4), .val (.int p5), .val (.int v12_s0), .val (.int v27_s0), .val (.ref b6), .val (.ref b7), .val (.ref b8), .val (.int (1 : Int32)), .val (.ref b8), .val (.ref b8), .val (.int v12_s0), .val (.ref b6)] [])) _
    refine XS.aload X16.here hx rfl (hb hby at_193) rfl rfl ?_
    show Steps p.tables e below (T16.setTop (mkF m 195 #[.val (.int p1), .val (.int p2), .val (.int p3), .val (.int p4), .val (.int p5), .val (.int v12_s0), .val (.int v27_s0), .val (.ref b6), .val (.ref b7), .val (.ref b8), .val (.int (1 : Int32)), .val (.ref b8), .val (.ref b8), .val (.int v12_s0), .val (.ref b6)] [(.ref b8)])) _
    refine XS.aload X16.here hx rfl (hb hby at_195) rfl rfl ?_
    show Steps p.tables e below (T16.setTop (mkF m 197 #[.val (.int p1), .val (.int p2), .val (.int p3), .val (.int p4), .val (.int p5), .val (.int v12_s0), .val (.int v27_s0), .val (.ref b6), .val (.ref b7), .val (.ref b8), .val (.int (1 : Int32)), .val (.ref b8), .val (.ref b8), .val (.int v12_s0), .val (.ref b6)] [(.ref b8), (.ref b8)])) _
    refine Jvm.RoadKit.acmp (g := (mkF m 197 #[.val (.int p1), .val (.int p2), .val (.int p3), .val (.int p4), .val (.int p5), .val (.int v12_s0), .val (.int v27_s0), .val (.ref b6), .val (.ref b7), .val (.ref b8), .val (.int (1 : Int32)), .val (.ref b8), .val (.ref b8), .val (.int v12_s0), .val (.ref b6)] [(.ref b8), (.ref b8)])) X16 hx rfl rfl rfl (pc0 := 197) (pc' := 200) (same := true) rfl (hb hby at_197) rfl (decide_eq_true rfl) (by decide) (by decide) ?_
    show Steps p.tables e below (T16.setTop (mkF m 200 #[.val (.int p1), .val (.int p2), .val (.int p3), .val (.int p4), .val (.int p5), .val (.int v12_s0), .val (.int v27_s0), .val (.ref b6), .val (.ref b7), .val (.ref b8), .val (.int (1 : Int32)), .val (.ref b8), .val (.ref b8), .val (.int v12_s0), .val (.ref b6)] [])) _
    refine XS.aload X16.here hx rfl (hb hby at_200) rfl rfl ?_
    show Steps p.tables e below (T16.setTop (mkF m 202 #[.val (.int p1), .val (.int p2), .val (.int p3), .val (.int p4), .val (.int p5), .val (.int v12_s0), .val (.int v27_s0), .val (.ref b6), .val (.ref b7), .val (.ref b8), .val (.int (1 : Int32)), .val (.ref b8), .val (.ref b8), .val (.int v12_s0), .val (.ref b6)] [(.ref b8)])) _
    refine st17.trans ?_
    show Steps p.tables e below (T17.setTop (mkF m 205 #[.val (.int p1), .val (.int p2), .val (.int p3), .val (.int p4), .val (.int p5), .val (.int v12_s0), .val (.int v27_s0), .val (.ref b6), .val (.ref b7), .val (.ref b8), .val (.int (1 : Int32)), .val (.ref b8), .val (.ref b8), .val (.int v12_s0), .val (.ref b6)] [(.int v12_s0)])) _
    refine XS.iload X17.here hx rfl (hb hby at_205) rfl ?_
    show Steps p.tables e below (T17.setTop (mkF m 207 #[.val (.int p1), .val (.int p2), .val (.int p3), .val (.int p4), .val (.int p5), .val (.int v12_s0), .val (.int v27_s0), .val (.ref b6), .val (.ref b7), .val (.ref b8), .val (.int (1 : Int32)), .val (.ref b8), .val (.ref b8), .val (.int v12_s0), .val (.ref b6)] [(.int v12_s0), (.int v12_s0)])) _
    refine XS.icmpNo X17.here hx rfl (hb hby at_207) rfl (teq (rfl : v12_s0 = v12_s0)).2 ?_
    show Steps p.tables e below (T17.setTop (mkF m 210 #[.val (.int p1), .val (.int p2), .val (.int p3), .val (.int p4), .val (.int p5), .val (.int v12_s0), .val (.int v27_s0), .val (.ref b6), .val (.ref b7), .val (.ref b8), .val (.int (1 : Int32)), .val (.ref b8), .val (.ref b8), .val (.int v12_s0), .val (.ref b6)] [])) _
    refine XS.aload X17.here hx rfl (hb hby at_210) rfl rfl ?_
    show Steps p.tables e below (T17.setTop (mkF m 212 #[.val (.int p1), .val (.int p2), .val (.int p3), .val (.int p4), .val (.int p5), .val (.int v12_s0), .val (.int v27_s0), .val (.ref b6), .val (.ref b7), .val (.ref b8), .val (.int (1 : Int32)), .val (.ref b8), .val (.ref b8), .val (.int v12_s0), .val (.ref b6)] [(.ref b8)])) _
    refine st18.trans ?_
    show Steps p.tables e below (T18.setTop (mkF m 215 #[.val (.int p1), .val (.int p2), .val (.int p3), .val (.int p4), .val (.int p5), .val (.int v12_s0), .val (.int v27_s0), .val (.ref b6), .val (.ref b7), .val (.ref b8), .val (.int (1 : Int32)), .val (.ref b8), .val (.ref b8), .val (.int v12_s0), .val (.ref b6)] [(.ref b6)])) _
    refine XS.aload X18.here hx rfl (hb hby at_215) rfl rfl ?_
    show Steps p.tables e below (T18.setTop (mkF m 217 #[.val (.int p1), .val (.int p2), .val (.int p3), .val (.int p4), .val (.int p5), .val (.int v12_s0), .val (.int v27_s0), .val (.ref b6), .val (.ref b7), .val (.ref b8), .val (.int (1 : Int32)), .val (.ref b8), .val (.ref b8), .val (.int v12_s0), .val (.ref b6)] [(.ref b6), (.ref b6)])) _
    refine Jvm.RoadKit.acmp (g := (mkF m 217 #[.val (.int p1), .val (.int p2), .val (.int p3), .val (.int p4), .val (.int p5), .val (.int v12_s0), .val (.int v27_s0), .val (.ref b6), .val (.ref b7), .val (.ref b8), .val (.int (1 : Int32)), .val (.ref b8), .val (.ref b8), .val (.int v12_s0), .val (.ref b6)] [(.ref b6), (.ref b6)])) X18 hx rfl rfl rfl (pc0 := 217) (pc' := 220) (same := true) rfl (hb hby at_217) rfl (decide_eq_true rfl) (by decide) (by decide) ?_
    show Steps p.tables e below (T18.setTop (mkF m 220 #[.val (.int p1), .val (.int p2), .val (.int p3), .val (.int p4), .val (.int p5), .val (.int v12_s0), .val (.int v27_s0), .val (.ref b6), .val (.ref b7), .val (.ref b8), .val (.int (1 : Int32)), .val (.ref b8), .val (.ref b8), .val (.int v12_s0), .val (.ref b6)] [])) _
    refine XS.iconst X18.here hx rfl (hb hby at_220) ?_
    show Steps p.tables e below (T18.setTop (mkF m 221 #[.val (.int p1), .val (.int p2), .val (.int p3), .val (.int p4), .val (.int p5), .val (.int v12_s0), .val (.int v27_s0), .val (.ref b6), .val (.ref b7), .val (.ref b8), .val (.int (1 : Int32)), .val (.ref b8), .val (.ref b8), .val (.int v12_s0), .val (.ref b6)] [(.int (1 : Int32))])) _
    refine XS.goto X18.here hx rfl (pc0 := 221) (pc' := 225) rfl (hb hby at_221) (by decide) (by decide) ?_
    show Steps p.tables e below (T18.setTop (mkF m 225 #[.val (.int p1), .val (.int p2), .val (.int p3), .val (.int p4), .val (.int p5), .val (.int v12_s0), .val (.int v27_s0), .val (.ref b6), .val (.ref b7), .val (.ref b8), .val (.int (1 : Int32)), .val (.ref b8), .val (.ref b8), .val (.int v12_s0), .val (.ref b6)] [(.int (1 : Int32))])) _
    refine XS.istore X18.here hx rfl (hb hby at_225) rfl (l' := #[.val (.int p1), .val (.int p2), .val (.int p3), .val (.int p4), .val (.int p5), .val (.int v12_s0), .val (.int v27_s0), .val (.ref b6), .val (.ref b7), .val (.ref b8), .val (.int (1 : Int32)), .val (.ref b8), .val (.ref b8), .val (.int v12_s0), .val (.ref b6)]) rfl ?_
    show Steps p.tables e below (T18.setTop (mkF m 227 #[.val (.int p1), .val (.int p2), .val (.int p3), .val (.int p4), .val (.int p5), .val (.int v12_s0), .val (.int v27_s0), .val (.ref b6), .val (.ref b7), .val (.ref b8), .val (.int (1 : Int32)), .val (.ref b8), .val (.ref b8), .val (.int v12_s0), .val (.ref b6)] [])) _
    refine XS.iload X18.here hx rfl (hb hby at_227) rfl ?_
    show Steps p.tables e below (T18.setTop (mkF m 229 #[.val (.int p1), .val (.int p2), .val (.int p3), .val (.int p4), .val (.int p5), .val (.int v12_s0), .val (.int v27_s0), .val (.ref b6), .val (.ref b7), .val (.ref b8), .val (.int (1 : Int32)), .val (.ref b8), .val (.ref b8), .val (.int v12_s0), .val (.ref b6)] [(.int (1 : Int32))])) _
    exact retN X18 hx (t := .boolean) Bd.returns (by simp) (hb hby at_229) hr
  · show Q0rrt Z p1 p2 p3 p4 p5 v12_s0 v27_s0 h0 n0 _ T18.heap _
    rw [e18]
    exact ⟨rfl, N18⟩
def Q0rnz (Z : State) (p1 : Int32) (p2 : Int32) (p3 : Int32) (p4 : Int32) (p5 : Int32) (v12_s0 : Int32) (v27_s0 : Int32) (h0 : Heap) (n0 : Nat) (v : Option Value) (h : Heap) (L : List Loc) : Prop := v = some (.int (1 : Int32)) ∧ Fr n0 L
set_option maxRecDepth 65536 in
set_option maxHeartbeats 40000000 in
theorem rm0rnz (l : Launch) (Z : State) (a0 : Array Value) (hw : ∀ d ∈ tables_1, d.before a0 Z = true) (ws : List Jvm.Cond) (p1 : Int32) (p2 : Int32) (p3 : Int32) (p4 : Int32) (p5 : Int32) (v12_s0 : Int32) (v27_s0 : Int32) (zc : Int32) (h0 : Heap) (n0 : Nat) (Z0 : n0 ≤ h0.size) (hv12_s0 : v12_s0 = (if (p5 &&& (1 : Int32)) = (0 : Int32) then p1 else (0 : Int32))) (hv27_s0 : v27_s0 = (if (p5 &&& (8 : Int32)) = (0 : Int32) then p2 else (0 : Int32))) (O0 : Old Z n0 h0) (hc34 : (p5 &&& (2 : Int32)) = (0 : Int32)) (hc52 : ¬ ((p5 &&& (4 : Int32)) = (0 : Int32))) (hc162 : v12_s0 = (0 : Int32)) (hc176 : v12_s0 = (0 : Int32)) (hlT : l.stackTraces = true) (S0 : own_St Z Z.heap) (S_cs : Sta Z Z.heap "java/lang/String" "COMPACT_STRINGS" "Z" (.int zc)) (hcs : ¬ (zc = (0 : Int32))) (wS : ∀ a ∈ Bundle.stringAtoms, a.before a0 Z = true) (hz0 : h0 = Z.heap) :
    MetFree l x (head1 (Jvm.Cond.code x code maxLocals ret :: ws) room_1) (fun a U => a = #[(.int p1), (.int p2), (.int p3), (.int p4), (.int p5)] ∧ U.vm = Z.vm ∧ U.heap = h0) (fun _ _ B U _ => U.vm.MethodsKnown ∧ U.vm.FramesKnown B) (fun _ U o U' => ∃ v L, o = .returned v ∧ Q0rnz Z p1 p2 p3 p4 p5 v12_s0 v27_s0 h0 n0 v U'.heap L ∧ ReturnedEndW U o U' L room_1.cells room_1.slots) := by
  refine MetFree.of_bodySF (plainFor_of_name pn_0) hisR ?_
  intro p e s m args below meth c s₁ Bd hml0 hP hK
  obtain ⟨rfl, hU, hh⟩ := hP
  obtain ⟨hTK, hBK⟩ := hK
  rw [hU] at hTK hBK
  have hZ : Z.Warmed39 (s.setVm s.vm).vm := by
    show Z.Warmed39 s.vm
    rw [hU]; exact State.Warmed39.refl Z
  have hx := Bd.exec
  have hby := Bd.bytes
  have hml : c.maxLocals = 15 := hml0
  have hown : (s.setVm s.vm).vm.findClass "nephrite/EvaluationExceptionOnPinLaw" = some m.cls := findClass_of_methodNamed Bd.named
  have hnm := (name_of_methodNamed Bd.named Bd.method).1
  have X0 : Stand p l e room_1 (s.setVm s.vm) m #[(.int p1), (.int p2), (.int p3), (.int p4), (.int p5)] below meth c s₁ [] 0 0 := Stand.of_body Bd
  have e0 : s₁.heap = h0 := by rw [← hh, Bd.state]; rfl
  have N0 := Fr.nil n0
  have hS : s.Since s.vm h0.size := (State.WarmedH.refl s).since _
  have hk : h0.size ≤ h0.size := Nat.le_refl _
  have pre0 : ∀ t, Steps p.tables e below (s₁.setTop (mkF m 0 #[.val (.int p1), .val (.int p2), .val (.int p3), .val (.int p4), .val (.int p5), .unset, .unset, .unset, .unset, .unset, .unset, .unset, .unset, .unset, .unset] [])) t → Steps p.tables e below (s₁.setTop (entryFrame m #[(.int p1), (.int p2), (.int p3), (.int p4), (.int p5)] maxLocals)) t := fun t k => castTop (ef_0 m p1 p2 p3 p4 p5) k
  have sg4 : ∀ t, Steps p.tables e below (s₁.setTop (mkF m 12 #[.val (.int p1), .val (.int p2), .val (.int p3), .val (.int p4), .val (.int p5), .unset, .unset, .unset, .unset, .unset, .unset, .unset, .unset, .unset, .unset] [(.int v12_s0)])) t → Steps p.tables e below (s₁.setTop (mkF m 4 #[.val (.int p1), .val (.int p2), .val (.int p3), .val (.int p4), .val (.int p5), .unset, .unset, .unset, .unset, .unset, .unset, .unset, .unset, .unset, .unset] [(.int (p5 &&& (1 : Int32)))])) t := by
    intro t kt
    show Steps p.tables e below (s₁.setTop (mkF m 4 #[.val (.int p1), .val (.int p2), .val (.int p3), .val (.int p4), .val (.int p5), .unset, .unset, .unset, .unset, .unset, .unset, .unset, .unset, .unset, .unset] [(.int (p5 &&& (1 : Int32)))])) _
    by_cases hm4 : (p5 &&& (1 : Int32)) = (0 : Int32)
    · rw [show v12_s0 = p1 by rw [hv12_s0, if_pos hm4]] at kt
      refine XS.ifYes X0.here hx rfl (pc0 := 4) (pc' := 11) rfl (hb hby at_4) rfl ((if0 _ _).trans (teq hm4).1) (by decide) (by decide) ?_
      show Steps p.tables e below (s₁.setTop (mkF m 11 #[.val (.int p1), .val (.int p2), .val (.int p3), .val (.int p4), .val (.int p5), .unset, .unset, .unset, .unset, .unset, .unset, .unset, .unset, .unset, .unset] [])) _
      refine XS.iloadN X0.here hx rfl (hb hby at_11) rfl ?_
      exact kt
    · rw [show v12_s0 = (0 : Int32) by rw [hv12_s0, if_neg hm4]] at kt
      refine XS.ifNo X0.here hx rfl (hb hby at_4) rfl ((if0 _ _).trans (feq hm4).1) ?_
      show Steps p.tables e below (s₁.setTop (mkF m 7 #[.val (.int p1), .val (.int p2), .val (.int p3), .val (.int p4), .val (.int p5), .unset, .unset, .unset, .unset, .unset, .unset, .unset, .unset, .unset, .unset] [])) _
      refine XS.iconst X0.here hx rfl (hb hby at_7) ?_
      show Steps p.tables e below (s₁.setTop (mkF m 8 #[.val (.int p1), .val (.int p2), .val (.int p3), .val (.int p4), .val (.int p5), .unset, .unset, .unset, .unset, .unset, .unset, .unset, .unset, .unset, .unset] [(.int (0 : Int32))])) _
      refine XS.goto X0.here hx rfl (pc0 := 8) (pc' := 12) rfl (hb hby at_8) (by decide) (by decide) ?_
      exact kt
  have sg19 : ∀ t, Steps p.tables e below (s₁.setTop (mkF m 27 #[.val (.int p1), .val (.int p2), .val (.int p3), .val (.int p4), .val (.int p5), .val (.int v12_s0), .unset, .unset, .unset, .unset, .unset, .unset, .unset, .unset, .unset] [(.int v27_s0)])) t → Steps p.tables e below (s₁.setTop (mkF m 19 #[.val (.int p1), .val (.int p2), .val (.int p3), .val (.int p4), .val (.int p5), .val (.int v12_s0), .unset, .unset, .unset, .unset, .unset, .unset, .unset, .unset, .unset] [(.int (p5 &&& (8 : Int32)))])) t := by
    intro t kt
    show Steps p.tables e below (s₁.setTop (mkF m 19 #[.val (.int p1), .val (.int p2), .val (.int p3), .val (.int p4), .val (.int p5), .val (.int v12_s0), .unset, .unset, .unset, .unset, .unset, .unset, .unset, .unset, .unset] [(.int (p5 &&& (8 : Int32)))])) _
    by_cases hm19 : (p5 &&& (8 : Int32)) = (0 : Int32)
    · rw [show v27_s0 = p2 by rw [hv27_s0, if_pos hm19]] at kt
      refine XS.ifYes X0.here hx rfl (pc0 := 19) (pc' := 26) rfl (hb hby at_19) rfl ((if0 _ _).trans (teq hm19).1) (by decide) (by decide) ?_
      show Steps p.tables e below (s₁.setTop (mkF m 26 #[.val (.int p1), .val (.int p2), .val (.int p3), .val (.int p4), .val (.int p5), .val (.int v12_s0), .unset, .unset, .unset, .unset, .unset, .unset, .unset, .unset, .unset] [])) _
      refine XS.iloadN X0.here hx rfl (hb hby at_26) rfl ?_
      exact kt
    · rw [show v27_s0 = (0 : Int32) by rw [hv27_s0, if_neg hm19]] at kt
      refine XS.ifNo X0.here hx rfl (hb hby at_19) rfl ((if0 _ _).trans (feq hm19).1) ?_
      show Steps p.tables e below (s₁.setTop (mkF m 22 #[.val (.int p1), .val (.int p2), .val (.int p3), .val (.int p4), .val (.int p5), .val (.int v12_s0), .unset, .unset, .unset, .unset, .unset, .unset, .unset, .unset, .unset] [])) _
      refine XS.iconst X0.here hx rfl (hb hby at_22) ?_
      show Steps p.tables e below (s₁.setTop (mkF m 23 #[.val (.int p1), .val (.int p2), .val (.int p3), .val (.int p4), .val (.int p5), .val (.int v12_s0), .unset, .unset, .unset, .unset, .unset, .unset, .unset, .unset, .unset] [(.int (0 : Int32))])) _
      refine XS.goto X0.here hx rfl (pc0 := 23) (pc' := 27) rfl (hb hby at_23) (by decide) (by decide) ?_
      exact kt
  obtain ⟨_, _, ⟨T6, L6, k6, n6⟩, -, X6, ⟨Lc6, hQ6, l6, y6, z6⟩, st6⟩ := Jvm.LawKit.callS X0 hx (y := (⟨"nephrite/EvaluationExceptionOnPinLaw", "name", "(IZ)Ljava/lang/String;"⟩ : MethodName)) hown (mvT hZ (hw _ (List.mem_of_getElem? (i := 0) rfl))) (mvT hZ (hw _ (List.mem_of_getElem? (i := 1) rfl))) (mvT hZ (hw _ (List.mem_of_getElem? (i := 2) rfl))) (mvT hZ (hw _ (List.mem_of_getElem? (i := 3) rfl))) (by decide) (backOf (W := 0) (rm1 l Z a0 hw [] p3 (0 : Int32) zc h0 n0 Z0 S_cs hcs O0 rfl) hZ (hw _ (List.mem_of_getElem? (i := 3) rfl)) (hw _ (List.mem_of_getElem? (i := 2) rfl)) (by decide) (by decide)) (g := (mkF m 42 #[.val (.int p1), .val (.int p2), .val (.int p3), .val (.int p4), .val (.int p5), .val (.int v12_s0), .val (.int v27_s0), .unset, .unset, .unset, .unset, .unset, .unset, .unset, .unset] [(.int (0 : Int32)), (.int p3)])) rfl (by rw [hml]; rfl) (argsL := [(.int p3), (.int (0 : Int32))]) (rest := []) (lenOf pd_0_0 rfl) rfl (by show 2 * 0 + _ ≤ _; exact Nat.le_of_eq rfl) (hb hby at_42) (fun _ _ => ⟨rfl, e0, (by decide : 0 + 3 ≤ _), (by decide : 0 + 6 ≤ _)⟩)
  dsimp only [Pt.U, Pt.locs, Pt.cells, Pt.slots] at X6 l6 y6 z6 st6 hQ6
  subst l6 y6 z6
  obtain ⟨b6, rfl, N6q, K6c, g_b6, s6b, Ec6⟩ := hQ6
  have N6 := Fr.app N0 N6q
  have sz_b6 : h0.size ≤ b6 := Nat.le_trans (Keep.refl h0 []).1 s6b
  have K6 : Keep h0 T6.heap [] := (Keep.refl h0 []).trans K6c all0
  obtain ⟨_, _, ⟨T7, L7, k7, n7⟩, -, X7, ⟨Lc7, hQ7, l7, y7, z7⟩, st7⟩ := Jvm.LawKit.callS X6 hx (y := (⟨"nephrite/EvaluationExceptionOnPinLaw", "name", "(IZ)Ljava/lang/String;"⟩ : MethodName)) hown (mvT hZ (hw _ (List.mem_of_getElem? (i := 0) rfl))) (mvT hZ (hw _ (List.mem_of_getElem? (i := 1) rfl))) (mvT hZ (hw _ (List.mem_of_getElem? (i := 2) rfl))) (mvT hZ (hw _ (List.mem_of_getElem? (i := 3) rfl))) (by decide) (backOf (W := 0) (rm1n l Z a0 hw [] p4 (1 : Int32)  T6.heap n0 (Nat.le_trans Z0 K6c.1) (by decide)) hZ (hw _ (List.mem_of_getElem? (i := 3) rfl)) (hw _ (List.mem_of_getElem? (i := 2) rfl)) (by decide) (by decide)) (g := (mkF m 60 #[.val (.int p1), .val (.int p2), .val (.int p3), .val (.int p4), .val (.int p5), .val (.int v12_s0), .val (.int v27_s0), .val (.ref b6), .unset, .unset, .unset, .unset, .unset, .unset, .unset] [(.int (1 : Int32)), (.int p4)])) rfl (by rw [hml]; rfl) (argsL := [(.int p4), (.int (1 : Int32))]) (rest := []) (lenOf pd_0_0 rfl) rfl (by show 2 * 0 + _ ≤ _; exact Nat.le_of_eq rfl) (hb hby at_60) (fun _ _ => ⟨rfl, rfl, (by decide : 3 + 0 ≤ _), (by decide : 6 + 0 ≤ _)⟩)
  dsimp only [Pt.U, Pt.locs, Pt.cells, Pt.slots] at X7 l7 y7 z7 st7 hQ7
  subst l7 y7 z7
  obtain ⟨rfl, N7q, e7⟩ := hQ7
  have N7 := Fr.app N6 N7q
  obtain ⟨T8, h8, X8, e8, E8, A8, D8, U8, st8⟩ := newO X7 hx hZ hown (hw _ (List.mem_of_getElem? (i := 34) rfl)) (hw _ (List.mem_of_getElem? (i := 35) rfl)) (hw _ (List.mem_of_getElem? (i := 36) rfl)) e7 (g := (mkF m 65 #[.val (.int p1), .val (.int p2), .val (.int p3), .val (.int p4), .val (.int p5), .val (.int v12_s0), .val (.int v27_s0), .val (.ref b6), .val .null, .unset, .unset, .unset, .unset, .unset, .unset] [])) rfl (hb hby at_65) (by decide) (by decide)
  obtain ⟨b8, g8⟩ : ∃ z, z = T6.heap.size := ⟨_, rfl⟩
  rw [← g8] at A8 D8 st8
  have F_cause_b8 : Fld Z h8 b8 "java/lang/Throwable" "cause" "Ljava/lang/Throwable;" .null := D8 (Or.inl (hw _ (List.mem_of_getElem? (i := 62) rfl))) (ty := (.object "java/lang/Throwable")) (by decide)
  have F_stackTrace_b8 : Fld Z h8 b8 "java/lang/Throwable" "stackTrace" "[Ljava/lang/StackTraceElement;" .null := D8 (Or.inl (hw _ (List.mem_of_getElem? (i := 65) rfl))) (ty := (.array (.object "java/lang/StackTraceElement"))) (by decide)
  have F_suppressedExceptions_b8 : Fld Z h8 b8 "java/lang/Throwable" "suppressedExceptions" "Ljava/util/List;" .null := D8 (Or.inl (hw _ (List.mem_of_getElem? (i := 68) rfl))) (ty := (.object "java/util/List")) (by decide)
  have F_detailMessage_b8 : Fld Z h8 b8 "java/lang/Throwable" "detailMessage" "Ljava/lang/String;" .null := D8 (Or.inl (hw _ (List.mem_of_getElem? (i := 92) rfl))) (ty := (.object "java/lang/String")) (by decide)
  have F_backtrace_b8 : Fld Z h8 b8 "java/lang/Throwable" "backtrace" "Ljava/lang/Object;" .null := D8 (Or.inl (hw _ (List.mem_of_getElem? (i := 93) rfl))) (ty := (.object "java/lang/Object")) (by decide)
  have F_depth_b8 : Fld Z h8 b8 "java/lang/Throwable" "depth" "I" (.int (0 : Int32)) := D8 (Or.inl (hw _ (List.mem_of_getElem? (i := 94) rfl))) (ty := .int) (by decide)
  have F_line_b8 : Fld Z h8 b8 "nephrite/EvaluationException" "line" "I" (.int (0 : Int32)) := D8 (Or.inl (hw _ (List.mem_of_getElem? (i := 103) rfl))) (ty := .int) (by decide)
  have F_templateName_b8 : Fld Z h8 b8 "nephrite/EvaluationException" "templateName" "Ljava/lang/String;" .null := D8 (Or.inl (hw _ (List.mem_of_getElem? (i := 110) rfl))) (ty := (.object "java/lang/String")) (by decide)
  have U_b8 : Unt h8 b8 := by rw [g8]; exact U8
  have E_b8 := A8
  have g_b8 : n0 ≤ b8 := Nat.le_trans (Nat.le_trans Z0 K6c.1) (Nat.le_of_eq g8.symm)
  have sz_b8 : h0.size ≤ b8 := (Nat.le_trans K6.1 (Nat.le_of_eq g8.symm))
  have K8 : Keep h0 h8 [] := K6.ext E8
  obtain ⟨b9, T9, h9, q9, X9, e9, E9, hS, hk, hZ, hown, hC9, -, st9⟩ := ldcOH X8 hx hZ hown (hw _ (List.mem_of_getElem? (i := 37) rfl)) wS e8 hS (Nat.le_trans hk K8.1) (EW.nil : EW Z a0 []) (fun _ q => by cases q) (g := (mkF m 69 #[.val (.int p1), .val (.int p2), .val (.int p3), .val (.int p4), .val (.int p5), .val (.int v12_s0), .val (.int v27_s0), .val (.ref b6), .val .null, .unset, .unset, .unset, .unset, .unset, .unset] [(.ref b8), (.ref b8)])) rfl (hb hby at_69) (n := 4) (by decide) (by decide) (by decide) (by decide)
  have H := hC9.1
  have K9 : Keep h0 h9 [] := K8.ext E9
  obtain ⟨_, _, ⟨T10, L10, k10, n10⟩, -, X10, ⟨Lc10, hQ10, l10, y10, z10⟩, st10⟩ := X9.specialBack hx (y := (⟨"nephrite/EvaluationException", "<init>", "(Ljava/lang/String;)V"⟩ : MethodName)) rfl hown (mvT hZ (hw _ (List.mem_of_getElem? (i := 40) rfl))) (mvT hZ (hw _ (List.mem_of_getElem? (i := 41) rfl))) (mvT hZ (hw _ (List.mem_of_getElem? (i := 42) rfl))) (by decide) (own_backK (W := 1) (rm8 l Z a0 hw [] b8 b9  h9 n0 (Nat.le_trans (Nat.le_trans (Nat.le_trans Z0 K6c.1) E8.1) E9.1) g_b8 hlT ⟨(E_b8.ext E9), (U_b8.ext E9), ⟨_, (F_cause_b8.ext E9)⟩, ⟨_, (F_stackTrace_b8.ext E9)⟩, ⟨_, (F_suppressedExceptions_b8.ext E9)⟩, (F_backtrace_b8.ext E9), _, (F_detailMessage_b8.ext E9)⟩ (own_St_old S0 (O0.keep K9 all0))) hZ (hw _ (List.mem_of_getElem? (i := 42) rfl)) (hw _ (List.mem_of_getElem? (i := 36) rfl)) (Vm.MethodsKnown.alikeC hZ.alike hTK) (Vm.FramesKnown.alikeC hZ.alike hBK) (by decide) (by decide)) (g := (mkF m 71 #[.val (.int p1), .val (.int p2), .val (.int p3), .val (.int p4), .val (.int p5), .val (.int v12_s0), .val (.int v27_s0), .val (.ref b6), .val .null, .unset, .unset, .unset, .unset, .unset, .unset] [(.ref b9), (.ref b8), (.ref b8)])) rfl (by rw [hml]; rfl) (Steps.refl _) (a := b8) (argsL := [(.ref b9)]) (rest := [(.ref b8)]) (lenOf pd_0_7 rfl) rfl (by show 2 * 0 + _ ≤ _; exact Nat.le_of_eq rfl) (hb hby at_71) (fun _ _ => ⟨rfl, e9, (by decide : 6 + 1 ≤ _), (by decide : 22 + 2752 ≤ _)⟩)
  dsimp only [Pt.U, Pt.locs, Pt.cells, Pt.slots] at X10 l10 y10 z10 st10 hQ10
  subst l10 y10 z10
  obtain ⟨rfl, N10q, Kp10⟩ := hQ10
  have N10 := Fr.app N7 N10q
  have K10c := keep_of_kp Kp10
  have K10 : Keep h0 T10.heap [] := K9.trans K10c (allS (Or.inr sz_b8) all0)
  have Ec10 := (E_b8.ext E9).kp Kp10
  have Fk10_line := Fld.kp Kp10 (F_line_b8.ext E9) (Or.inr (own_six_ne hw (Or.inl (hw _ (List.mem_of_getElem? (i := 103) rfl))) (ty := .int) (by decide) (by decide)))
  have Fk10_templateName := Fld.kp Kp10 (F_templateName_b8.ext E9) (Or.inr (own_six_ne hw (Or.inl (hw _ (List.mem_of_getElem? (i := 110) rfl))) (ty := (.object "java/lang/String")) (by decide) (by decide)))
  obtain ⟨cq11, kq11, q11a, q11b, q11c⟩ := isOf hZ rfl Ec10
  obtain ⟨_, _, ⟨T11, L11, k11, n11⟩, -, X11, ⟨Lc11, hQ11, l11, y11, z11⟩, st11⟩ := X10.virtualBack hx (y := (⟨"nephrite/EvaluationException", "line", "()I"⟩ : MethodName)) (z := (⟨"nephrite/EvaluationException", "line", "()I"⟩ : MethodName)) hown (mvT hZ (hw _ (List.mem_of_getElem? (i := 97) rfl))) (mvT hZ (hw _ (List.mem_of_getElem? (i := 98) rfl))) (notFace_of_selects (args := #[]) (mvT hZ (hw _ (List.mem_of_getElem? (i := 100) rfl)))) (mvT hZ (hw _ (List.mem_of_getElem? (i := 100) rfl))) (mvT hZ (hw _ (List.mem_of_getElem? (i := 99) rfl))) (by decide) (backOf (W := 0) (rm14 l Z a0 hw [] b8 (0 : Int32) T10.heap n0 (Nat.le_trans (Nat.le_trans (Nat.le_trans (Nat.le_trans Z0 K6c.1) E8.1) E9.1) K10c.1) Fk10_line) hZ (hw _ (List.mem_of_getElem? (i := 101) rfl)) (hw _ (List.mem_of_getElem? (i := 36) rfl)) (by decide) (by decide)) q11a q11c (g := (mkF m 78 #[.val (.int p1), .val (.int p2), .val (.int p3), .val (.int p4), .val (.int p5), .val (.int v12_s0), .val (.int v27_s0), .val (.ref b6), .val .null, .val (.ref b8), .unset, .unset, .unset, .unset, .unset] [(.ref b8)])) rfl (by rw [hml]; rfl) (Steps.refl _) (argsL := []) (rest := []) (lenOf pd_0_10 rfl) rfl (by show 2 * 0 + _ ≤ _; exact Nat.le_of_eq rfl) (hb hby at_78) (fun _ _ => ⟨rfl, rfl, (by decide : 7 + 0 ≤ _), (by decide : 2774 + 0 ≤ _)⟩)
  dsimp only [Pt.U, Pt.locs, Pt.cells, Pt.slots] at X11 l11 y11 z11 st11 hQ11
  subst l11 y11 z11
  obtain ⟨rfl, N11q, e11⟩ := hQ11
  have N11 := Fr.app N10 N11q
  obtain ⟨cq12, kq12, q12a, q12b, q12c⟩ := isOf hZ e11 Ec10
  obtain ⟨_, _, ⟨T12, L12, k12, n12⟩, -, X12, ⟨Lc12, hQ12, l12, y12, z12⟩, st12⟩ := X11.virtualBack hx (y := (⟨"nephrite/EvaluationException", "templateName", "()Ljava/lang/String;"⟩ : MethodName)) (z := (⟨"nephrite/EvaluationException", "templateName", "()Ljava/lang/String;"⟩ : MethodName)) hown (mvT hZ (hw _ (List.mem_of_getElem? (i := 104) rfl))) (mvT hZ (hw _ (List.mem_of_getElem? (i := 105) rfl))) (notFace_of_selects (args := #[]) (mvT hZ (hw _ (List.mem_of_getElem? (i := 107) rfl)))) (mvT hZ (hw _ (List.mem_of_getElem? (i := 107) rfl))) (mvT hZ (hw _ (List.mem_of_getElem? (i := 106) rfl))) (by decide) (backOf (W := 0) (rm15n l Z a0 hw [] b8  T10.heap n0 (Nat.le_trans (Nat.le_trans (Nat.le_trans (Nat.le_trans Z0 K6c.1) E8.1) E9.1) K10c.1) Fk10_templateName) hZ (hw _ (List.mem_of_getElem? (i := 108) rfl)) (hw _ (List.mem_of_getElem? (i := 36) rfl)) (by decide) (by decide)) q12a q12c (g := (mkF m 86 #[.val (.int p1), .val (.int p2), .val (.int p3), .val (.int p4), .val (.int p5), .val (.int v12_s0), .val (.int v27_s0), .val (.ref b6), .val .null, .val (.ref b8), .unset, .unset, .unset, .unset, .unset] [(.ref b8)])) rfl (by rw [hml]; rfl) (Steps.refl _) (argsL := []) (rest := []) (lenOf pd_0_11 rfl) rfl (by show 2 * 0 + _ ≤ _; exact Nat.le_of_eq rfl) (hb hby at_86) (fun _ _ => ⟨rfl, e11, (by decide : 7 + 0 ≤ _), (by decide : 2774 + 0 ≤ _)⟩)
  dsimp only [Pt.U, Pt.locs, Pt.cells, Pt.slots] at X12 l12 y12 z12 st12 hQ12
  subst l12 y12 z12
  obtain ⟨rfl, N12q, e12⟩ := hQ12
  have N12 := Fr.app N11 N12q
  obtain ⟨cq13, kq13, q13a, q13b, q13c⟩ := isOf hZ e12 Ec10
  obtain ⟨_, _, ⟨T13, L13, k13, n13⟩, -, X13, ⟨Lc13, hQ13, l13, y13, z13⟩, st13⟩ := X12.virtualBack hx (y := (⟨"nephrite/EvaluationException", "on", "(Ljava/lang/String;I)Lnephrite/EvaluationException;"⟩ : MethodName)) (z := (⟨"nephrite/EvaluationException", "on", "(Ljava/lang/String;I)Lnephrite/EvaluationException;"⟩ : MethodName)) hown (mvT hZ (hw _ (List.mem_of_getElem? (i := 111) rfl))) (mvT hZ (hw _ (List.mem_of_getElem? (i := 112) rfl))) (notFace_of_selects (args := #[]) (mvT hZ (hw _ (List.mem_of_getElem? (i := 114) rfl)))) (mvT hZ (hw _ (List.mem_of_getElem? (i := 114) rfl))) (mvT hZ (hw _ (List.mem_of_getElem? (i := 113) rfl))) (by decide) (backOf (W := 0) (rm16f l Z a0 hw [] b8 b6 v12_s0 _ _ T10.heap n0 (Nat.le_trans (Nat.le_trans (Nat.le_trans (Nat.le_trans Z0 K6c.1) E8.1) E9.1) K10c.1) Fk10_line Ec10 Fk10_templateName g_b8 rfl) hZ (hw _ (List.mem_of_getElem? (i := 115) rfl)) (hw _ (List.mem_of_getElem? (i := 36) rfl)) (by decide) (by decide)) q13a q13c (g := (mkF m 105 #[.val (.int p1), .val (.int p2), .val (.int p3), .val (.int p4), .val (.int p5), .val (.int v12_s0), .val (.int v27_s0), .val (.ref b6), .val .null, .val (.ref b8), .val (.int (1 : Int32)), .unset, .unset, .unset, .unset] [(.int v12_s0), (.ref b6), (.ref b8)])) rfl (by rw [hml]; rfl) (Steps.refl _) (argsL := [(.ref b6), (.int v12_s0)]) (rest := []) (lenOf pd_0_12 rfl) rfl (by show 2 * 0 + _ ≤ _; exact Nat.le_of_eq rfl) (hb hby at_105) (fun _ _ => ⟨rfl, e12, (by decide : 7 + 0 ≤ _), (by decide : 2774 + 0 ≤ _)⟩)
  dsimp only [Pt.U, Pt.locs, Pt.cells, Pt.slots] at X13 l13 y13 z13 st13 hQ13
  subst l13 y13 z13
  obtain ⟨rfl, N13q, K13c, Ec13, Fc13_0, Fc13_1⟩ := hQ13
  have N13 := Fr.app N12 N13q
  have K13 : Keep h0 T13.heap [] := K10.trans K13c (allS (Or.inr sz_b8) all0)
  obtain ⟨cq14, kq14, q14a, q14b, q14c⟩ := isOf hZ rfl Ec13
  obtain ⟨_, _, ⟨T14, L14, k14, n14⟩, -, X14, ⟨Lc14, hQ14, l14, y14, z14⟩, st14⟩ := X13.virtualBack hx (y := (⟨"nephrite/EvaluationException", "line", "()I"⟩ : MethodName)) (z := (⟨"nephrite/EvaluationException", "line", "()I"⟩ : MethodName)) hown (mvT hZ (hw _ (List.mem_of_getElem? (i := 97) rfl))) (mvT hZ (hw _ (List.mem_of_getElem? (i := 98) rfl))) (notFace_of_selects (args := #[]) (mvT hZ (hw _ (List.mem_of_getElem? (i := 100) rfl)))) (mvT hZ (hw _ (List.mem_of_getElem? (i := 100) rfl))) (mvT hZ (hw _ (List.mem_of_getElem? (i := 99) rfl))) (by decide) (backOf (W := 0) (rm14 l Z a0 hw [] b8 v12_s0 T13.heap n0 (Nat.le_trans (Nat.le_trans (Nat.le_trans (Nat.le_trans (Nat.le_trans Z0 K6c.1) E8.1) E9.1) K10c.1) K13c.1) Fc13_0) hZ (hw _ (List.mem_of_getElem? (i := 101) rfl)) (hw _ (List.mem_of_getElem? (i := 36) rfl)) (by decide) (by decide)) q14a q14c (g := (mkF m 124 #[.val (.int p1), .val (.int p2), .val (.int p3), .val (.int p4), .val (.int p5), .val (.int v12_s0), .val (.int v27_s0), .val (.ref b6), .val .null, .val (.ref b8), .val (.int (1 : Int32)), .val (.ref b8), .unset, .unset, .unset] [(.ref b8)])) rfl (by rw [hml]; rfl) (Steps.refl _) (argsL := []) (rest := []) (lenOf pd_0_10 rfl) rfl (by show 2 * 0 + _ ≤ _; exact Nat.le_of_eq rfl) (hb hby at_124) (fun _ _ => ⟨rfl, rfl, (by decide : 7 + 0 ≤ _), (by decide : 2774 + 0 ≤ _)⟩)
  dsimp only [Pt.U, Pt.locs, Pt.cells, Pt.slots] at X14 l14 y14 z14 st14 hQ14
  subst l14 y14 z14
  obtain ⟨rfl, N14q, e14⟩ := hQ14
  have N14 := Fr.app N13 N14q
  obtain ⟨cq15, kq15, q15a, q15b, q15c⟩ := isOf hZ e14 Ec13
  obtain ⟨_, _, ⟨T15, L15, k15, n15⟩, -, X15, ⟨Lc15, hQ15, l15, y15, z15⟩, st15⟩ := X14.virtualBack hx (y := (⟨"nephrite/EvaluationException", "templateName", "()Ljava/lang/String;"⟩ : MethodName)) (z := (⟨"nephrite/EvaluationException", "templateName", "()Ljava/lang/String;"⟩ : MethodName)) hown (mvT hZ (hw _ (List.mem_of_getElem? (i := 104) rfl))) (mvT hZ (hw _ (List.mem_of_getElem? (i := 105) rfl))) (notFace_of_selects (args := #[]) (mvT hZ (hw _ (List.mem_of_getElem? (i := 107) rfl)))) (mvT hZ (hw _ (List.mem_of_getElem? (i := 107) rfl))) (mvT hZ (hw _ (List.mem_of_getElem? (i := 106) rfl))) (by decide) (backOf (W := 0) (rm15 l Z a0 hw [] b8 b6 T13.heap n0 (Nat.le_trans (Nat.le_trans (Nat.le_trans (Nat.le_trans (Nat.le_trans Z0 K6c.1) E8.1) E9.1) K10c.1) K13c.1) Fc13_1) hZ (hw _ (List.mem_of_getElem? (i := 108) rfl)) (hw _ (List.mem_of_getElem? (i := 36) rfl)) (by decide) (by decide)) q15a q15c (g := (mkF m 134 #[.val (.int p1), .val (.int p2), .val (.int p3), .val (.int p4), .val (.int p5), .val (.int v12_s0), .val (.int v27_s0), .val (.ref b6), .val .null, .val (.ref b8), .val (.int (1 : Int32)), .val (.ref b8), .unset, .unset, .unset] [(.ref b8)])) rfl (by rw [hml]; rfl) (Steps.refl _) (argsL := []) (rest := []) (lenOf pd_0_11 rfl) rfl (by show 2 * 0 + _ ≤ _; exact Nat.le_of_eq rfl) (hb hby at_134) (fun _ _ => ⟨rfl, e14, (by decide : 7 + 0 ≤ _), (by decide : 2774 + 0 ≤ _)⟩)
  dsimp only [Pt.U, Pt.locs, Pt.cells, Pt.slots] at X15 l15 y15 z15 st15 hQ15
  subst l15 y15 z15
  obtain ⟨rfl, N15q, e15⟩ := hQ15
  have N15 := Fr.app N14 N15q
  obtain ⟨cq16, kq16, q16a, q16b, q16c⟩ := isOf hZ e15 Ec13
  obtain ⟨_, _, ⟨T16, L16, k16, n16⟩, -, X16, ⟨Lc16, hQ16, l16, y16, z16⟩, st16⟩ := X15.virtualBack hx (y := (⟨"nephrite/EvaluationException", "on", "(Ljava/lang/String;I)Lnephrite/EvaluationException;"⟩ : MethodName)) (z := (⟨"nephrite/EvaluationException", "on", "(Ljava/lang/String;I)Lnephrite/EvaluationException;"⟩ : MethodName)) hown (mvT hZ (hw _ (List.mem_of_getElem? (i := 111) rfl))) (mvT hZ (hw _ (List.mem_of_getElem? (i := 112) rfl))) (notFace_of_selects (args := #[]) (mvT hZ (hw _ (List.mem_of_getElem? (i := 114) rfl)))) (mvT hZ (hw _ (List.mem_of_getElem? (i := 114) rfl))) (mvT hZ (hw _ (List.mem_of_getElem? (i := 113) rfl))) (by decide) (backOf (W := 0) (rm16fn l Z a0 hw [] b8 v27_s0 _ _ T13.heap n0 (Nat.le_trans (Nat.le_trans (Nat.le_trans (Nat.le_trans (Nat.le_trans Z0 K6c.1) E8.1) E9.1) K10c.1) K13c.1) Fc13_0 Ec13 Fc13_1 g_b8 hc162) hZ (hw _ (List.mem_of_getElem? (i := 115) rfl)) (hw _ (List.mem_of_getElem? (i := 36) rfl)) (by decide) (by decide)) q16a q16c (g := (mkF m 155 #[.val (.int p1), .val (.int p2), .val (.int p3), .val (.int p4), .val (.int p5), .val (.int v12_s0), .val (.int v27_s0), .val (.ref b6), .val .null, .val (.ref b8), .val (.int (1 : Int32)), .val (.ref b8), .unset, .unset, .unset] [(.int v27_s0), .null, (.ref b8)])) rfl (by rw [hml]; rfl) (Steps.refl _) (argsL := [.null, (.int v27_s0)]) (rest := []) (lenOf pd_0_12 rfl) rfl (by show 2 * 0 + _ ≤ _; exact Nat.le_of_eq rfl) (hb hby at_155) (fun _ _ => ⟨rfl, e15, (by decide : 7 + 0 ≤ _), (by decide : 2774 + 0 ≤ _)⟩)
  dsimp only [Pt.U, Pt.locs, Pt.cells, Pt.slots] at X16 l16 y16 z16 st16 hQ16
  subst l16 y16 z16
  obtain ⟨rfl, N16q, K16c, Ec16, Fc16_0, Fc16_1⟩ := hQ16
  have N16 := Fr.app N15 N16q
  have K16 : Keep h0 T16.heap [] := K13.trans K16c (allS (Or.inr sz_b8) all0)
  obtain ⟨cq17, kq17, q17a, q17b, q17c⟩ := isOf hZ rfl Ec16
  obtain ⟨_, _, ⟨T17, L17, k17, n17⟩, -, X17, ⟨Lc17, hQ17, l17, y17, z17⟩, st17⟩ := X16.virtualBack hx (y := (⟨"nephrite/EvaluationException", "line", "()I"⟩ : MethodName)) (z := (⟨"nephrite/EvaluationException", "line", "()I"⟩ : MethodName)) hown (mvT hZ (hw _ (List.mem_of_getElem? (i := 97) rfl))) (mvT hZ (hw _ (List.mem_of_getElem? (i := 98) rfl))) (notFace_of_selects (args := #[]) (mvT hZ (hw _ (List.mem_of_getElem? (i := 100) rfl)))) (mvT hZ (hw _ (List.mem_of_getElem? (i := 100) rfl))) (mvT hZ (hw _ (List.mem_of_getElem? (i := 99) rfl))) (by decide) (backOf (W := 0) (rm14 l Z a0 hw [] b8 v27_s0 T16.heap n0 (Nat.le_trans (Nat.le_trans (Nat.le_trans (Nat.le_trans (Nat.le_trans (Nat.le_trans Z0 K6c.1) E8.1) E9.1) K10c.1) K13c.1) K16c.1) Fc16_0) hZ (hw _ (List.mem_of_getElem? (i := 101) rfl)) (hw _ (List.mem_of_getElem? (i := 36) rfl)) (by decide) (by decide)) q17a q17c (g := (mkF m 202 #[.val (.int p1), .val (.int p2), .val (.int p3), .val (.int p4), .val (.int p5), .val (.int v12_s0), .val (.int v27_s0), .val (.ref b6), .val .null, .val (.ref b8), .val (.int (1 : Int32)), .val (.ref b8), .val (.ref b8), .val (.int v27_s0), .val .null] [(.ref b8)])) rfl (by rw [hml]; rfl) (Steps.refl _) (argsL := []) (rest := []) (lenOf pd_0_10 rfl) rfl (by show 2 * 0 + _ ≤ _; exact Nat.le_of_eq rfl) (hb hby at_202) (fun _ _ => ⟨rfl, rfl, (by decide : 7 + 0 ≤ _), (by decide : 2774 + 0 ≤ _)⟩)
  dsimp only [Pt.U, Pt.locs, Pt.cells, Pt.slots] at X17 l17 y17 z17 st17 hQ17
  subst l17 y17 z17
  obtain ⟨rfl, N17q, e17⟩ := hQ17
  have N17 := Fr.app N16 N17q
  obtain ⟨cq18, kq18, q18a, q18b, q18c⟩ := isOf hZ e17 Ec16
  obtain ⟨_, _, ⟨T18, L18, k18, n18⟩, -, X18, ⟨Lc18, hQ18, l18, y18, z18⟩, st18⟩ := X17.virtualBack hx (y := (⟨"nephrite/EvaluationException", "templateName", "()Ljava/lang/String;"⟩ : MethodName)) (z := (⟨"nephrite/EvaluationException", "templateName", "()Ljava/lang/String;"⟩ : MethodName)) hown (mvT hZ (hw _ (List.mem_of_getElem? (i := 104) rfl))) (mvT hZ (hw _ (List.mem_of_getElem? (i := 105) rfl))) (notFace_of_selects (args := #[]) (mvT hZ (hw _ (List.mem_of_getElem? (i := 107) rfl)))) (mvT hZ (hw _ (List.mem_of_getElem? (i := 107) rfl))) (mvT hZ (hw _ (List.mem_of_getElem? (i := 106) rfl))) (by decide) (backOf (W := 0) (rm15n l Z a0 hw [] b8  T16.heap n0 (Nat.le_trans (Nat.le_trans (Nat.le_trans (Nat.le_trans (Nat.le_trans (Nat.le_trans Z0 K6c.1) E8.1) E9.1) K10c.1) K13c.1) K16c.1) Fc16_1) hZ (hw _ (List.mem_of_getElem? (i := 108) rfl)) (hw _ (List.mem_of_getElem? (i := 36) rfl)) (by decide) (by decide)) q18a q18c (g := (mkF m 212 #[.val (.int p1), .val (.int p2), .val (.int p3), .val (.int p4), .val (.int p5), .val (.int v12_s0), .val (.int v27_s0), .val (.ref b6), .val .null, .val (.ref b8), .val (.int (1 : Int32)), .val (.ref b8), .val (.ref b8), .val (.int v27_s0), .val .null] [(.ref b8)])) rfl (by rw [hml]; rfl) (Steps.refl _) (argsL := []) (rest := []) (lenOf pd_0_11 rfl) rfl (by show 2 * 0 + _ ≤ _; exact Nat.le_of_eq rfl) (hb hby at_212) (fun _ _ => ⟨rfl, e17, (by decide : 7 + 0 ≤ _), (by decide : 2774 + 0 ≤ _)⟩)
  dsimp only [Pt.U, Pt.locs, Pt.cells, Pt.slots] at X18 l18 y18 z18 st18 hQ18
  subst l18 y18 z18
  obtain ⟨rfl, N18q, e18⟩ := hQ18
  have N18 := Fr.app N17 N18q
  obtain ⟨fs, hr, hrun, hended, hRE⟩ := X18.leaveW hS (by rw [e18]; exact (Nat.le_trans (Nat.le_trans (Nat.le_trans hk K10c.1) K13c.1) K16c.1)) (v := some (.int (1 : Int32))) (fun h => by rw [Bd.returns] at h; cases h)
  refine ⟨_, _, pre0 _ ?_, hrun, hended, _, _, rfl, ?_, hRE.1, hRE.2.1, hRE.2.2.1, hRE.2.2.2.mono (by decide) (by decide)⟩
  · show Steps p.tables e below (s₁.setTop (mkF m 0 #[.val (.int p1), .val (.int p2), .val (.int p3), .val (.int p4), .val (.int p5), .unset, .unset, .unset, .unset, .unset, .unset, .unset, .unset, .unset, .unset] [])) _
    refine XS.iload X0.here hx rfl (hb hby at_0) rfl ?_
    show Steps p.tables e below (s₁.setTop (mkF m 2 #[.val (.int p1), .val (.int p2), .val (.int p3), .val (.int p4), .val (.int p5), .unset, .unset, .unset, .unset, .unset, .unset, .unset, .unset, .unset, .unset] [(.int p5)])) _
    refine XS.iconst X0.here hx rfl (hb hby at_2) ?_
    show Steps p.tables e below (s₁.setTop (mkF m 3 #[.val (.int p1), .val (.int p2), .val (.int p3), .val (.int p4), .val (.int p5), .unset, .unset, .unset, .unset, .unset, .unset, .unset, .unset, .unset, .unset] [(.int (1 : Int32)), (.int p5)])) _
    refine XS.iand X0.here hx rfl (hb hby at_3) rfl ?_
    refine sg4 _ ?_
    show Steps p.tables e below (s₁.setTop (mkF m 12 #[.val (.int p1), .val (.int p2), .val (.int p3), .val (.int p4), .val (.int p5), .unset, .unset, .unset, .unset, .unset, .unset, .unset, .unset, .unset, .unset] [(.int v12_s0)])) _
    refine XS.istore X0.here hx rfl (hb hby at_12) rfl (l' := #[.val (.int p1), .val (.int p2), .val (.int p3), .val (.int p4), .val (.int p5), .val (.int v12_s0), .unset, .unset, .unset, .unset, .unset, .unset, .unset, .unset, .unset]) rfl ?_
    show Steps p.tables e below (s₁.setTop (mkF m 14 #[.val (.int p1), .val (.int p2), .val (.int p3), .val (.int p4), .val (.int p5), .val (.int v12_s0), .unset, .unset, .unset, .unset, .unset, .unset, .unset, .unset, .unset] [])) _
    refine XS.iload X0.here hx rfl (hb hby at_14) rfl ?_
    show Steps p.tables e below (s₁.setTop (mkF m 16 #[.val (.int p1), .val (.int p2), .val (.int p3), .val (.int p4), .val (.int p5), .val (.int v12_s0), .unset, .unset, .unset, .unset, .unset, .unset, .unset, .unset, .unset] [(.int p5)])) _
    refine XS.bipush X0.here hx rfl (hb hby at_16) ?_
    show Steps p.tables e below (s₁.setTop (mkF m 18 #[.val (.int p1), .val (.int p2), .val (.int p3), .val (.int p4), .val (.int p5), .val (.int v12_s0), .unset, .unset, .unset, .unset, .unset, .unset, .unset, .unset, .unset] [(.int (8 : Int32)), (.int p5)])) _
    refine XS.iand X0.here hx rfl (hb hby at_18) rfl ?_
    refine sg19 _ ?_
    show Steps p.tables e below (s₁.setTop (mkF m 27 #[.val (.int p1), .val (.int p2), .val (.int p3), .val (.int p4), .val (.int p5), .val (.int v12_s0), .unset, .unset, .unset, .unset, .unset, .unset, .unset, .unset, .unset] [(.int v27_s0)])) _
    refine XS.istore X0.here hx rfl (hb hby at_27) rfl (l' := #[.val (.int p1), .val (.int p2), .val (.int p3), .val (.int p4), .val (.int p5), .val (.int v12_s0), .val (.int v27_s0), .unset, .unset, .unset, .unset, .unset, .unset, .unset, .unset]) rfl ?_
    show Steps p.tables e below (s₁.setTop (mkF m 29 #[.val (.int p1), .val (.int p2), .val (.int p3), .val (.int p4), .val (.int p5), .val (.int v12_s0), .val (.int v27_s0), .unset, .unset, .unset, .unset, .unset, .unset, .unset, .unset] [])) _
    refine XS.iloadN X0.here hx rfl (hb hby at_29) rfl ?_
    show Steps p.tables e below (s₁.setTop (mkF m 30 #[.val (.int p1), .val (.int p2), .val (.int p3), .val (.int p4), .val (.int p5), .val (.int v12_s0), .val (.int v27_s0), .unset, .unset, .unset, .unset, .unset, .unset, .unset, .unset] [(.int p3)])) _
    refine XS.iload X0.here hx rfl (hb hby at_30) rfl ?_
    show Steps p.tables e below (s₁.setTop (mkF m 32 #[.val (.int p1), .val (.int p2), .val (.int p3), .val (.int p4), .val (.int p5), .val (.int v12_s0), .val (.int v27_s0), .unset, .unset, .unset, .unset, .unset, .unset, .unset, .unset] [(.int p5), (.int p3)])) _
    refine XS.iconst X0.here hx rfl (hb hby at_32) ?_
    show Steps p.tables e below (s₁.setTop (mkF m 33 #[.val (.int p1), .val (.int p2), .val (.int p3), .val (.int p4), .val (.int p5), .val (.int v12_s0), .val (.int v27_s0), .unset, .unset, .unset, .unset, .unset, .unset, .unset, .unset] [(.int (2 : Int32)), (.int p5), (.int p3)])) _
    refine XS.iand X0.here hx rfl (hb hby at_33) rfl ?_
    show Steps p.tables e below (s₁.setTop (mkF m 34 #[.val (.int p1), .val (.int p2), .val (.int p3), .val (.int p4), .val (.int p5), .val (.int v12_s0), .val (.int v27_s0), .unset, .unset, .unset, .unset, .unset, .unset, .unset, .unset] [(.int (p5 &&& (2 : Int32))), (.int p3)])) _
    refine XS.ifYes X0.here hx rfl (pc0 := 34) (pc' := 41) rfl (hb hby at_34) rfl ((if0 _ _).trans (teq hc34).1) (by decide) (by decide) ?_
    show Steps p.tables e below (s₁.setTop (mkF m 41 #[.val (.int p1), .val (.int p2), .val (.int p3), .val (.int p4), .val (.int p5), .val (.int v12_s0), .val (.int v27_s0), .unset, .unset, .unset, .unset, .unset, .unset, .unset, .unset] [(.int p3)])) _
    refine XS.iconst X0.here hx rfl (hb hby at_41) ?_
    show Steps p.tables e below (s₁.setTop (mkF m 42 #[.val (.int p1), .val (.int p2), .val (.int p3), .val (.int p4), .val (.int p5), .val (.int v12_s0), .val (.int v27_s0), .unset, .unset, .unset, .unset, .unset, .unset, .unset, .unset] [(.int (0 : Int32)), (.int p3)])) _
    refine st6 _ ?_
    show Steps p.tables e below (T6.setTop (mkF m 45 #[.val (.int p1), .val (.int p2), .val (.int p3), .val (.int p4), .val (.int p5), .val (.int v12_s0), .val (.int v27_s0), .unset, .unset, .unset, .unset, .unset, .unset, .unset, .unset] [(.ref b6)])) _
    refine XS.astore X6.here hx rfl (hb hby at_45) rfl rfl (l' := #[.val (.int p1), .val (.int p2), .val (.int p3), .val (.int p4), .val (.int p5), .val (.int v12_s0), .val (.int v27_s0), .val (.ref b6), .unset, .unset, .unset, .unset, .unset, .unset, .unset]) rfl ?_
    show Steps p.tables e below (T6.setTop (mkF m 47 #[.val (.int p1), .val (.int p2), .val (.int p3), .val (.int p4), .val (.int p5), .val (.int v12_s0), .val (.int v27_s0), .val (.ref b6), .unset, .unset, .unset, .unset, .unset, .unset, .unset] [])) _
    refine XS.iloadN X6.here hx rfl (hb hby at_47) rfl ?_
    show Steps p.tables e below (T6.setTop (mkF m 48 #[.val (.int p1), .val (.int p2), .val (.int p3), .val (.int p4), .val (.int p5), .val (.int v12_s0), .val (.int v27_s0), .val (.ref b6), .unset, .unset, .unset, .unset, .unset, .unset, .unset] [(.int p4)])) _
    refine XS.iload X6.here hx rfl (hb hby at_48) rfl ?_
    show Steps p.tables e below (T6.setTop (mkF m 50 #[.val (.int p1), .val (.int p2), .val (.int p3), .val (.int p4), .val (.int p5), .val (.int v12_s0), .val (.int v27_s0), .val (.ref b6), .unset, .unset, .unset, .unset, .unset, .unset, .unset] [(.int p5), (.int p4)])) _
    refine XS.iconst X6.here hx rfl (hb hby at_50) ?_
    show Steps p.tables e below (T6.setTop (mkF m 51 #[.val (.int p1), .val (.int p2), .val (.int p3), .val (.int p4), .val (.int p5), .val (.int v12_s0), .val (.int v27_s0), .val (.ref b6), .unset, .unset, .unset, .unset, .unset, .unset, .unset] [(.int (4 : Int32)), (.int p5), (.int p4)])) _
    refine XS.iand X6.here hx rfl (hb hby at_51) rfl ?_
    show Steps p.tables e below (T6.setTop (mkF m 52 #[.val (.int p1), .val (.int p2), .val (.int p3), .val (.int p4), .val (.int p5), .val (.int v12_s0), .val (.int v27_s0), .val (.ref b6), .unset, .unset, .unset, .unset, .unset, .unset, .unset] [(.int (p5 &&& (4 : Int32))), (.int p4)])) _
    refine XS.ifNo X6.here hx rfl (hb hby at_52) rfl ((if0 _ _).trans (feq hc52).1) ?_
    show Steps p.tables e below (T6.setTop (mkF m 55 #[.val (.int p1), .val (.int p2), .val (.int p3), .val (.int p4), .val (.int p5), .val (.int v12_s0), .val (.int v27_s0), .val (.ref b6), .unset, .unset, .unset, .unset, .unset, .unset, .unset] [(.int p4)])) _
    refine XS.iconst X6.here hx rfl (hb hby at_55) ?_
    show Steps p.tables e below (T6.setTop (mkF m 56 #[.val (.int p1), .val (.int p2), .val (.int p3), .val (.int p4), .val (.int p5), .val (.int v12_s0), .val (.int v27_s0), .val (.ref b6), .unset, .unset, .unset, .unset, .unset, .unset, .unset] [(.int (1 : Int32)), (.int p4)])) _
    refine XS.goto X6.here hx rfl (pc0 := 56) (pc' := 60) rfl (hb hby at_56) (by decide) (by decide) ?_
    show Steps p.tables e below (T6.setTop (mkF m 60 #[.val (.int p1), .val (.int p2), .val (.int p3), .val (.int p4), .val (.int p5), .val (.int v12_s0), .val (.int v27_s0), .val (.ref b6), .unset, .unset, .unset, .unset, .unset, .unset, .unset] [(.int (1 : Int32)), (.int p4)])) _
    refine st7 _ ?_
    show Steps p.tables e below (T7.setTop (mkF m 63 #[.val (.int p1), .val (.int p2), .val (.int p3), .val (.int p4), .val (.int p5), .val (.int v12_s0), .val (.int v27_s0), .val (.ref b6), .unset, .unset, .unset, .unset, .unset, .unset, .unset] [.null])) _
    refine XS.astore X7.here hx rfl (hb hby at_63) rfl rfl (l' := #[.val (.int p1), .val (.int p2), .val (.int p3), .val (.int p4), .val (.int p5), .val (.int v12_s0), .val (.int v27_s0), .val (.ref b6), .val .null, .unset, .unset, .unset, .unset, .unset, .unset]) rfl ?_
    show Steps p.tables e below (T7.setTop (mkF m 65 #[.val (.int p1), .val (.int p2), .val (.int p3), .val (.int p4), .val (.int p5), .val (.int v12_s0), .val (.int v27_s0), .val (.ref b6), .val .null, .unset, .unset, .unset, .unset, .unset, .unset] [])) _
    refine st8 _ ?_
    show Steps p.tables e below (T8.setTop (mkF m 68 #[.val (.int p1), .val (.int p2), .val (.int p3), .val (.int p4), .val (.int p5), .val (.int v12_s0), .val (.int v27_s0), .val (.ref b6), .val .null, .unset, .unset, .unset, .unset, .unset, .unset] [(.ref b8)])) _
    refine XS.dup X8.here hx rfl (hb hby at_68) rfl rfl ?_
    show Steps p.tables e below (T8.setTop (mkF m 69 #[.val (.int p1), .val (.int p2), .val (.int p3), .val (.int p4), .val (.int p5), .val (.int v12_s0), .val (.int v27_s0), .val (.ref b6), .val .null, .unset, .unset, .unset, .unset, .unset, .unset] [(.ref b8), (.ref b8)])) _
    refine st9 _ ?_
    show Steps p.tables e below (T9.setTop (mkF m 71 #[.val (.int p1), .val (.int p2), .val (.int p3), .val (.int p4), .val (.int p5), .val (.int v12_s0), .val (.int v27_s0), .val (.ref b6), .val .null, .unset, .unset, .unset, .unset, .unset, .unset] [(.ref b9), (.ref b8), (.ref b8)])) _
    refine st10.trans ?_
    show Steps p.tables e below (T10.setTop (mkF m 74 #[.val (.int p1), .val (.int p2), .val (.int p3), .val (.int p4), .val (.int p5), .val (.int v12_s0), .val (.int v27_s0), .val (.ref b6), .val .null, .unset, .unset, .unset, .unset, .unset, .unset] [(.ref b8)])) _
    refine XS.astore X10.here hx rfl (hb hby at_74) rfl rfl (l' := #[.val (.int p1), .val (.int p2), .val (.int p3), .val (.int p4), .val (.int p5), .val (.int v12_s0), .val (.int v27_s0), .val (.ref b6), .val .null, .val (.ref b8), .unset, .unset, .unset, .unset, .unset]) rfl ?_
    show Steps p.tables e below (T10.setTop (mkF m 76 #[.val (.int p1), .val (.int p2), .val (.int p3), .val (.int p4), .val (.int p5), .val (.int v12_s0), .val (.int v27_s0), .val (.ref b6), .val .null, .val (.ref b8), .unset, .unset, .unset, .unset, .unset] [])) _
    refine XS.aload X10.here hx rfl (hb hby at_76) rfl rfl ?_
    show Steps p.tables e below (T10.setTop (mkF m 78 #[.val (.int p1), .val (.int p2), .val (.int p3), .val (.int p4), .val (.int p5), .val (.int v12_s0), .val (.int v27_s0), .val (.ref b6), .val .null, .val (.ref b8), .unset, .unset, .unset, .unset, .unset] [(.ref b8)])) _
    refine st11.trans ?_
    show Steps p.tables e below (T11.setTop (mkF m 81 #[.val (.int p1), .val (.int p2), .val (.int p3), .val (.int p4), .val (.int p5), .val (.int v12_s0), .val (.int v27_s0), .val (.ref b6), .val .null, .val (.ref b8), .unset, .unset, .unset, .unset, .unset] [(.int (0 : Int32))])) _
    refine XS.ifNo X11.here hx rfl (hb hby at_81) rfl ((if0 _ _).trans (teq (rfl : (0 : Int32) = (0 : Int32))).2) ?_
    show Steps p.tables e below (T11.setTop (mkF m 84 #[.val (.int p1), .val (.int p2), .val (.int p3), .val (.int p4), .val (.int p5), .val (.int v12_s0), .val (.int v27_s0), .val (.ref b6), .val .null, .val (.ref b8), .unset, .unset, .unset, .unset, .unset] [])) _
    refine XS.aload X11.here hx rfl (hb hby at_84) rfl rfl ?_
    show Steps p.tables e below (T11.setTop (mkF m 86 #[.val (.int p1), .val (.int p2), .val (.int p3), .val (.int p4), .val (.int p5), .val (.int v12_s0), .val (.int v27_s0), .val (.ref b6), .val .null, .val (.ref b8), .unset, .unset, .unset, .unset, .unset] [(.ref b8)])) _
    refine st12.trans ?_
    show Steps p.tables e below (T12.setTop (mkF m 89 #[.val (.int p1), .val (.int p2), .val (.int p3), .val (.int p4), .val (.int p5), .val (.int v12_s0), .val (.int v27_s0), .val (.ref b6), .val .null, .val (.ref b8), .unset, .unset, .unset, .unset, .unset] [.null])) _
    refine XS.ifnonnullNo X12.here hx rfl (hb hby at_89) rfl ?_
    show Steps p.tables e below (T12.setTop (mkF m 92 #[.val (.int p1), .val (.int p2), .val (.int p3), .val (.int p4), .val (.int p5), .val (.int v12_s0), .val (.int v27_s0), .val (.ref b6), .val .null, .val (.ref b8), .unset, .unset, .unset, .unset, .unset] [])) _
    refine XS.iconst X12.here hx rfl (hb hby at_92) ?_
    show Steps p.tables e below (T12.setTop (mkF m 93 #[.val (.int p1), .val (.int p2), .val (.int p3), .val (.int p4), .val (.int p5), .val (.int v12_s0), .val (.int v27_s0), .val (.ref b6), .val .null, .val (.ref b8), .unset, .unset, .unset, .unset, .unset] [(.int (1 : Int32))])) _
    refine XS.goto X12.here hx rfl (pc0 := 93) (pc' := 97) rfl (hb hby at_93) (by decide) (by decide) ?_
    show Steps p.tables e below (T12.setTop (mkF m 97 #[.val (.int p1), .val (.int p2), .val (.int p3), .val (.int p4), .val (.int p5), .val (.int v12_s0), .val (.int v27_s0), .val (.ref b6), .val .null, .val (.ref b8), .unset, .unset, .unset, .unset, .unset] [(.int (1 : Int32))])) _
    refine XS.istore X12.here hx rfl (hb hby at_97) rfl (l' := #[.val (.int p1), .val (.int p2), .val (.int p3), .val (.int p4), .val (.int p5), .val (.int v12_s0), .val (.int v27_s0), .val (.ref b6), .val .null, .val (.ref b8), .val (.int (1 : Int32)), .unset, .unset, .unset, .unset]) rfl ?_
    show Steps p.tables e below (T12.setTop (mkF m 99 #[.val (.int p1), .val (.int p2), .val (.int p3), .val (.int p4), .val (.int p5), .val (.int v12_s0), .val (.int v27_s0), .val (.ref b6), .val .null, .val (.ref b8), .val (.int (1 : Int32)), .unset, .unset, .unset, .unset] [])) _
    refine XS.aload X12.here hx rfl (hb hby at_99) rfl rfl ?_
    show Steps p.tables e below (T12.setTop (mkF m 101 #[.val (.int p1), .val (.int p2), .val (.int p3), .val (.int p4), .val (.int p5), .val (.int v12_s0), .val (.int v27_s0), .val (.ref b6), .val .null, .val (.ref b8), .val (.int (1 : Int32)), .unset, .unset, .unset, .unset] [(.ref b8)])) _
    refine XS.aload X12.here hx rfl (hb hby at_101) rfl rfl ?_
    show Steps p.tables e below (T12.setTop (mkF m 103 #[.val (.int p1), .val (.int p2), .val (.int p3), .val (.int p4), .val (.int p5), .val (.int v12_s0), .val (.int v27_s0), .val (.ref b6), .val .null, .val (.ref b8), .val (.int (1 : Int32)), .unset, .unset, .unset, .unset] [(.ref b6), (.ref b8)])) _
    refine XS.iload X12.here hx rfl (hb hby at_103) rfl ?_
    show Steps p.tables e below (T12.setTop (mkF m 105 #[.val (.int p1), .val (.int p2), .val (.int p3), .val (.int p4), .val (.int p5), .val (.int v12_s0), .val (.int v27_s0), .val (.ref b6), .val .null, .val (.ref b8), .val (.int (1 : Int32)), .unset, .unset, .unset, .unset] [(.int v12_s0), (.ref b6), (.ref b8)])) _
    refine st13.trans ?_
    show Steps p.tables e below (T13.setTop (mkF m 108 #[.val (.int p1), .val (.int p2), .val (.int p3), .val (.int p4), .val (.int p5), .val (.int v12_s0), .val (.int v27_s0), .val (.ref b6), .val .null, .val (.ref b8), .val (.int (1 : Int32)), .unset, .unset, .unset, .unset] [(.ref b8)])) _
    refine XS.astore X13.here hx rfl (hb hby at_108) rfl rfl (l' := #[.val (.int p1), .val (.int p2), .val (.int p3), .val (.int p4), .val (.int p5), .val (.int v12_s0), .val (.int v27_s0), .val (.ref b6), .val .null, .val (.ref b8), .val (.int (1 : Int32)), .val (.ref b8), .unset, .unset, .unset]) rfl ?_
    show Steps p.tables e below (T13.setTop (mkF m 110 #[.val (.int p1), .val (.int p2), .val (.int p3), .val (.int p4), .val (.int p5), .val (.int v12_s0), .val (.int v27_s0), .val (.ref b6), .val .null, .val (.ref b8), .val (.int (1 : Int32)), .val (.ref b8), .unset, .unset, .unset] [])) _
    refine XS.iload X13.here hx rfl (hb hby at_110) rfl ?_
    show Steps p.tables e below (T13.setTop (mkF m 112 #[.val (.int p1), .val (.int p2), .val (.int p3), .val (.int p4), .val (.int p5), .val (.int v12_s0), .val (.int v27_s0), .val (.ref b6), .val .null, .val (.ref b8), .val (.int (1 : Int32)), .val (.ref b8), .unset, .unset, .unset] [(.int (1 : Int32))])) _
    refine XS.ifNo X13.here hx rfl (hb hby at_112) rfl ((if0 _ _).trans (feq (by decide : ¬ ((1 : Int32) = (0 : Int32)))).1) ?_
    show Steps p.tables e below (T13.setTop (mkF m 115 #[.val (.int p1), .val (.int p2), .val (.int p3), .val (.int p4), .val (.int p5), .val (.int v12_s0), .val (.int v27_s0), .val (.ref b6), .val .null, .val (.ref b8), .val (.int (1 : Int32)), .val (.ref b8), .unset, .unset, .unset] [])) _
    refine XS.aload X13.here hx rfl (hb hby at_115) rfl rfl ?_
    show Steps p.tables e below (T13.setTop (mkF m 117 #[.val (.int p1), .val (.int p2), .val (.int p3), .val (.int p4), .val (.int p5), .val (.int v12_s0), .val (.int v27_s0), .val (.ref b6), .val .null, .val (.ref b8), .val (.int (1 : Int32)), .val (.ref b8), .unset, .unset, .unset] [(.ref b8)])) _
    refine XS.aload X13.here hx rfl (hb hby at_117) rfl rfl ?_
    show Steps p.tables e below (T13.setTop (mkF m 119 #[.val (.int p1), .val (.int p2), .val (.int p3), .val (.int p4), .val (.int p5), .val (.int v12_s0), .val (.int v27_s0), .val (.ref b6), .val .null, .val (.ref b8), .val (.int (1 : Int32)), .val (.ref b8), .unset, .unset, .unset] [(.ref b8), (.ref b8)])) _
    refine Jvm.RoadKit.acmp (g := (mkF m 119 #[.val (.int p1), .val (.int p2), .val (.int p3), .val (.int p4), .val (.int p5), .val (.int v12_s0), .val (.int v27_s0), .val (.ref b6), .val .null, .val (.ref b8), .val (.int (1 : Int32)), .val (.ref b8), .unset, .unset, .unset] [(.ref b8), (.ref b8)])) X13 hx rfl rfl rfl (pc0 := 119) (pc' := 122) (same := true) rfl (hb hby at_119) rfl (decide_eq_true rfl) (by decide) (by decide) ?_
    show Steps p.tables e below (T13.setTop (mkF m 122 #[.val (.int p1), .val (.int p2), .val (.int p3), .val (.int p4), .val (.int p5), .val (.int v12_s0), .val (.int v27_s0), .val (.ref b6), .val .null, .val (.ref b8), .val (.int (1 : Int32)), .val (.ref b8), .unset, .unset, .unset] [])) _
    refine XS.aload X13.here hx rfl (hb hby at_122) rfl rfl ?_
    show Steps p.tables e below (T13.setTop (mkF m 124 #[.val (.int p1), .val (.int p2), .val (.int p3), .val (.int p4), .val (.int p5), .val (.int v12_s0), .val (.int v27_s0), .val (.ref b6), .val .null, .val (.ref b8), .val (.int (1 : Int32)), .val (.ref b8), .unset, .unset, .unset] [(.ref b8)])) _
    refine st14.trans ?_
    show Steps p.tables e below (T14.setTop (mkF m 127 #[.val (.int p1), .val (.int p2), .val (.int p3), .val (.int p4), .val (.int p5), .val (.int v12_s0), .val (.int v27_s0), .val (.ref b6), .val .null, .val (.ref b8), .val (.int (1 : Int32)), .val (.ref b8), .unset, .unset, .unset] [(.int v12_s0)])) _
    refine XS.iload X14.here hx rfl (hb hby at_127) rfl ?_
    show Steps p.tables e below (T14.setTop (mkF m 129 #[.val (.int p1), .val (.int p2), .val (.int p3), .val (.int p4), .val (.int p5), .val (.int v12_s0), .val (.int v27_s0), .val (.ref b6), .val .null, .val (.ref b8), .val (.int (1 : Int32)), .val (.ref b8), .unset, .unset, .unset] [(.int v12_s0), (.int v12_s0)])) _
    refine XS.icmpNo X14.here hx rfl (hb hby at_129) rfl (teq (rfl : v12_s0 = v12_s0)).2 ?_
    show Steps p.tables e below (T14.setTop (mkF m 132 #[.val (.int p1), .val (.int p2), .val (.int p3), .val (.int p4), .val (.int p5), .val (.int v12_s0), .val (.int v27_s0), .val (.ref b6), .val .null, .val (.ref b8), .val (.int (1 : Int32)), .val (.ref b8), .unset, .unset, .unset] [])) _
    refine XS.aload X14.here hx rfl (hb hby at_132) rfl rfl ?_
    show Steps p.tables e below (T14.setTop (mkF m 134 #[.val (.int p1), .val (.int p2), .val (.int p3), .val (.int p4), .val (.int p5), .val (.int v12_s0), .val (.int v27_s0), .val (.ref b6), .val .null, .val (.ref b8), .val (.int (1 : Int32)), .val (.ref b8), .unset, .unset, .unset] [(.ref b8)])) _
    refine st15.trans ?_
    show Steps p.tables e below (T15.setTop (mkF m 137 #[.val (.int p1), .val (.int p2), .val (.int p3), .val (.int p4), .val (.int p5), .val (.int v12_s0), .val (.int v27_s0), .val (.ref b6), .val .null, .val (.ref b8), .val (.int (1 : Int32)), .val (.ref b8), .unset, .unset, .unset] [(.ref b6)])) _
    refine XS.aload X15.here hx rfl (hb hby at_137) rfl rfl ?_
    show Steps p.tables e below (T15.setTop (mkF m 139 #[.val (.int p1), .val (.int p2), .val (.int p3), .val (.int p4), .val (.int p5), .val (.int v12_s0), .val (.int v27_s0), .val (.ref b6), .val .null, .val (.ref b8), .val (.int (1 : Int32)), .val (.ref b8), .unset, .unset, .unset] [(.ref b6), (.ref b6)])) _
    refine Jvm.RoadKit.acmp (g := (mkF m 139 #[.val (.int p1), .val (.int p2), .val (.int p3), .val (.int p4), .val (.int p5), .val (.int v12_s0), .val (.int v27_s0), .val (.ref b6), .val .null, .val (.ref b8), .val (.int (1 : Int32)), .val (.ref b8), .unset, .unset, .unset] [(.ref b6), (.ref b6)])) X15 hx rfl rfl rfl (pc0 := 139) (pc' := 142) (same := true) rfl (hb hby at_139) rfl (decide_eq_true rfl) (by decide) (by decide) ?_
    show Steps p.tables e below (T15.setTop (mkF m 142 #[.val (.int p1), .val (.int p2), .val (.int p3), .val (.int p4), .val (.int p5), .val (.int v12_s0), .val (.int v27_s0), .val (.ref b6), .val .null, .val (.ref b8), .val (.int (1 : Int32)), .val (.ref b8), .unset, .unset, .unset] [])) _
    refine XS.iconst X15.here hx rfl (hb hby at_142) ?_
    show Steps p.tables e below (T15.setTop (mkF m 143 #[.val (.int p1), .val (.int p2), .val (.int p3), .val (.int p4), .val (.int p5), .val (.int v12_s0), .val (.int v27_s0), .val (.ref b6), .val .null, .val (.ref b8), .val (.int (1 : Int32)), .val (.ref b8), .unset, .unset, .unset] [(.int (1 : Int32))])) _
    refine XS.goto X15.here hx rfl (pc0 := 143) (pc' := 147) rfl (hb hby at_143) (by decide) (by decide) ?_
    show Steps p.tables e below (T15.setTop (mkF m 147 #[.val (.int p1), .val (.int p2), .val (.int p3), .val (.int p4), .val (.int p5), .val (.int v12_s0), .val (.int v27_s0), .val (.ref b6), .val .null, .val (.ref b8), .val (.int (1 : Int32)), .val (.ref b8), .unset, .unset, .unset] [(.int (1 : Int32))])) _
    refine XS.istore X15.here hx rfl (hb hby at_147) rfl (l' := #[.val (.int p1), .val (.int p2), .val (.int p3), .val (.int p4), .val (.int p5), .val (.int v12_s0), .val (.int v27_s0), .val (.ref b6), .val .null, .val (.ref b8), .val (.int (1 : Int32)), .val (.ref b8), .unset, .unset, .unset]) rfl ?_
    show Steps p.tables e below (T15.setTop (mkF m 149 #[.val (.int p1), .val (.int p2), .val (.int p3), .val (.int p4), .val (.int p5), .val (.int v12_s0), .val (.int v27_s0), .val (.ref b6), .val .null, .val (.ref b8), .val (.int (1 : Int32)), .val (.ref b8), .unset, .unset, .unset] [])) _
    refine XS.aload X15.here hx rfl (hb hby at_149) rfl rfl ?_
    show Steps p.tables e below (T15.setTop (mkF m 151 #[.val (.int p1), .val (.int p2), .val (.int p3), .val (.int p4), .val (.int p5), .val (.int v12_s0), .val (.int v27_s0), .val (.ref b6), .val .null, .val (.ref b8), .val (.int (1 : Int32)), .val (.ref b8), .unset, .unset, .unset] [(.ref b8)])) _
    refine XS.aload X15.here hx rfl (hb hby at_151) rfl rfl ?_
    show Steps p.tables e below (T15.setTop (mkF m 153 #[.val (.int p1), .val (.int p2), .val (.int p3), .val (.int p4), .val (.int p5), .val (.int v12_s0), .val (.int v27_s0), .val (.ref b6), .val .null, .val (.ref b8), .val (.int (1 : Int32)), .val (.ref b8), .unset, .unset, .unset] [.null, (.ref b8)])) _
    refine XS.iload X15.here hx rfl (hb hby at_153) rfl ?_
    show Steps p.tables e below (T15.setTop (mkF m 155 #[.val (.int p1), .val (.int p2), .val (.int p3), .val (.int p4), .val (.int p5), .val (.int v12_s0), .val (.int v27_s0), .val (.ref b6), .val .null, .val (.ref b8), .val (.int (1 : Int32)), .val (.ref b8), .unset, .unset, .unset] [(.int v27_s0), .null, (.ref b8)])) _
    refine st16.trans ?_
    show Steps p.tables e below (T16.setTop (mkF m 158 #[.val (.int p1), .val (.int p2), .val (.int p3), .val (.int p4), .val (.int p5), .val (.int v12_s0), .val (.int v27_s0), .val (.ref b6), .val .null, .val (.ref b8), .val (.int (1 : Int32)), .val (.ref b8), .unset, .unset, .unset] [(.ref b8)])) _
    refine XS.astore X16.here hx rfl (hb hby at_158) rfl rfl (l' := #[.val (.int p1), .val (.int p2), .val (.int p3), .val (.int p4), .val (.int p5), .val (.int v12_s0), .val (.int v27_s0), .val (.ref b6), .val .null, .val (.ref b8), .val (.int (1 : Int32)), .val (.ref b8), .val (.ref b8), .unset, .unset]) rfl ?_
    show Steps p.tables e below (T16.setTop (mkF m 160 #[.val (.int p1), .val (.int p2), .val (.int p3), .val (.int p4), .val (.int p5), .val (.int v12_s0), .val (.int v27_s0), .val (.ref b6), .val .null, .val (.ref b8), .val (.int (1 : Int32)), .val (.ref b8), .val (.ref b8), .unset, .unset] [])) _
    refine XS.iload X16.here hx rfl (hb hby at_160) rfl ?_
    show Steps p.tables e below (T16.setTop (mkF m 162 #[.val (.int p1), .val (.int p2), .val (.int p3), .val (.int p4), .val (.int p5), .val (.int v12_s0), .val (.int v27_s0), .val (.ref b6), .val .null, .val (.ref b8), .val (.int (1 : Int32)), .val (.ref b8), .val (.ref b8), .unset, .unset] [(.int v12_s0)])) _
    refine XS.ifNo X16.here hx rfl (hb hby at_162) rfl ((if0 _ _).trans (teq hc162).2) ?_
    show Steps p.tables e below (T16.setTop (mkF m 165 #[.val (.int p1), .val (.int p2), .val (.int p3), .val (.int p4), .val (.int p5), .val (.int v12_s0), .val (.int v27_s0), .val (.ref b6), .val .null, .val (.ref b8), .val (.int (1 : Int32)), .val (.ref b8), .val (.ref b8), .unset, .unset] [])) _
    refine XS.iload X16.here hx rfl (hb hby at_165) rfl ?_
    show Steps p.tables e below (T16.setTop (mkF m 167 #[.val (.int p1), .val (.int p2), .val (.int p3), .val (.int p4), .val (.int p5), .val (.int v12_s0), .val (.int v27_s0), .val (.ref b6), .val .null, .val (.ref b8), .val (.int (1 : Int32)), .val (.ref b8), .val (.ref b8), .unset, .unset] [(.int v27_s0)])) _
    refine XS.goto X16.here hx rfl (pc0 := 167) (pc' := 172) rfl (hb hby at_167) (by decide) (by decide) ?_
    show Steps p.tables e below (T16.setTop (mkF m 172 #[.val (.int p1), .val (.int p2), .val (.int p3), .val (.int p4), .val (.int p5), .val (.int v12_s0), .val (.int v27_s0), .val (.ref b6), .val .null, .val (.ref b8), .val (.int (1 : Int32)), .val (.ref b8), .val (.ref b8), .unset, .unset] [(.int v27_s0)])) _
    refine XS.istore X16.here hx rfl (hb hby at_172) rfl (l' := #[.val (.int p1), .val (.int p2), .val (.int p3), .val (.int p4), .val (.int p5), .val (.int v12_s0), .val (.int v27_s0), .val (.ref b6), .val .null, .val (.ref b8), .val (.int (1 : Int32)), .val (.ref b8), .val (.ref b8), .val (.int v27_s0), .unset]) rfl ?_
    show Steps p.tables e below (T16.setTop (mkF m 174 #[.val (.int p1), .val (.int p2), .val (.int p3), .val (.int p4), .val (.int p5), .val (.int v12_s0), .val (.int v27_s0), .val (.ref b6), .val .null, .val (.ref b8), .val (.int (1 : Int32)), .val (.ref b8), .val (.ref b8), .val (.int v27_s0), .unset] [])) _
    refine XS.iload X16.here hx rfl (hb hby at_174) rfl ?_
    show Steps p.tables e below (T16.setTop (mkF m 176 #[.val (.int p1), .val (.int p2), .val (.int p3), .val (.int p4), .val (.int p5), .val (.int v12_s0), .val (.int v27_s0), .val (.ref b6), .val .null, .val (.ref b8), .val (.int (1 : Int32)), .val (.ref b8), .val (.ref b8), .val (.int v27_s0), .unset] [(.int v12_s0)])) _
    refine XS.ifNo X16.here hx rfl (hb hby at_176) rfl ((if0 _ _).trans (teq hc176).2) ?_
    show Steps p.tables e below (T16.setTop (mkF m 179 #[.val (.int p1), .val (.int p2), .val (.int p3), .val (.int p4), .val (.int p5), .val (.int v12_s0), .val (.int v27_s0), .val (.ref b6), .val .null, .val (.ref b8), .val (.int (1 : Int32)), .val (.ref b8), .val (.ref b8), .val (.int v27_s0), .unset] [])) _
    refine XS.aload X16.here hx rfl (hb hby at_179) rfl rfl ?_
    show Steps p.tables e below (T16.setTop (mkF m 181 #[.val (.int p1), .val (.int p2), .val (.int p3), .val (.int p4), .val (.int p5), .val (.int v12_s0), .val (.int v27_s0), .val (.ref b6), .val .null, .val (.ref b8), .val (.int (1 : Int32)), .val (.ref b8), .val (.ref b8), .val (.int v27_s0), .unset] [.null])) _
    refine XS.goto X16.here hx rfl (pc0 := 181) (pc' := 186) rfl (hb hby at_181) (by decide) (by decide) ?_
    show Steps p.tables e below (T16.setTop (mkF m 186 #[.val (.int p1), .val (.int p2), .val (.int p3), .val (.int p4), .val (.int p5), .val (.int v12_s0), .val (.int v27_s0), .val (.ref b6), .val .null, .val (.ref b8), .val (.int (1 : Int32)), .val (.ref b8), .val (.ref b8), .val (.int v27_s0), .unset] [.null])) _
    refine XS.astore X16.here hx rfl (hb hby at_186) rfl rfl (l' := #[.val (.int p1), .val (.int p2), .val (.int p3), .val (.int p4), .val (.int p5), .val (.int v12_s0), .val (.int v27_s0), .val (.ref b6), .val .null, .val (.ref b8), .val (.int (1 : Int32)), .val (.ref b8), .val (.ref b8), .val (.int v27_s0), .val .null]) rfl ?_
    show Steps p.tables e below (T16.setTop (mkF m 188 #[.val (.int p1), .val (.int p2), .val (.int p3), .val (.int p4), .val (.int p5), .val (.int v12_s0), .val (.int v27_s0), .val (.ref b6), .val .null, .val (.ref b8), .val (.int (1 : Int32)), .val (.ref b8), .val (.ref b8), .val (.int v27_s0), .val .null] [])) _
    refine XS.iload X16.here hx rfl (hb hby at_188) rfl ?_
    show Steps p.tables e below (T16.setTop (mkF m 190 #[.val (.int p1), .val (.int p2), .val (.int p3), .val (.int p4), .val (.int p5), .val (.int v12_s0), .val (.int v27_s0), .val (.ref b6), .val .null, .val (.ref b8), .val (.int (1 : Int32)), .val (.ref b8), .val (.ref b8), .val (.int v27_s0), .val .null] [(.int (1 : Int32))])) _
    refine XS.ifNo X16.here hx rfl (hb hby at_190) rfl ((if0 _ _).trans (feq (by decide : ¬ ((1 : Int32) = (0 : Int32)))).1) ?_
    show Steps p.tables e below (T16.setTop (mkF m 193 #[.val (.int p1), .val (.int p2), .val (.int p3), .val (.int p4), .val (.int p5), .val (.int v12_s0), .val (.int v27_s0), .val (.ref b6), .val .null, .val (.ref b8), .val (.int (1 : Int32)), .val (.ref b8), .val (.ref b8), .val (.int v27_s0), .val .null] [])) _
    refine XS.aload X16.here hx rfl (hb hby at_193) rfl rfl ?_
    show Steps p.tables e below (T16.setTop (mkF m 195 #[.val (.int p1), .val (.int p2), .val (.int p3), .val (.int p4), .val (.int p5), .val (.int v12_s0), .val (.int v27_s0), .val (.ref b6), .val .null, .val (.ref b8), .val (.int (1 : Int32)), .val (.ref b8), .val (.ref b8), .val (.int v27_s0), .val .null] [(.ref b8)])) _
    refine XS.aload X16.here hx rfl (hb hby at_195) rfl rfl ?_
    show Steps p.tables e below (T16.setTop (mkF m 197 #[.val (.int p1), .val (.int p2), .val (.int p3), .val (.int p4), .val (.int p5), .val (.int v12_s0), .val (.int v27_s0), .val (.ref b6), .val .null, .val (.ref b8), .val (.int (1 : Int32)), .val (.ref b8), .val (.ref b8), .val (.int v27_s0), .val .null] [(.ref b8), (.ref b8)])) _
    refine Jvm.RoadKit.acmp (g := (mkF m 197 #[.val (.int p1), .val (.int p2), .val (.int p3), .val (.int p4), .val (.int p5), .val (.int v12_s0), .val (.int v27_s0), .val (.ref b6), .val .null, .val (.ref b8), .val (.int (1 : Int32)), .val (.ref b8), .val (.ref b8), .val (.int v27_s0), .val .null] [(.ref b8), (.ref b8)])) X16 hx rfl rfl rfl (pc0 := 197) (pc' := 200) (same := true) rfl (hb hby at_197) rfl (decide_eq_true rfl) (by decide) (by decide) ?_
    show Steps p.tables e below (T16.setTop (mkF m 200 #[.val (.int p1), .val (.int p2), .val (.int p3), .val (.int p4), .val (.int p5), .val (.int v12_s0), .val (.int v27_s0), .val (.ref b6), .val .null, .val (.ref b8), .val (.int (1 : Int32)), .val (.ref b8), .val (.ref b8), .val (.int v27_s0), .val .null] [])) _
    refine XS.aload X16.here hx rfl (hb hby at_200) rfl rfl ?_
    show Steps p.tables e below (T16.setTop (mkF m 202 #[.val (.int p1), .val (.int p2), .val (.int p3), .val (.int p4), .val (.int p5), .val (.int v12_s0), .val (.int v27_s0), .val (.ref b6), .val .null, .val (.ref b8), .val (.int (1 : Int32)), .val (.ref b8), .val (.ref b8), .val (.int v27_s0), .val .null] [(.ref b8)])) _
    refine st17.trans ?_
    show Steps p.tables e below (T17.setTop (mkF m 205 #[.val (.int p1), .val (.int p2), .val (.int p3), .val (.int p4), .val (.int p5), .val (.int v12_s0), .val (.int v27_s0), .val (.ref b6), .val .null, .val (.ref b8), .val (.int (1 : Int32)), .val (.ref b8), .val (.ref b8), .val (.int v27_s0), .val .null] [(.int v27_s0)])) _
    refine XS.iload X17.here hx rfl (hb hby at_205) rfl ?_
    show Steps p.tables e below (T17.setTop (mkF m 207 #[.val (.int p1), .val (.int p2), .val (.int p3), .val (.int p4), .val (.int p5), .val (.int v12_s0), .val (.int v27_s0), .val (.ref b6), .val .null, .val (.ref b8), .val (.int (1 : Int32)), .val (.ref b8), .val (.ref b8), .val (.int v27_s0), .val .null] [(.int v27_s0), (.int v27_s0)])) _
    refine XS.icmpNo X17.here hx rfl (hb hby at_207) rfl (teq (rfl : v27_s0 = v27_s0)).2 ?_
    show Steps p.tables e below (T17.setTop (mkF m 210 #[.val (.int p1), .val (.int p2), .val (.int p3), .val (.int p4), .val (.int p5), .val (.int v12_s0), .val (.int v27_s0), .val (.ref b6), .val .null, .val (.ref b8), .val (.int (1 : Int32)), .val (.ref b8), .val (.ref b8), .val (.int v27_s0), .val .null] [])) _
    refine XS.aload X17.here hx rfl (hb hby at_210) rfl rfl ?_
    show Steps p.tables e below (T17.setTop (mkF m 212 #[.val (.int p1), .val (.int p2), .val (.int p3), .val (.int p4), .val (.int p5), .val (.int v12_s0), .val (.int v27_s0), .val (.ref b6), .val .null, .val (.ref b8), .val (.int (1 : Int32)), .val (.ref b8), .val (.ref b8), .val (.int v27_s0), .val .null] [(.ref b8)])) _
    refine st18.trans ?_
    show Steps p.tables e below (T18.setTop (mkF m 215 #[.val (.int p1), .val (.int p2), .val (.int p3), .val (.int p4), .val (.int p5), .val (.int v12_s0), .val (.int v27_s0), .val (.ref b6), .val .null, .val (.ref b8), .val (.int (1 : Int32)), .val (.ref b8), .val (.ref b8), .val (.int v27_s0), .val .null] [.null])) _
    refine XS.aload X18.here hx rfl (hb hby at_215) rfl rfl ?_
    show Steps p.tables e below (T18.setTop (mkF m 217 #[.val (.int p1), .val (.int p2), .val (.int p3), .val (.int p4), .val (.int p5), .val (.int v12_s0), .val (.int v27_s0), .val (.ref b6), .val .null, .val (.ref b8), .val (.int (1 : Int32)), .val (.ref b8), .val (.ref b8), .val (.int v27_s0), .val .null] [.null, .null])) _
    refine Jvm.RoadKit.acmp (g := (mkF m 217 #[.val (.int p1), .val (.int p2), .val (.int p3), .val (.int p4), .val (.int p5), .val (.int v12_s0), .val (.int v27_s0), .val (.ref b6), .val .null, .val (.ref b8), .val (.int (1 : Int32)), .val (.ref b8), .val (.ref b8), .val (.int v27_s0), .val .null] [.null, .null])) X18 hx rfl rfl rfl (pc0 := 217) (pc' := 220) (same := true) rfl (hb hby at_217) rfl (decide_eq_true rfl) (by decide) (by decide) ?_
    show Steps p.tables e below (T18.setTop (mkF m 220 #[.val (.int p1), .val (.int p2), .val (.int p3), .val (.int p4), .val (.int p5), .val (.int v12_s0), .val (.int v27_s0), .val (.ref b6), .val .null, .val (.ref b8), .val (.int (1 : Int32)), .val (.ref b8), .val (.ref b8), .val (.int v27_s0), .val .null] [])) _
    refine XS.iconst X18.here hx rfl (hb hby at_220) ?_
    show Steps p.tables e below (T18.setTop (mkF m 221 #[.val (.int p1), .val (.int p2), .val (.int p3), .val (.int p4), .val (.int p5), .val (.int v12_s0), .val (.int v27_s0), .val (.ref b6), .val .null, .val (.ref b8), .val (.int (1 : Int32)), .val (.ref b8), .val (.ref b8), .val (.int v27_s0), .val .null] [(.int (1 : Int32))])) _
    refine XS.goto X18.here hx rfl (pc0 := 221) (pc' := 225) rfl (hb hby at_221) (by decide) (by decide) ?_
    show Steps p.tables e below (T18.setTop (mkF m 225 #[.val (.int p1), .val (.int p2), .val (.int p3), .val (.int p4), .val (.int p5), .val (.int v12_s0), .val (.int v27_s0), .val (.ref b6), .val .null, .val (.ref b8), .val (.int (1 : Int32)), .val (.ref b8), .val (.ref b8), .val (.int v27_s0), .val .null] [(.int (1 : Int32))])) _
    refine XS.istore X18.here hx rfl (hb hby at_225) rfl (l' := #[.val (.int p1), .val (.int p2), .val (.int p3), .val (.int p4), .val (.int p5), .val (.int v12_s0), .val (.int v27_s0), .val (.ref b6), .val .null, .val (.ref b8), .val (.int (1 : Int32)), .val (.ref b8), .val (.ref b8), .val (.int v27_s0), .val .null]) rfl ?_
    show Steps p.tables e below (T18.setTop (mkF m 227 #[.val (.int p1), .val (.int p2), .val (.int p3), .val (.int p4), .val (.int p5), .val (.int v12_s0), .val (.int v27_s0), .val (.ref b6), .val .null, .val (.ref b8), .val (.int (1 : Int32)), .val (.ref b8), .val (.ref b8), .val (.int v27_s0), .val .null] [])) _
    refine XS.iload X18.here hx rfl (hb hby at_227) rfl ?_
    show Steps p.tables e below (T18.setTop (mkF m 229 #[.val (.int p1), .val (.int p2), .val (.int p3), .val (.int p4), .val (.int p5), .val (.int v12_s0), .val (.int v27_s0), .val (.ref b6), .val .null, .val (.ref b8), .val (.int (1 : Int32)), .val (.ref b8), .val (.ref b8), .val (.int v27_s0), .val .null] [(.int (1 : Int32))])) _
    exact retN X18 hx (t := .boolean) Bd.returns (by simp) (hb hby at_229) hr
  · show Q0rnz Z p1 p2 p3 p4 p5 v12_s0 v27_s0 h0 n0 _ T18.heap _
    rw [e18]
    exact ⟨rfl, N18⟩
def Q0rnt (Z : State) (p1 : Int32) (p2 : Int32) (p3 : Int32) (p4 : Int32) (p5 : Int32) (v12_s0 : Int32) (v27_s0 : Int32) (h0 : Heap) (n0 : Nat) (v : Option Value) (h : Heap) (L : List Loc) : Prop := v = some (.int (1 : Int32)) ∧ Fr n0 L
set_option maxRecDepth 65536 in
set_option maxHeartbeats 40000000 in
theorem rm0rnt (l : Launch) (Z : State) (a0 : Array Value) (hw : ∀ d ∈ tables_1, d.before a0 Z = true) (ws : List Jvm.Cond) (p1 : Int32) (p2 : Int32) (p3 : Int32) (p4 : Int32) (p5 : Int32) (v12_s0 : Int32) (v27_s0 : Int32) (zc : Int32) (h0 : Heap) (n0 : Nat) (Z0 : n0 ≤ h0.size) (hv12_s0 : v12_s0 = (if (p5 &&& (1 : Int32)) = (0 : Int32) then p1 else (0 : Int32))) (hv27_s0 : v27_s0 = (if (p5 &&& (8 : Int32)) = (0 : Int32) then p2 else (0 : Int32))) (O0 : Old Z n0 h0) (hc34 : (p5 &&& (2 : Int32)) = (0 : Int32)) (hc52 : ¬ ((p5 &&& (4 : Int32)) = (0 : Int32))) (hc162 : ¬ (v12_s0 = (0 : Int32))) (hc176 : ¬ (v12_s0 = (0 : Int32))) (hlT : l.stackTraces = true) (S0 : own_St Z Z.heap) (S_cs : Sta Z Z.heap "java/lang/String" "COMPACT_STRINGS" "Z" (.int zc)) (hcs : ¬ (zc = (0 : Int32))) (wS : ∀ a ∈ Bundle.stringAtoms, a.before a0 Z = true) (hz0 : h0 = Z.heap) :
    MetFree l x (head1 (Jvm.Cond.code x code maxLocals ret :: ws) room_1) (fun a U => a = #[(.int p1), (.int p2), (.int p3), (.int p4), (.int p5)] ∧ U.vm = Z.vm ∧ U.heap = h0) (fun _ _ B U _ => U.vm.MethodsKnown ∧ U.vm.FramesKnown B) (fun _ U o U' => ∃ v L, o = .returned v ∧ Q0rnt Z p1 p2 p3 p4 p5 v12_s0 v27_s0 h0 n0 v U'.heap L ∧ ReturnedEndW U o U' L room_1.cells room_1.slots) := by
  refine MetFree.of_bodySF (plainFor_of_name pn_0) hisR ?_
  intro p e s m args below meth c s₁ Bd hml0 hP hK
  obtain ⟨rfl, hU, hh⟩ := hP
  obtain ⟨hTK, hBK⟩ := hK
  rw [hU] at hTK hBK
  have hZ : Z.Warmed39 (s.setVm s.vm).vm := by
    show Z.Warmed39 s.vm
    rw [hU]; exact State.Warmed39.refl Z
  have hx := Bd.exec
  have hby := Bd.bytes
  have hml : c.maxLocals = 15 := hml0
  have hown : (s.setVm s.vm).vm.findClass "nephrite/EvaluationExceptionOnPinLaw" = some m.cls := findClass_of_methodNamed Bd.named
  have hnm := (name_of_methodNamed Bd.named Bd.method).1
  have X0 : Stand p l e room_1 (s.setVm s.vm) m #[(.int p1), (.int p2), (.int p3), (.int p4), (.int p5)] below meth c s₁ [] 0 0 := Stand.of_body Bd
  have e0 : s₁.heap = h0 := by rw [← hh, Bd.state]; rfl
  have N0 := Fr.nil n0
  have hS : s.Since s.vm h0.size := (State.WarmedH.refl s).since _
  have hk : h0.size ≤ h0.size := Nat.le_refl _
  have pre0 : ∀ t, Steps p.tables e below (s₁.setTop (mkF m 0 #[.val (.int p1), .val (.int p2), .val (.int p3), .val (.int p4), .val (.int p5), .unset, .unset, .unset, .unset, .unset, .unset, .unset, .unset, .unset, .unset] [])) t → Steps p.tables e below (s₁.setTop (entryFrame m #[(.int p1), (.int p2), (.int p3), (.int p4), (.int p5)] maxLocals)) t := fun t k => castTop (ef_0 m p1 p2 p3 p4 p5) k
  have sg4 : ∀ t, Steps p.tables e below (s₁.setTop (mkF m 12 #[.val (.int p1), .val (.int p2), .val (.int p3), .val (.int p4), .val (.int p5), .unset, .unset, .unset, .unset, .unset, .unset, .unset, .unset, .unset, .unset] [(.int v12_s0)])) t → Steps p.tables e below (s₁.setTop (mkF m 4 #[.val (.int p1), .val (.int p2), .val (.int p3), .val (.int p4), .val (.int p5), .unset, .unset, .unset, .unset, .unset, .unset, .unset, .unset, .unset, .unset] [(.int (p5 &&& (1 : Int32)))])) t := by
    intro t kt
    show Steps p.tables e below (s₁.setTop (mkF m 4 #[.val (.int p1), .val (.int p2), .val (.int p3), .val (.int p4), .val (.int p5), .unset, .unset, .unset, .unset, .unset, .unset, .unset, .unset, .unset, .unset] [(.int (p5 &&& (1 : Int32)))])) _
    by_cases hm4 : (p5 &&& (1 : Int32)) = (0 : Int32)
    · rw [show v12_s0 = p1 by rw [hv12_s0, if_pos hm4]] at kt
      refine XS.ifYes X0.here hx rfl (pc0 := 4) (pc' := 11) rfl (hb hby at_4) rfl ((if0 _ _).trans (teq hm4).1) (by decide) (by decide) ?_
      show Steps p.tables e below (s₁.setTop (mkF m 11 #[.val (.int p1), .val (.int p2), .val (.int p3), .val (.int p4), .val (.int p5), .unset, .unset, .unset, .unset, .unset, .unset, .unset, .unset, .unset, .unset] [])) _
      refine XS.iloadN X0.here hx rfl (hb hby at_11) rfl ?_
      exact kt
    · rw [show v12_s0 = (0 : Int32) by rw [hv12_s0, if_neg hm4]] at kt
      refine XS.ifNo X0.here hx rfl (hb hby at_4) rfl ((if0 _ _).trans (feq hm4).1) ?_
      show Steps p.tables e below (s₁.setTop (mkF m 7 #[.val (.int p1), .val (.int p2), .val (.int p3), .val (.int p4), .val (.int p5), .unset, .unset, .unset, .unset, .unset, .unset, .unset, .unset, .unset, .unset] [])) _
      refine XS.iconst X0.here hx rfl (hb hby at_7) ?_
      show Steps p.tables e below (s₁.setTop (mkF m 8 #[.val (.int p1), .val (.int p2), .val (.int p3), .val (.int p4), .val (.int p5), .unset, .unset, .unset, .unset, .unset, .unset, .unset, .unset, .unset, .unset] [(.int (0 : Int32))])) _
      refine XS.goto X0.here hx rfl (pc0 := 8) (pc' := 12) rfl (hb hby at_8) (by decide) (by decide) ?_
      exact kt
  have sg19 : ∀ t, Steps p.tables e below (s₁.setTop (mkF m 27 #[.val (.int p1), .val (.int p2), .val (.int p3), .val (.int p4), .val (.int p5), .val (.int v12_s0), .unset, .unset, .unset, .unset, .unset, .unset, .unset, .unset, .unset] [(.int v27_s0)])) t → Steps p.tables e below (s₁.setTop (mkF m 19 #[.val (.int p1), .val (.int p2), .val (.int p3), .val (.int p4), .val (.int p5), .val (.int v12_s0), .unset, .unset, .unset, .unset, .unset, .unset, .unset, .unset, .unset] [(.int (p5 &&& (8 : Int32)))])) t := by
    intro t kt
    show Steps p.tables e below (s₁.setTop (mkF m 19 #[.val (.int p1), .val (.int p2), .val (.int p3), .val (.int p4), .val (.int p5), .val (.int v12_s0), .unset, .unset, .unset, .unset, .unset, .unset, .unset, .unset, .unset] [(.int (p5 &&& (8 : Int32)))])) _
    by_cases hm19 : (p5 &&& (8 : Int32)) = (0 : Int32)
    · rw [show v27_s0 = p2 by rw [hv27_s0, if_pos hm19]] at kt
      refine XS.ifYes X0.here hx rfl (pc0 := 19) (pc' := 26) rfl (hb hby at_19) rfl ((if0 _ _).trans (teq hm19).1) (by decide) (by decide) ?_
      show Steps p.tables e below (s₁.setTop (mkF m 26 #[.val (.int p1), .val (.int p2), .val (.int p3), .val (.int p4), .val (.int p5), .val (.int v12_s0), .unset, .unset, .unset, .unset, .unset, .unset, .unset, .unset, .unset] [])) _
      refine XS.iloadN X0.here hx rfl (hb hby at_26) rfl ?_
      exact kt
    · rw [show v27_s0 = (0 : Int32) by rw [hv27_s0, if_neg hm19]] at kt
      refine XS.ifNo X0.here hx rfl (hb hby at_19) rfl ((if0 _ _).trans (feq hm19).1) ?_
      show Steps p.tables e below (s₁.setTop (mkF m 22 #[.val (.int p1), .val (.int p2), .val (.int p3), .val (.int p4), .val (.int p5), .val (.int v12_s0), .unset, .unset, .unset, .unset, .unset, .unset, .unset, .unset, .unset] [])) _
      refine XS.iconst X0.here hx rfl (hb hby at_22) ?_
      show Steps p.tables e below (s₁.setTop (mkF m 23 #[.val (.int p1), .val (.int p2), .val (.int p3), .val (.int p4), .val (.int p5), .val (.int v12_s0), .unset, .unset, .unset, .unset, .unset, .unset, .unset, .unset, .unset] [(.int (0 : Int32))])) _
      refine XS.goto X0.here hx rfl (pc0 := 23) (pc' := 27) rfl (hb hby at_23) (by decide) (by decide) ?_
      exact kt
  obtain ⟨_, _, ⟨T6, L6, k6, n6⟩, -, X6, ⟨Lc6, hQ6, l6, y6, z6⟩, st6⟩ := Jvm.LawKit.callS X0 hx (y := (⟨"nephrite/EvaluationExceptionOnPinLaw", "name", "(IZ)Ljava/lang/String;"⟩ : MethodName)) hown (mvT hZ (hw _ (List.mem_of_getElem? (i := 0) rfl))) (mvT hZ (hw _ (List.mem_of_getElem? (i := 1) rfl))) (mvT hZ (hw _ (List.mem_of_getElem? (i := 2) rfl))) (mvT hZ (hw _ (List.mem_of_getElem? (i := 3) rfl))) (by decide) (backOf (W := 0) (rm1 l Z a0 hw [] p3 (0 : Int32) zc h0 n0 Z0 S_cs hcs O0 rfl) hZ (hw _ (List.mem_of_getElem? (i := 3) rfl)) (hw _ (List.mem_of_getElem? (i := 2) rfl)) (by decide) (by decide)) (g := (mkF m 42 #[.val (.int p1), .val (.int p2), .val (.int p3), .val (.int p4), .val (.int p5), .val (.int v12_s0), .val (.int v27_s0), .unset, .unset, .unset, .unset, .unset, .unset, .unset, .unset] [(.int (0 : Int32)), (.int p3)])) rfl (by rw [hml]; rfl) (argsL := [(.int p3), (.int (0 : Int32))]) (rest := []) (lenOf pd_0_0 rfl) rfl (by show 2 * 0 + _ ≤ _; exact Nat.le_of_eq rfl) (hb hby at_42) (fun _ _ => ⟨rfl, e0, (by decide : 0 + 3 ≤ _), (by decide : 0 + 6 ≤ _)⟩)
  dsimp only [Pt.U, Pt.locs, Pt.cells, Pt.slots] at X6 l6 y6 z6 st6 hQ6
  subst l6 y6 z6
  obtain ⟨b6, rfl, N6q, K6c, g_b6, s6b, Ec6⟩ := hQ6
  have N6 := Fr.app N0 N6q
  have sz_b6 : h0.size ≤ b6 := Nat.le_trans (Keep.refl h0 []).1 s6b
  have K6 : Keep h0 T6.heap [] := (Keep.refl h0 []).trans K6c all0
  obtain ⟨_, _, ⟨T7, L7, k7, n7⟩, -, X7, ⟨Lc7, hQ7, l7, y7, z7⟩, st7⟩ := Jvm.LawKit.callS X6 hx (y := (⟨"nephrite/EvaluationExceptionOnPinLaw", "name", "(IZ)Ljava/lang/String;"⟩ : MethodName)) hown (mvT hZ (hw _ (List.mem_of_getElem? (i := 0) rfl))) (mvT hZ (hw _ (List.mem_of_getElem? (i := 1) rfl))) (mvT hZ (hw _ (List.mem_of_getElem? (i := 2) rfl))) (mvT hZ (hw _ (List.mem_of_getElem? (i := 3) rfl))) (by decide) (backOf (W := 0) (rm1n l Z a0 hw [] p4 (1 : Int32)  T6.heap n0 (Nat.le_trans Z0 K6c.1) (by decide)) hZ (hw _ (List.mem_of_getElem? (i := 3) rfl)) (hw _ (List.mem_of_getElem? (i := 2) rfl)) (by decide) (by decide)) (g := (mkF m 60 #[.val (.int p1), .val (.int p2), .val (.int p3), .val (.int p4), .val (.int p5), .val (.int v12_s0), .val (.int v27_s0), .val (.ref b6), .unset, .unset, .unset, .unset, .unset, .unset, .unset] [(.int (1 : Int32)), (.int p4)])) rfl (by rw [hml]; rfl) (argsL := [(.int p4), (.int (1 : Int32))]) (rest := []) (lenOf pd_0_0 rfl) rfl (by show 2 * 0 + _ ≤ _; exact Nat.le_of_eq rfl) (hb hby at_60) (fun _ _ => ⟨rfl, rfl, (by decide : 3 + 0 ≤ _), (by decide : 6 + 0 ≤ _)⟩)
  dsimp only [Pt.U, Pt.locs, Pt.cells, Pt.slots] at X7 l7 y7 z7 st7 hQ7
  subst l7 y7 z7
  obtain ⟨rfl, N7q, e7⟩ := hQ7
  have N7 := Fr.app N6 N7q
  obtain ⟨T8, h8, X8, e8, E8, A8, D8, U8, st8⟩ := newO X7 hx hZ hown (hw _ (List.mem_of_getElem? (i := 34) rfl)) (hw _ (List.mem_of_getElem? (i := 35) rfl)) (hw _ (List.mem_of_getElem? (i := 36) rfl)) e7 (g := (mkF m 65 #[.val (.int p1), .val (.int p2), .val (.int p3), .val (.int p4), .val (.int p5), .val (.int v12_s0), .val (.int v27_s0), .val (.ref b6), .val .null, .unset, .unset, .unset, .unset, .unset, .unset] [])) rfl (hb hby at_65) (by decide) (by decide)
  obtain ⟨b8, g8⟩ : ∃ z, z = T6.heap.size := ⟨_, rfl⟩
  rw [← g8] at A8 D8 st8
  have F_cause_b8 : Fld Z h8 b8 "java/lang/Throwable" "cause" "Ljava/lang/Throwable;" .null := D8 (Or.inl (hw _ (List.mem_of_getElem? (i := 62) rfl))) (ty := (.object "java/lang/Throwable")) (by decide)
  have F_stackTrace_b8 : Fld Z h8 b8 "java/lang/Throwable" "stackTrace" "[Ljava/lang/StackTraceElement;" .null := D8 (Or.inl (hw _ (List.mem_of_getElem? (i := 65) rfl))) (ty := (.array (.object "java/lang/StackTraceElement"))) (by decide)
  have F_suppressedExceptions_b8 : Fld Z h8 b8 "java/lang/Throwable" "suppressedExceptions" "Ljava/util/List;" .null := D8 (Or.inl (hw _ (List.mem_of_getElem? (i := 68) rfl))) (ty := (.object "java/util/List")) (by decide)
  have F_detailMessage_b8 : Fld Z h8 b8 "java/lang/Throwable" "detailMessage" "Ljava/lang/String;" .null := D8 (Or.inl (hw _ (List.mem_of_getElem? (i := 92) rfl))) (ty := (.object "java/lang/String")) (by decide)
  have F_backtrace_b8 : Fld Z h8 b8 "java/lang/Throwable" "backtrace" "Ljava/lang/Object;" .null := D8 (Or.inl (hw _ (List.mem_of_getElem? (i := 93) rfl))) (ty := (.object "java/lang/Object")) (by decide)
  have F_depth_b8 : Fld Z h8 b8 "java/lang/Throwable" "depth" "I" (.int (0 : Int32)) := D8 (Or.inl (hw _ (List.mem_of_getElem? (i := 94) rfl))) (ty := .int) (by decide)
  have F_line_b8 : Fld Z h8 b8 "nephrite/EvaluationException" "line" "I" (.int (0 : Int32)) := D8 (Or.inl (hw _ (List.mem_of_getElem? (i := 103) rfl))) (ty := .int) (by decide)
  have F_templateName_b8 : Fld Z h8 b8 "nephrite/EvaluationException" "templateName" "Ljava/lang/String;" .null := D8 (Or.inl (hw _ (List.mem_of_getElem? (i := 110) rfl))) (ty := (.object "java/lang/String")) (by decide)
  have U_b8 : Unt h8 b8 := by rw [g8]; exact U8
  have E_b8 := A8
  have g_b8 : n0 ≤ b8 := Nat.le_trans (Nat.le_trans Z0 K6c.1) (Nat.le_of_eq g8.symm)
  have sz_b8 : h0.size ≤ b8 := (Nat.le_trans K6.1 (Nat.le_of_eq g8.symm))
  have K8 : Keep h0 h8 [] := K6.ext E8
  obtain ⟨b9, T9, h9, q9, X9, e9, E9, hS, hk, hZ, hown, hC9, -, st9⟩ := ldcOH X8 hx hZ hown (hw _ (List.mem_of_getElem? (i := 37) rfl)) wS e8 hS (Nat.le_trans hk K8.1) (EW.nil : EW Z a0 []) (fun _ q => by cases q) (g := (mkF m 69 #[.val (.int p1), .val (.int p2), .val (.int p3), .val (.int p4), .val (.int p5), .val (.int v12_s0), .val (.int v27_s0), .val (.ref b6), .val .null, .unset, .unset, .unset, .unset, .unset, .unset] [(.ref b8), (.ref b8)])) rfl (hb hby at_69) (n := 4) (by decide) (by decide) (by decide) (by decide)
  have H := hC9.1
  have K9 : Keep h0 h9 [] := K8.ext E9
  obtain ⟨_, _, ⟨T10, L10, k10, n10⟩, -, X10, ⟨Lc10, hQ10, l10, y10, z10⟩, st10⟩ := X9.specialBack hx (y := (⟨"nephrite/EvaluationException", "<init>", "(Ljava/lang/String;)V"⟩ : MethodName)) rfl hown (mvT hZ (hw _ (List.mem_of_getElem? (i := 40) rfl))) (mvT hZ (hw _ (List.mem_of_getElem? (i := 41) rfl))) (mvT hZ (hw _ (List.mem_of_getElem? (i := 42) rfl))) (by decide) (own_backK (W := 1) (rm8 l Z a0 hw [] b8 b9  h9 n0 (Nat.le_trans (Nat.le_trans (Nat.le_trans Z0 K6c.1) E8.1) E9.1) g_b8 hlT ⟨(E_b8.ext E9), (U_b8.ext E9), ⟨_, (F_cause_b8.ext E9)⟩, ⟨_, (F_stackTrace_b8.ext E9)⟩, ⟨_, (F_suppressedExceptions_b8.ext E9)⟩, (F_backtrace_b8.ext E9), _, (F_detailMessage_b8.ext E9)⟩ (own_St_old S0 (O0.keep K9 all0))) hZ (hw _ (List.mem_of_getElem? (i := 42) rfl)) (hw _ (List.mem_of_getElem? (i := 36) rfl)) (Vm.MethodsKnown.alikeC hZ.alike hTK) (Vm.FramesKnown.alikeC hZ.alike hBK) (by decide) (by decide)) (g := (mkF m 71 #[.val (.int p1), .val (.int p2), .val (.int p3), .val (.int p4), .val (.int p5), .val (.int v12_s0), .val (.int v27_s0), .val (.ref b6), .val .null, .unset, .unset, .unset, .unset, .unset, .unset] [(.ref b9), (.ref b8), (.ref b8)])) rfl (by rw [hml]; rfl) (Steps.refl _) (a := b8) (argsL := [(.ref b9)]) (rest := [(.ref b8)]) (lenOf pd_0_7 rfl) rfl (by show 2 * 0 + _ ≤ _; exact Nat.le_of_eq rfl) (hb hby at_71) (fun _ _ => ⟨rfl, e9, (by decide : 6 + 1 ≤ _), (by decide : 22 + 2752 ≤ _)⟩)
  dsimp only [Pt.U, Pt.locs, Pt.cells, Pt.slots] at X10 l10 y10 z10 st10 hQ10
  subst l10 y10 z10
  obtain ⟨rfl, N10q, Kp10⟩ := hQ10
  have N10 := Fr.app N7 N10q
  have K10c := keep_of_kp Kp10
  have K10 : Keep h0 T10.heap [] := K9.trans K10c (allS (Or.inr sz_b8) all0)
  have Ec10 := (E_b8.ext E9).kp Kp10
  have Fk10_line := Fld.kp Kp10 (F_line_b8.ext E9) (Or.inr (own_six_ne hw (Or.inl (hw _ (List.mem_of_getElem? (i := 103) rfl))) (ty := .int) (by decide) (by decide)))
  have Fk10_templateName := Fld.kp Kp10 (F_templateName_b8.ext E9) (Or.inr (own_six_ne hw (Or.inl (hw _ (List.mem_of_getElem? (i := 110) rfl))) (ty := (.object "java/lang/String")) (by decide) (by decide)))
  obtain ⟨cq11, kq11, q11a, q11b, q11c⟩ := isOf hZ rfl Ec10
  obtain ⟨_, _, ⟨T11, L11, k11, n11⟩, -, X11, ⟨Lc11, hQ11, l11, y11, z11⟩, st11⟩ := X10.virtualBack hx (y := (⟨"nephrite/EvaluationException", "line", "()I"⟩ : MethodName)) (z := (⟨"nephrite/EvaluationException", "line", "()I"⟩ : MethodName)) hown (mvT hZ (hw _ (List.mem_of_getElem? (i := 97) rfl))) (mvT hZ (hw _ (List.mem_of_getElem? (i := 98) rfl))) (notFace_of_selects (args := #[]) (mvT hZ (hw _ (List.mem_of_getElem? (i := 100) rfl)))) (mvT hZ (hw _ (List.mem_of_getElem? (i := 100) rfl))) (mvT hZ (hw _ (List.mem_of_getElem? (i := 99) rfl))) (by decide) (backOf (W := 0) (rm14 l Z a0 hw [] b8 (0 : Int32) T10.heap n0 (Nat.le_trans (Nat.le_trans (Nat.le_trans (Nat.le_trans Z0 K6c.1) E8.1) E9.1) K10c.1) Fk10_line) hZ (hw _ (List.mem_of_getElem? (i := 101) rfl)) (hw _ (List.mem_of_getElem? (i := 36) rfl)) (by decide) (by decide)) q11a q11c (g := (mkF m 78 #[.val (.int p1), .val (.int p2), .val (.int p3), .val (.int p4), .val (.int p5), .val (.int v12_s0), .val (.int v27_s0), .val (.ref b6), .val .null, .val (.ref b8), .unset, .unset, .unset, .unset, .unset] [(.ref b8)])) rfl (by rw [hml]; rfl) (Steps.refl _) (argsL := []) (rest := []) (lenOf pd_0_10 rfl) rfl (by show 2 * 0 + _ ≤ _; exact Nat.le_of_eq rfl) (hb hby at_78) (fun _ _ => ⟨rfl, rfl, (by decide : 7 + 0 ≤ _), (by decide : 2774 + 0 ≤ _)⟩)
  dsimp only [Pt.U, Pt.locs, Pt.cells, Pt.slots] at X11 l11 y11 z11 st11 hQ11
  subst l11 y11 z11
  obtain ⟨rfl, N11q, e11⟩ := hQ11
  have N11 := Fr.app N10 N11q
  obtain ⟨cq12, kq12, q12a, q12b, q12c⟩ := isOf hZ e11 Ec10
  obtain ⟨_, _, ⟨T12, L12, k12, n12⟩, -, X12, ⟨Lc12, hQ12, l12, y12, z12⟩, st12⟩ := X11.virtualBack hx (y := (⟨"nephrite/EvaluationException", "templateName", "()Ljava/lang/String;"⟩ : MethodName)) (z := (⟨"nephrite/EvaluationException", "templateName", "()Ljava/lang/String;"⟩ : MethodName)) hown (mvT hZ (hw _ (List.mem_of_getElem? (i := 104) rfl))) (mvT hZ (hw _ (List.mem_of_getElem? (i := 105) rfl))) (notFace_of_selects (args := #[]) (mvT hZ (hw _ (List.mem_of_getElem? (i := 107) rfl)))) (mvT hZ (hw _ (List.mem_of_getElem? (i := 107) rfl))) (mvT hZ (hw _ (List.mem_of_getElem? (i := 106) rfl))) (by decide) (backOf (W := 0) (rm15n l Z a0 hw [] b8  T10.heap n0 (Nat.le_trans (Nat.le_trans (Nat.le_trans (Nat.le_trans Z0 K6c.1) E8.1) E9.1) K10c.1) Fk10_templateName) hZ (hw _ (List.mem_of_getElem? (i := 108) rfl)) (hw _ (List.mem_of_getElem? (i := 36) rfl)) (by decide) (by decide)) q12a q12c (g := (mkF m 86 #[.val (.int p1), .val (.int p2), .val (.int p3), .val (.int p4), .val (.int p5), .val (.int v12_s0), .val (.int v27_s0), .val (.ref b6), .val .null, .val (.ref b8), .unset, .unset, .unset, .unset, .unset] [(.ref b8)])) rfl (by rw [hml]; rfl) (Steps.refl _) (argsL := []) (rest := []) (lenOf pd_0_11 rfl) rfl (by show 2 * 0 + _ ≤ _; exact Nat.le_of_eq rfl) (hb hby at_86) (fun _ _ => ⟨rfl, e11, (by decide : 7 + 0 ≤ _), (by decide : 2774 + 0 ≤ _)⟩)
  dsimp only [Pt.U, Pt.locs, Pt.cells, Pt.slots] at X12 l12 y12 z12 st12 hQ12
  subst l12 y12 z12
  obtain ⟨rfl, N12q, e12⟩ := hQ12
  have N12 := Fr.app N11 N12q
  obtain ⟨cq13, kq13, q13a, q13b, q13c⟩ := isOf hZ e12 Ec10
  obtain ⟨_, _, ⟨T13, L13, k13, n13⟩, -, X13, ⟨Lc13, hQ13, l13, y13, z13⟩, st13⟩ := X12.virtualBack hx (y := (⟨"nephrite/EvaluationException", "on", "(Ljava/lang/String;I)Lnephrite/EvaluationException;"⟩ : MethodName)) (z := (⟨"nephrite/EvaluationException", "on", "(Ljava/lang/String;I)Lnephrite/EvaluationException;"⟩ : MethodName)) hown (mvT hZ (hw _ (List.mem_of_getElem? (i := 111) rfl))) (mvT hZ (hw _ (List.mem_of_getElem? (i := 112) rfl))) (notFace_of_selects (args := #[]) (mvT hZ (hw _ (List.mem_of_getElem? (i := 114) rfl)))) (mvT hZ (hw _ (List.mem_of_getElem? (i := 114) rfl))) (mvT hZ (hw _ (List.mem_of_getElem? (i := 113) rfl))) (by decide) (backOf (W := 0) (rm16f l Z a0 hw [] b8 b6 v12_s0 _ _ T10.heap n0 (Nat.le_trans (Nat.le_trans (Nat.le_trans (Nat.le_trans Z0 K6c.1) E8.1) E9.1) K10c.1) Fk10_line Ec10 Fk10_templateName g_b8 rfl) hZ (hw _ (List.mem_of_getElem? (i := 115) rfl)) (hw _ (List.mem_of_getElem? (i := 36) rfl)) (by decide) (by decide)) q13a q13c (g := (mkF m 105 #[.val (.int p1), .val (.int p2), .val (.int p3), .val (.int p4), .val (.int p5), .val (.int v12_s0), .val (.int v27_s0), .val (.ref b6), .val .null, .val (.ref b8), .val (.int (1 : Int32)), .unset, .unset, .unset, .unset] [(.int v12_s0), (.ref b6), (.ref b8)])) rfl (by rw [hml]; rfl) (Steps.refl _) (argsL := [(.ref b6), (.int v12_s0)]) (rest := []) (lenOf pd_0_12 rfl) rfl (by show 2 * 0 + _ ≤ _; exact Nat.le_of_eq rfl) (hb hby at_105) (fun _ _ => ⟨rfl, e12, (by decide : 7 + 0 ≤ _), (by decide : 2774 + 0 ≤ _)⟩)
  dsimp only [Pt.U, Pt.locs, Pt.cells, Pt.slots] at X13 l13 y13 z13 st13 hQ13
  subst l13 y13 z13
  obtain ⟨rfl, N13q, K13c, Ec13, Fc13_0, Fc13_1⟩ := hQ13
  have N13 := Fr.app N12 N13q
  have K13 : Keep h0 T13.heap [] := K10.trans K13c (allS (Or.inr sz_b8) all0)
  obtain ⟨cq14, kq14, q14a, q14b, q14c⟩ := isOf hZ rfl Ec13
  obtain ⟨_, _, ⟨T14, L14, k14, n14⟩, -, X14, ⟨Lc14, hQ14, l14, y14, z14⟩, st14⟩ := X13.virtualBack hx (y := (⟨"nephrite/EvaluationException", "line", "()I"⟩ : MethodName)) (z := (⟨"nephrite/EvaluationException", "line", "()I"⟩ : MethodName)) hown (mvT hZ (hw _ (List.mem_of_getElem? (i := 97) rfl))) (mvT hZ (hw _ (List.mem_of_getElem? (i := 98) rfl))) (notFace_of_selects (args := #[]) (mvT hZ (hw _ (List.mem_of_getElem? (i := 100) rfl)))) (mvT hZ (hw _ (List.mem_of_getElem? (i := 100) rfl))) (mvT hZ (hw _ (List.mem_of_getElem? (i := 99) rfl))) (by decide) (backOf (W := 0) (rm14 l Z a0 hw [] b8 v12_s0 T13.heap n0 (Nat.le_trans (Nat.le_trans (Nat.le_trans (Nat.le_trans (Nat.le_trans Z0 K6c.1) E8.1) E9.1) K10c.1) K13c.1) Fc13_0) hZ (hw _ (List.mem_of_getElem? (i := 101) rfl)) (hw _ (List.mem_of_getElem? (i := 36) rfl)) (by decide) (by decide)) q14a q14c (g := (mkF m 124 #[.val (.int p1), .val (.int p2), .val (.int p3), .val (.int p4), .val (.int p5), .val (.int v12_s0), .val (.int v27_s0), .val (.ref b6), .val .null, .val (.ref b8), .val (.int (1 : Int32)), .val (.ref b8), .unset, .unset, .unset] [(.ref b8)])) rfl (by rw [hml]; rfl) (Steps.refl _) (argsL := []) (rest := []) (lenOf pd_0_10 rfl) rfl (by show 2 * 0 + _ ≤ _; exact Nat.le_of_eq rfl) (hb hby at_124) (fun _ _ => ⟨rfl, rfl, (by decide : 7 + 0 ≤ _), (by decide : 2774 + 0 ≤ _)⟩)
  dsimp only [Pt.U, Pt.locs, Pt.cells, Pt.slots] at X14 l14 y14 z14 st14 hQ14
  subst l14 y14 z14
  obtain ⟨rfl, N14q, e14⟩ := hQ14
  have N14 := Fr.app N13 N14q
  obtain ⟨cq15, kq15, q15a, q15b, q15c⟩ := isOf hZ e14 Ec13
  obtain ⟨_, _, ⟨T15, L15, k15, n15⟩, -, X15, ⟨Lc15, hQ15, l15, y15, z15⟩, st15⟩ := X14.virtualBack hx (y := (⟨"nephrite/EvaluationException", "templateName", "()Ljava/lang/String;"⟩ : MethodName)) (z := (⟨"nephrite/EvaluationException", "templateName", "()Ljava/lang/String;"⟩ : MethodName)) hown (mvT hZ (hw _ (List.mem_of_getElem? (i := 104) rfl))) (mvT hZ (hw _ (List.mem_of_getElem? (i := 105) rfl))) (notFace_of_selects (args := #[]) (mvT hZ (hw _ (List.mem_of_getElem? (i := 107) rfl)))) (mvT hZ (hw _ (List.mem_of_getElem? (i := 107) rfl))) (mvT hZ (hw _ (List.mem_of_getElem? (i := 106) rfl))) (by decide) (backOf (W := 0) (rm15 l Z a0 hw [] b8 b6 T13.heap n0 (Nat.le_trans (Nat.le_trans (Nat.le_trans (Nat.le_trans (Nat.le_trans Z0 K6c.1) E8.1) E9.1) K10c.1) K13c.1) Fc13_1) hZ (hw _ (List.mem_of_getElem? (i := 108) rfl)) (hw _ (List.mem_of_getElem? (i := 36) rfl)) (by decide) (by decide)) q15a q15c (g := (mkF m 134 #[.val (.int p1), .val (.int p2), .val (.int p3), .val (.int p4), .val (.int p5), .val (.int v12_s0), .val (.int v27_s0), .val (.ref b6), .val .null, .val (.ref b8), .val (.int (1 : Int32)), .val (.ref b8), .unset, .unset, .unset] [(.ref b8)])) rfl (by rw [hml]; rfl) (Steps.refl _) (argsL := []) (rest := []) (lenOf pd_0_11 rfl) rfl (by show 2 * 0 + _ ≤ _; exact Nat.le_of_eq rfl) (hb hby at_134) (fun _ _ => ⟨rfl, e14, (by decide : 7 + 0 ≤ _), (by decide : 2774 + 0 ≤ _)⟩)
  dsimp only [Pt.U, Pt.locs, Pt.cells, Pt.slots] at X15 l15 y15 z15 st15 hQ15
  subst l15 y15 z15
  obtain ⟨rfl, N15q, e15⟩ := hQ15
  have N15 := Fr.app N14 N15q
  obtain ⟨cq16, kq16, q16a, q16b, q16c⟩ := isOf hZ e15 Ec13
  obtain ⟨_, _, ⟨T16, L16, k16, n16⟩, -, X16, ⟨Lc16, hQ16, l16, y16, z16⟩, st16⟩ := X15.virtualBack hx (y := (⟨"nephrite/EvaluationException", "on", "(Ljava/lang/String;I)Lnephrite/EvaluationException;"⟩ : MethodName)) (z := (⟨"nephrite/EvaluationException", "on", "(Ljava/lang/String;I)Lnephrite/EvaluationException;"⟩ : MethodName)) hown (mvT hZ (hw _ (List.mem_of_getElem? (i := 111) rfl))) (mvT hZ (hw _ (List.mem_of_getElem? (i := 112) rfl))) (notFace_of_selects (args := #[]) (mvT hZ (hw _ (List.mem_of_getElem? (i := 114) rfl)))) (mvT hZ (hw _ (List.mem_of_getElem? (i := 114) rfl))) (mvT hZ (hw _ (List.mem_of_getElem? (i := 113) rfl))) (by decide) (backOf (W := 0) (rm16tn l Z a0 hw [] b8 v27_s0 _ T13.heap n0 (Nat.le_trans (Nat.le_trans (Nat.le_trans (Nat.le_trans (Nat.le_trans Z0 K6c.1) E8.1) E9.1) K10c.1) K13c.1) Fc13_0 hc162) hZ (hw _ (List.mem_of_getElem? (i := 115) rfl)) (hw _ (List.mem_of_getElem? (i := 36) rfl)) (by decide) (by decide)) q16a q16c (g := (mkF m 155 #[.val (.int p1), .val (.int p2), .val (.int p3), .val (.int p4), .val (.int p5), .val (.int v12_s0), .val (.int v27_s0), .val (.ref b6), .val .null, .val (.ref b8), .val (.int (1 : Int32)), .val (.ref b8), .unset, .unset, .unset] [(.int v27_s0), .null, (.ref b8)])) rfl (by rw [hml]; rfl) (Steps.refl _) (argsL := [.null, (.int v27_s0)]) (rest := []) (lenOf pd_0_12 rfl) rfl (by show 2 * 0 + _ ≤ _; exact Nat.le_of_eq rfl) (hb hby at_155) (fun _ _ => ⟨rfl, e15, (by decide : 7 + 0 ≤ _), (by decide : 2774 + 0 ≤ _)⟩)
  dsimp only [Pt.U, Pt.locs, Pt.cells, Pt.slots] at X16 l16 y16 z16 st16 hQ16
  subst l16 y16 z16
  obtain ⟨rfl, N16q, e16⟩ := hQ16
  have N16 := Fr.app N15 N16q
  obtain ⟨cq17, kq17, q17a, q17b, q17c⟩ := isOf hZ e16 Ec13
  obtain ⟨_, _, ⟨T17, L17, k17, n17⟩, -, X17, ⟨Lc17, hQ17, l17, y17, z17⟩, st17⟩ := X16.virtualBack hx (y := (⟨"nephrite/EvaluationException", "line", "()I"⟩ : MethodName)) (z := (⟨"nephrite/EvaluationException", "line", "()I"⟩ : MethodName)) hown (mvT hZ (hw _ (List.mem_of_getElem? (i := 97) rfl))) (mvT hZ (hw _ (List.mem_of_getElem? (i := 98) rfl))) (notFace_of_selects (args := #[]) (mvT hZ (hw _ (List.mem_of_getElem? (i := 100) rfl)))) (mvT hZ (hw _ (List.mem_of_getElem? (i := 100) rfl))) (mvT hZ (hw _ (List.mem_of_getElem? (i := 99) rfl))) (by decide) (backOf (W := 0) (rm14 l Z a0 hw [] b8 v12_s0 T13.heap n0 (Nat.le_trans (Nat.le_trans (Nat.le_trans (Nat.le_trans (Nat.le_trans Z0 K6c.1) E8.1) E9.1) K10c.1) K13c.1) Fc13_0) hZ (hw _ (List.mem_of_getElem? (i := 101) rfl)) (hw _ (List.mem_of_getElem? (i := 36) rfl)) (by decide) (by decide)) q17a q17c (g := (mkF m 202 #[.val (.int p1), .val (.int p2), .val (.int p3), .val (.int p4), .val (.int p5), .val (.int v12_s0), .val (.int v27_s0), .val (.ref b6), .val .null, .val (.ref b8), .val (.int (1 : Int32)), .val (.ref b8), .val (.ref b8), .val (.int v12_s0), .val (.ref b6)] [(.ref b8)])) rfl (by rw [hml]; rfl) (Steps.refl _) (argsL := []) (rest := []) (lenOf pd_0_10 rfl) rfl (by show 2 * 0 + _ ≤ _; exact Nat.le_of_eq rfl) (hb hby at_202) (fun _ _ => ⟨rfl, e16, (by decide : 7 + 0 ≤ _), (by decide : 2774 + 0 ≤ _)⟩)
  dsimp only [Pt.U, Pt.locs, Pt.cells, Pt.slots] at X17 l17 y17 z17 st17 hQ17
  subst l17 y17 z17
  obtain ⟨rfl, N17q, e17⟩ := hQ17
  have N17 := Fr.app N16 N17q
  obtain ⟨cq18, kq18, q18a, q18b, q18c⟩ := isOf hZ e17 Ec13
  obtain ⟨_, _, ⟨T18, L18, k18, n18⟩, -, X18, ⟨Lc18, hQ18, l18, y18, z18⟩, st18⟩ := X17.virtualBack hx (y := (⟨"nephrite/EvaluationException", "templateName", "()Ljava/lang/String;"⟩ : MethodName)) (z := (⟨"nephrite/EvaluationException", "templateName", "()Ljava/lang/String;"⟩ : MethodName)) hown (mvT hZ (hw _ (List.mem_of_getElem? (i := 104) rfl))) (mvT hZ (hw _ (List.mem_of_getElem? (i := 105) rfl))) (notFace_of_selects (args := #[]) (mvT hZ (hw _ (List.mem_of_getElem? (i := 107) rfl)))) (mvT hZ (hw _ (List.mem_of_getElem? (i := 107) rfl))) (mvT hZ (hw _ (List.mem_of_getElem? (i := 106) rfl))) (by decide) (backOf (W := 0) (rm15 l Z a0 hw [] b8 b6 T13.heap n0 (Nat.le_trans (Nat.le_trans (Nat.le_trans (Nat.le_trans (Nat.le_trans Z0 K6c.1) E8.1) E9.1) K10c.1) K13c.1) Fc13_1) hZ (hw _ (List.mem_of_getElem? (i := 108) rfl)) (hw _ (List.mem_of_getElem? (i := 36) rfl)) (by decide) (by decide)) q18a q18c (g := (mkF m 212 #[.val (.int p1), .val (.int p2), .val (.int p3), .val (.int p4), .val (.int p5), .val (.int v12_s0), .val (.int v27_s0), .val (.ref b6), .val .null, .val (.ref b8), .val (.int (1 : Int32)), .val (.ref b8), .val (.ref b8), .val (.int v12_s0), .val (.ref b6)] [(.ref b8)])) rfl (by rw [hml]; rfl) (Steps.refl _) (argsL := []) (rest := []) (lenOf pd_0_11 rfl) rfl (by show 2 * 0 + _ ≤ _; exact Nat.le_of_eq rfl) (hb hby at_212) (fun _ _ => ⟨rfl, e17, (by decide : 7 + 0 ≤ _), (by decide : 2774 + 0 ≤ _)⟩)
  dsimp only [Pt.U, Pt.locs, Pt.cells, Pt.slots] at X18 l18 y18 z18 st18 hQ18
  subst l18 y18 z18
  obtain ⟨rfl, N18q, e18⟩ := hQ18
  have N18 := Fr.app N17 N18q
  obtain ⟨fs, hr, hrun, hended, hRE⟩ := X18.leaveW hS (by rw [e18]; exact (Nat.le_trans (Nat.le_trans hk K10c.1) K13c.1)) (v := some (.int (1 : Int32))) (fun h => by rw [Bd.returns] at h; cases h)
  refine ⟨_, _, pre0 _ ?_, hrun, hended, _, _, rfl, ?_, hRE.1, hRE.2.1, hRE.2.2.1, hRE.2.2.2.mono (by decide) (by decide)⟩
  · show Steps p.tables e below (s₁.setTop (mkF m 0 #[.val (.int p1), .val (.int p2), .val (.int p3), .val (.int p4), .val (.int p5), .unset, .unset, .unset, .unset, .unset, .unset, .unset, .unset, .unset, .unset] [])) _
    refine XS.iload X0.here hx rfl (hb hby at_0) rfl ?_
    show Steps p.tables e below (s₁.setTop (mkF m 2 #[.val (.int p1), .val (.int p2), .val (.int p3), .val (.int p4), .val (.int p5), .unset, .unset, .unset, .unset, .unset, .unset, .unset, .unset, .unset, .unset] [(.int p5)])) _
    refine XS.iconst X0.here hx rfl (hb hby at_2) ?_
    show Steps p.tables e below (s₁.setTop (mkF m 3 #[.val (.int p1), .val (.int p2), .val (.int p3), .val (.int p4), .val (.int p5), .unset, .unset, .unset, .unset, .unset, .unset, .unset, .unset, .unset, .unset] [(.int (1 : Int32)), (.int p5)])) _
    refine XS.iand X0.here hx rfl (hb hby at_3) rfl ?_
    refine sg4 _ ?_
    show Steps p.tables e below (s₁.setTop (mkF m 12 #[.val (.int p1), .val (.int p2), .val (.int p3), .val (.int p4), .val (.int p5), .unset, .unset, .unset, .unset, .unset, .unset, .unset, .unset, .unset, .unset] [(.int v12_s0)])) _
    refine XS.istore X0.here hx rfl (hb hby at_12) rfl (l' := #[.val (.int p1), .val (.int p2), .val (.int p3), .val (.int p4), .val (.int p5), .val (.int v12_s0), .unset, .unset, .unset, .unset, .unset, .unset, .unset, .unset, .unset]) rfl ?_
    show Steps p.tables e below (s₁.setTop (mkF m 14 #[.val (.int p1), .val (.int p2), .val (.int p3), .val (.int p4), .val (.int p5), .val (.int v12_s0), .unset, .unset, .unset, .unset, .unset, .unset, .unset, .unset, .unset] [])) _
    refine XS.iload X0.here hx rfl (hb hby at_14) rfl ?_
    show Steps p.tables e below (s₁.setTop (mkF m 16 #[.val (.int p1), .val (.int p2), .val (.int p3), .val (.int p4), .val (.int p5), .val (.int v12_s0), .unset, .unset, .unset, .unset, .unset, .unset, .unset, .unset, .unset] [(.int p5)])) _
    refine XS.bipush X0.here hx rfl (hb hby at_16) ?_
    show Steps p.tables e below (s₁.setTop (mkF m 18 #[.val (.int p1), .val (.int p2), .val (.int p3), .val (.int p4), .val (.int p5), .val (.int v12_s0), .unset, .unset, .unset, .unset, .unset, .unset, .unset, .unset, .unset] [(.int (8 : Int32)), (.int p5)])) _
    refine XS.iand X0.here hx rfl (hb hby at_18) rfl ?_
    refine sg19 _ ?_
    show Steps p.tables e below (s₁.setTop (mkF m 27 #[.val (.int p1), .val (.int p2), .val (.int p3), .val (.int p4), .val (.int p5), .val (.int v12_s0), .unset, .unset, .unset, .unset, .unset, .unset, .unset, .unset, .unset] [(.int v27_s0)])) _
    refine XS.istore X0.here hx rfl (hb hby at_27) rfl (l' := #[.val (.int p1), .val (.int p2), .val (.int p3), .val (.int p4), .val (.int p5), .val (.int v12_s0), .val (.int v27_s0), .unset, .unset, .unset, .unset, .unset, .unset, .unset, .unset]) rfl ?_
    show Steps p.tables e below (s₁.setTop (mkF m 29 #[.val (.int p1), .val (.int p2), .val (.int p3), .val (.int p4), .val (.int p5), .val (.int v12_s0), .val (.int v27_s0), .unset, .unset, .unset, .unset, .unset, .unset, .unset, .unset] [])) _
    refine XS.iloadN X0.here hx rfl (hb hby at_29) rfl ?_
    show Steps p.tables e below (s₁.setTop (mkF m 30 #[.val (.int p1), .val (.int p2), .val (.int p3), .val (.int p4), .val (.int p5), .val (.int v12_s0), .val (.int v27_s0), .unset, .unset, .unset, .unset, .unset, .unset, .unset, .unset] [(.int p3)])) _
    refine XS.iload X0.here hx rfl (hb hby at_30) rfl ?_
    show Steps p.tables e below (s₁.setTop (mkF m 32 #[.val (.int p1), .val (.int p2), .val (.int p3), .val (.int p4), .val (.int p5), .val (.int v12_s0), .val (.int v27_s0), .unset, .unset, .unset, .unset, .unset, .unset, .unset, .unset] [(.int p5), (.int p3)])) _
    refine XS.iconst X0.here hx rfl (hb hby at_32) ?_
    show Steps p.tables e below (s₁.setTop (mkF m 33 #[.val (.int p1), .val (.int p2), .val (.int p3), .val (.int p4), .val (.int p5), .val (.int v12_s0), .val (.int v27_s0), .unset, .unset, .unset, .unset, .unset, .unset, .unset, .unset] [(.int (2 : Int32)), (.int p5), (.int p3)])) _
    refine XS.iand X0.here hx rfl (hb hby at_33) rfl ?_
    show Steps p.tables e below (s₁.setTop (mkF m 34 #[.val (.int p1), .val (.int p2), .val (.int p3), .val (.int p4), .val (.int p5), .val (.int v12_s0), .val (.int v27_s0), .unset, .unset, .unset, .unset, .unset, .unset, .unset, .unset] [(.int (p5 &&& (2 : Int32))), (.int p3)])) _
    refine XS.ifYes X0.here hx rfl (pc0 := 34) (pc' := 41) rfl (hb hby at_34) rfl ((if0 _ _).trans (teq hc34).1) (by decide) (by decide) ?_
    show Steps p.tables e below (s₁.setTop (mkF m 41 #[.val (.int p1), .val (.int p2), .val (.int p3), .val (.int p4), .val (.int p5), .val (.int v12_s0), .val (.int v27_s0), .unset, .unset, .unset, .unset, .unset, .unset, .unset, .unset] [(.int p3)])) _
    refine XS.iconst X0.here hx rfl (hb hby at_41) ?_
    show Steps p.tables e below (s₁.setTop (mkF m 42 #[.val (.int p1), .val (.int p2), .val (.int p3), .val (.int p4), .val (.int p5), .val (.int v12_s0), .val (.int v27_s0), .unset, .unset, .unset, .unset, .unset, .unset, .unset, .unset] [(.int (0 : Int32)), (.int p3)])) _
    refine st6 _ ?_
    show Steps p.tables e below (T6.setTop (mkF m 45 #[.val (.int p1), .val (.int p2), .val (.int p3), .val (.int p4), .val (.int p5), .val (.int v12_s0), .val (.int v27_s0), .unset, .unset, .unset, .unset, .unset, .unset, .unset, .unset] [(.ref b6)])) _
    refine XS.astore X6.here hx rfl (hb hby at_45) rfl rfl (l' := #[.val (.int p1), .val (.int p2), .val (.int p3), .val (.int p4), .val (.int p5), .val (.int v12_s0), .val (.int v27_s0), .val (.ref b6), .unset, .unset, .unset, .unset, .unset, .unset, .unset]) rfl ?_
    show Steps p.tables e below (T6.setTop (mkF m 47 #[.val (.int p1), .val (.int p2), .val (.int p3), .val (.int p4), .val (.int p5), .val (.int v12_s0), .val (.int v27_s0), .val (.ref b6), .unset, .unset, .unset, .unset, .unset, .unset, .unset] [])) _
    refine XS.iloadN X6.here hx rfl (hb hby at_47) rfl ?_
    show Steps p.tables e below (T6.setTop (mkF m 48 #[.val (.int p1), .val (.int p2), .val (.int p3), .val (.int p4), .val (.int p5), .val (.int v12_s0), .val (.int v27_s0), .val (.ref b6), .unset, .unset, .unset, .unset, .unset, .unset, .unset] [(.int p4)])) _
    refine XS.iload X6.here hx rfl (hb hby at_48) rfl ?_
    show Steps p.tables e below (T6.setTop (mkF m 50 #[.val (.int p1), .val (.int p2), .val (.int p3), .val (.int p4), .val (.int p5), .val (.int v12_s0), .val (.int v27_s0), .val (.ref b6), .unset, .unset, .unset, .unset, .unset, .unset, .unset] [(.int p5), (.int p4)])) _
    refine XS.iconst X6.here hx rfl (hb hby at_50) ?_
    show Steps p.tables e below (T6.setTop (mkF m 51 #[.val (.int p1), .val (.int p2), .val (.int p3), .val (.int p4), .val (.int p5), .val (.int v12_s0), .val (.int v27_s0), .val (.ref b6), .unset, .unset, .unset, .unset, .unset, .unset, .unset] [(.int (4 : Int32)), (.int p5), (.int p4)])) _
    refine XS.iand X6.here hx rfl (hb hby at_51) rfl ?_
    show Steps p.tables e below (T6.setTop (mkF m 52 #[.val (.int p1), .val (.int p2), .val (.int p3), .val (.int p4), .val (.int p5), .val (.int v12_s0), .val (.int v27_s0), .val (.ref b6), .unset, .unset, .unset, .unset, .unset, .unset, .unset] [(.int (p5 &&& (4 : Int32))), (.int p4)])) _
    refine XS.ifNo X6.here hx rfl (hb hby at_52) rfl ((if0 _ _).trans (feq hc52).1) ?_
    show Steps p.tables e below (T6.setTop (mkF m 55 #[.val (.int p1), .val (.int p2), .val (.int p3), .val (.int p4), .val (.int p5), .val (.int v12_s0), .val (.int v27_s0), .val (.ref b6), .unset, .unset, .unset, .unset, .unset, .unset, .unset] [(.int p4)])) _
    refine XS.iconst X6.here hx rfl (hb hby at_55) ?_
    show Steps p.tables e below (T6.setTop (mkF m 56 #[.val (.int p1), .val (.int p2), .val (.int p3), .val (.int p4), .val (.int p5), .val (.int v12_s0), .val (.int v27_s0), .val (.ref b6), .unset, .unset, .unset, .unset, .unset, .unset, .unset] [(.int (1 : Int32)), (.int p4)])) _
    refine XS.goto X6.here hx rfl (pc0 := 56) (pc' := 60) rfl (hb hby at_56) (by decide) (by decide) ?_
    show Steps p.tables e below (T6.setTop (mkF m 60 #[.val (.int p1), .val (.int p2), .val (.int p3), .val (.int p4), .val (.int p5), .val (.int v12_s0), .val (.int v27_s0), .val (.ref b6), .unset, .unset, .unset, .unset, .unset, .unset, .unset] [(.int (1 : Int32)), (.int p4)])) _
    refine st7 _ ?_
    show Steps p.tables e below (T7.setTop (mkF m 63 #[.val (.int p1), .val (.int p2), .val (.int p3), .val (.int p4), .val (.int p5), .val (.int v12_s0), .val (.int v27_s0), .val (.ref b6), .unset, .unset, .unset, .unset, .unset, .unset, .unset] [.null])) _
    refine XS.astore X7.here hx rfl (hb hby at_63) rfl rfl (l' := #[.val (.int p1), .val (.int p2), .val (.int p3), .val (.int p4), .val (.int p5), .val (.int v12_s0), .val (.int v27_s0), .val (.ref b6), .val .null, .unset, .unset, .unset, .unset, .unset, .unset]) rfl ?_
    show Steps p.tables e below (T7.setTop (mkF m 65 #[.val (.int p1), .val (.int p2), .val (.int p3), .val (.int p4), .val (.int p5), .val (.int v12_s0), .val (.int v27_s0), .val (.ref b6), .val .null, .unset, .unset, .unset, .unset, .unset, .unset] [])) _
    refine st8 _ ?_
    show Steps p.tables e below (T8.setTop (mkF m 68 #[.val (.int p1), .val (.int p2), .val (.int p3), .val (.int p4), .val (.int p5), .val (.int v12_s0), .val (.int v27_s0), .val (.ref b6), .val .null, .unset, .unset, .unset, .unset, .unset, .unset] [(.ref b8)])) _
    refine XS.dup X8.here hx rfl (hb hby at_68) rfl rfl ?_
    show Steps p.tables e below (T8.setTop (mkF m 69 #[.val (.int p1), .val (.int p2), .val (.int p3), .val (.int p4), .val (.int p5), .val (.int v12_s0), .val (.int v27_s0), .val (.ref b6), .val .null, .unset, .unset, .unset, .unset, .unset, .unset] [(.ref b8), (.ref b8)])) _
    refine st9 _ ?_
    show Steps p.tables e below (T9.setTop (mkF m 71 #[.val (.int p1), .val (.int p2), .val (.int p3), .val (.int p4), .val (.int p5), .val (.int v12_s0), .val (.int v27_s0), .val (.ref b6), .val .null, .unset, .unset, .unset, .unset, .unset, .unset] [(.ref b9), (.ref b8), (.ref b8)])) _
    refine st10.trans ?_
    show Steps p.tables e below (T10.setTop (mkF m 74 #[.val (.int p1), .val (.int p2), .val (.int p3), .val (.int p4), .val (.int p5), .val (.int v12_s0), .val (.int v27_s0), .val (.ref b6), .val .null, .unset, .unset, .unset, .unset, .unset, .unset] [(.ref b8)])) _
    refine XS.astore X10.here hx rfl (hb hby at_74) rfl rfl (l' := #[.val (.int p1), .val (.int p2), .val (.int p3), .val (.int p4), .val (.int p5), .val (.int v12_s0), .val (.int v27_s0), .val (.ref b6), .val .null, .val (.ref b8), .unset, .unset, .unset, .unset, .unset]) rfl ?_
    show Steps p.tables e below (T10.setTop (mkF m 76 #[.val (.int p1), .val (.int p2), .val (.int p3), .val (.int p4), .val (.int p5), .val (.int v12_s0), .val (.int v27_s0), .val (.ref b6), .val .null, .val (.ref b8), .unset, .unset, .unset, .unset, .unset] [])) _
    refine XS.aload X10.here hx rfl (hb hby at_76) rfl rfl ?_
    show Steps p.tables e below (T10.setTop (mkF m 78 #[.val (.int p1), .val (.int p2), .val (.int p3), .val (.int p4), .val (.int p5), .val (.int v12_s0), .val (.int v27_s0), .val (.ref b6), .val .null, .val (.ref b8), .unset, .unset, .unset, .unset, .unset] [(.ref b8)])) _
    refine st11.trans ?_
    show Steps p.tables e below (T11.setTop (mkF m 81 #[.val (.int p1), .val (.int p2), .val (.int p3), .val (.int p4), .val (.int p5), .val (.int v12_s0), .val (.int v27_s0), .val (.ref b6), .val .null, .val (.ref b8), .unset, .unset, .unset, .unset, .unset] [(.int (0 : Int32))])) _
    refine XS.ifNo X11.here hx rfl (hb hby at_81) rfl ((if0 _ _).trans (teq (rfl : (0 : Int32) = (0 : Int32))).2) ?_
    show Steps p.tables e below (T11.setTop (mkF m 84 #[.val (.int p1), .val (.int p2), .val (.int p3), .val (.int p4), .val (.int p5), .val (.int v12_s0), .val (.int v27_s0), .val (.ref b6), .val .null, .val (.ref b8), .unset, .unset, .unset, .unset, .unset] [])) _
    refine XS.aload X11.here hx rfl (hb hby at_84) rfl rfl ?_
    show Steps p.tables e below (T11.setTop (mkF m 86 #[.val (.int p1), .val (.int p2), .val (.int p3), .val (.int p4), .val (.int p5), .val (.int v12_s0), .val (.int v27_s0), .val (.ref b6), .val .null, .val (.ref b8), .unset, .unset, .unset, .unset, .unset] [(.ref b8)])) _
    refine st12.trans ?_
    show Steps p.tables e below (T12.setTop (mkF m 89 #[.val (.int p1), .val (.int p2), .val (.int p3), .val (.int p4), .val (.int p5), .val (.int v12_s0), .val (.int v27_s0), .val (.ref b6), .val .null, .val (.ref b8), .unset, .unset, .unset, .unset, .unset] [.null])) _
    refine XS.ifnonnullNo X12.here hx rfl (hb hby at_89) rfl ?_
    show Steps p.tables e below (T12.setTop (mkF m 92 #[.val (.int p1), .val (.int p2), .val (.int p3), .val (.int p4), .val (.int p5), .val (.int v12_s0), .val (.int v27_s0), .val (.ref b6), .val .null, .val (.ref b8), .unset, .unset, .unset, .unset, .unset] [])) _
    refine XS.iconst X12.here hx rfl (hb hby at_92) ?_
    show Steps p.tables e below (T12.setTop (mkF m 93 #[.val (.int p1), .val (.int p2), .val (.int p3), .val (.int p4), .val (.int p5), .val (.int v12_s0), .val (.int v27_s0), .val (.ref b6), .val .null, .val (.ref b8), .unset, .unset, .unset, .unset, .unset] [(.int (1 : Int32))])) _
    refine XS.goto X12.here hx rfl (pc0 := 93) (pc' := 97) rfl (hb hby at_93) (by decide) (by decide) ?_
    show Steps p.tables e below (T12.setTop (mkF m 97 #[.val (.int p1), .val (.int p2), .val (.int p3), .val (.int p4), .val (.int p5), .val (.int v12_s0), .val (.int v27_s0), .val (.ref b6), .val .null, .val (.ref b8), .unset, .unset, .unset, .unset, .unset] [(.int (1 : Int32))])) _
    refine XS.istore X12.here hx rfl (hb hby at_97) rfl (l' := #[.val (.int p1), .val (.int p2), .val (.int p3), .val (.int p4), .val (.int p5), .val (.int v12_s0), .val (.int v27_s0), .val (.ref b6), .val .null, .val (.ref b8), .val (.int (1 : Int32)), .unset, .unset, .unset, .unset]) rfl ?_
    show Steps p.tables e below (T12.setTop (mkF m 99 #[.val (.int p1), .val (.int p2), .val (.int p3), .val (.int p4), .val (.int p5), .val (.int v12_s0), .val (.int v27_s0), .val (.ref b6), .val .null, .val (.ref b8), .val (.int (1 : Int32)), .unset, .unset, .unset, .unset] [])) _
    refine XS.aload X12.here hx rfl (hb hby at_99) rfl rfl ?_
    show Steps p.tables e below (T12.setTop (mkF m 101 #[.val (.int p1), .val (.int p2), .val (.int p3), .val (.int p4), .val (.int p5), .val (.int v12_s0), .val (.int v27_s0), .val (.ref b6), .val .null, .val (.ref b8), .val (.int (1 : Int32)), .unset, .unset, .unset, .unset] [(.ref b8)])) _
    refine XS.aload X12.here hx rfl (hb hby at_101) rfl rfl ?_
    show Steps p.tables e below (T12.setTop (mkF m 103 #[.val (.int p1), .val (.int p2), .val (.int p3), .val (.int p4), .val (.int p5), .val (.int v12_s0), .val (.int v27_s0), .val (.ref b6), .val .null, .val (.ref b8), .val (.int (1 : Int32)), .unset, .unset, .unset, .unset] [(.ref b6), (.ref b8)])) _
    refine XS.iload X12.here hx rfl (hb hby at_103) rfl ?_
    show Steps p.tables e below (T12.setTop (mkF m 105 #[.val (.int p1), .val (.int p2), .val (.int p3), .val (.int p4), .val (.int p5), .val (.int v12_s0), .val (.int v27_s0), .val (.ref b6), .val .null, .val (.ref b8), .val (.int (1 : Int32)), .unset, .unset, .unset, .unset] [(.int v12_s0), (.ref b6), (.ref b8)])) _
    refine st13.trans ?_
    show Steps p.tables e below (T13.setTop (mkF m 108 #[.val (.int p1), .val (.int p2), .val (.int p3), .val (.int p4), .val (.int p5), .val (.int v12_s0), .val (.int v27_s0), .val (.ref b6), .val .null, .val (.ref b8), .val (.int (1 : Int32)), .unset, .unset, .unset, .unset] [(.ref b8)])) _
    refine XS.astore X13.here hx rfl (hb hby at_108) rfl rfl (l' := #[.val (.int p1), .val (.int p2), .val (.int p3), .val (.int p4), .val (.int p5), .val (.int v12_s0), .val (.int v27_s0), .val (.ref b6), .val .null, .val (.ref b8), .val (.int (1 : Int32)), .val (.ref b8), .unset, .unset, .unset]) rfl ?_
    show Steps p.tables e below (T13.setTop (mkF m 110 #[.val (.int p1), .val (.int p2), .val (.int p3), .val (.int p4), .val (.int p5), .val (.int v12_s0), .val (.int v27_s0), .val (.ref b6), .val .null, .val (.ref b8), .val (.int (1 : Int32)), .val (.ref b8), .unset, .unset, .unset] [])) _
    refine XS.iload X13.here hx rfl (hb hby at_110) rfl ?_
    show Steps p.tables e below (T13.setTop (mkF m 112 #[.val (.int p1), .val (.int p2), .val (.int p3), .val (.int p4), .val (.int p5), .val (.int v12_s0), .val (.int v27_s0), .val (.ref b6), .val .null, .val (.ref b8), .val (.int (1 : Int32)), .val (.ref b8), .unset, .unset, .unset] [(.int (1 : Int32))])) _
    refine XS.ifNo X13.here hx rfl (hb hby at_112) rfl ((if0 _ _).trans (feq (by decide : ¬ ((1 : Int32) = (0 : Int32)))).1) ?_
    show Steps p.tables e below (T13.setTop (mkF m 115 #[.val (.int p1), .val (.int p2), .val (.int p3), .val (.int p4), .val (.int p5), .val (.int v12_s0), .val (.int v27_s0), .val (.ref b6), .val .null, .val (.ref b8), .val (.int (1 : Int32)), .val (.ref b8), .unset, .unset, .unset] [])) _
    refine XS.aload X13.here hx rfl (hb hby at_115) rfl rfl ?_
    show Steps p.tables e below (T13.setTop (mkF m 117 #[.val (.int p1), .val (.int p2), .val (.int p3), .val (.int p4), .val (.int p5), .val (.int v12_s0), .val (.int v27_s0), .val (.ref b6), .val .null, .val (.ref b8), .val (.int (1 : Int32)), .val (.ref b8), .unset, .unset, .unset] [(.ref b8)])) _
    refine XS.aload X13.here hx rfl (hb hby at_117) rfl rfl ?_
    show Steps p.tables e below (T13.setTop (mkF m 119 #[.val (.int p1), .val (.int p2), .val (.int p3), .val (.int p4), .val (.int p5), .val (.int v12_s0), .val (.int v27_s0), .val (.ref b6), .val .null, .val (.ref b8), .val (.int (1 : Int32)), .val (.ref b8), .unset, .unset, .unset] [(.ref b8), (.ref b8)])) _
    refine Jvm.RoadKit.acmp (g := (mkF m 119 #[.val (.int p1), .val (.int p2), .val (.int p3), .val (.int p4), .val (.int p5), .val (.int v12_s0), .val (.int v27_s0), .val (.ref b6), .val .null, .val (.ref b8), .val (.int (1 : Int32)), .val (.ref b8), .unset, .unset, .unset] [(.ref b8), (.ref b8)])) X13 hx rfl rfl rfl (pc0 := 119) (pc' := 122) (same := true) rfl (hb hby at_119) rfl (decide_eq_true rfl) (by decide) (by decide) ?_
    show Steps p.tables e below (T13.setTop (mkF m 122 #[.val (.int p1), .val (.int p2), .val (.int p3), .val (.int p4), .val (.int p5), .val (.int v12_s0), .val (.int v27_s0), .val (.ref b6), .val .null, .val (.ref b8), .val (.int (1 : Int32)), .val (.ref b8), .unset, .unset, .unset] [])) _
    refine XS.aload X13.here hx rfl (hb hby at_122) rfl rfl ?_
    show Steps p.tables e below (T13.setTop (mkF m 124 #[.val (.int p1), .val (.int p2), .val (.int p3), .val (.int p4), .val (.int p5), .val (.int v12_s0), .val (.int v27_s0), .val (.ref b6), .val .null, .val (.ref b8), .val (.int (1 : Int32)), .val (.ref b8), .unset, .unset, .unset] [(.ref b8)])) _
    refine st14.trans ?_
    show Steps p.tables e below (T14.setTop (mkF m 127 #[.val (.int p1), .val (.int p2), .val (.int p3), .val (.int p4), .val (.int p5), .val (.int v12_s0), .val (.int v27_s0), .val (.ref b6), .val .null, .val (.ref b8), .val (.int (1 : Int32)), .val (.ref b8), .unset, .unset, .unset] [(.int v12_s0)])) _
    refine XS.iload X14.here hx rfl (hb hby at_127) rfl ?_
    show Steps p.tables e below (T14.setTop (mkF m 129 #[.val (.int p1), .val (.int p2), .val (.int p3), .val (.int p4), .val (.int p5), .val (.int v12_s0), .val (.int v27_s0), .val (.ref b6), .val .null, .val (.ref b8), .val (.int (1 : Int32)), .val (.ref b8), .unset, .unset, .unset] [(.int v12_s0), (.int v12_s0)])) _
    refine XS.icmpNo X14.here hx rfl (hb hby at_129) rfl (teq (rfl : v12_s0 = v12_s0)).2 ?_
    show Steps p.tables e below (T14.setTop (mkF m 132 #[.val (.int p1), .val (.int p2), .val (.int p3), .val (.int p4), .val (.int p5), .val (.int v12_s0), .val (.int v27_s0), .val (.ref b6), .val .null, .val (.ref b8), .val (.int (1 : Int32)), .val (.ref b8), .unset, .unset, .unset] [])) _
    refine XS.aload X14.here hx rfl (hb hby at_132) rfl rfl ?_
    show Steps p.tables e below (T14.setTop (mkF m 134 #[.val (.int p1), .val (.int p2), .val (.int p3), .val (.int p4), .val (.int p5), .val (.int v12_s0), .val (.int v27_s0), .val (.ref b6), .val .null, .val (.ref b8), .val (.int (1 : Int32)), .val (.ref b8), .unset, .unset, .unset] [(.ref b8)])) _
    refine st15.trans ?_
    show Steps p.tables e below (T15.setTop (mkF m 137 #[.val (.int p1), .val (.int p2), .val (.int p3), .val (.int p4), .val (.int p5), .val (.int v12_s0), .val (.int v27_s0), .val (.ref b6), .val .null, .val (.ref b8), .val (.int (1 : Int32)), .val (.ref b8), .unset, .unset, .unset] [(.ref b6)])) _
    refine XS.aload X15.here hx rfl (hb hby at_137) rfl rfl ?_
    show Steps p.tables e below (T15.setTop (mkF m 139 #[.val (.int p1), .val (.int p2), .val (.int p3), .val (.int p4), .val (.int p5), .val (.int v12_s0), .val (.int v27_s0), .val (.ref b6), .val .null, .val (.ref b8), .val (.int (1 : Int32)), .val (.ref b8), .unset, .unset, .unset] [(.ref b6), (.ref b6)])) _
    refine Jvm.RoadKit.acmp (g := (mkF m 139 #[.val (.int p1), .val (.int p2), .val (.int p3), .val (.int p4), .val (.int p5), .val (.int v12_s0), .val (.int v27_s0), .val (.ref b6), .val .null, .val (.ref b8), .val (.int (1 : Int32)), .val (.ref b8), .unset, .unset, .unset] [(.ref b6), (.ref b6)])) X15 hx rfl rfl rfl (pc0 := 139) (pc' := 142) (same := true) rfl (hb hby at_139) rfl (decide_eq_true rfl) (by decide) (by decide) ?_
    show Steps p.tables e below (T15.setTop (mkF m 142 #[.val (.int p1), .val (.int p2), .val (.int p3), .val (.int p4), .val (.int p5), .val (.int v12_s0), .val (.int v27_s0), .val (.ref b6), .val .null, .val (.ref b8), .val (.int (1 : Int32)), .val (.ref b8), .unset, .unset, .unset] [])) _
    refine XS.iconst X15.here hx rfl (hb hby at_142) ?_
    show Steps p.tables e below (T15.setTop (mkF m 143 #[.val (.int p1), .val (.int p2), .val (.int p3), .val (.int p4), .val (.int p5), .val (.int v12_s0), .val (.int v27_s0), .val (.ref b6), .val .null, .val (.ref b8), .val (.int (1 : Int32)), .val (.ref b8), .unset, .unset, .unset] [(.int (1 : Int32))])) _
    refine XS.goto X15.here hx rfl (pc0 := 143) (pc' := 147) rfl (hb hby at_143) (by decide) (by decide) ?_
    show Steps p.tables e below (T15.setTop (mkF m 147 #[.val (.int p1), .val (.int p2), .val (.int p3), .val (.int p4), .val (.int p5), .val (.int v12_s0), .val (.int v27_s0), .val (.ref b6), .val .null, .val (.ref b8), .val (.int (1 : Int32)), .val (.ref b8), .unset, .unset, .unset] [(.int (1 : Int32))])) _
    refine XS.istore X15.here hx rfl (hb hby at_147) rfl (l' := #[.val (.int p1), .val (.int p2), .val (.int p3), .val (.int p4), .val (.int p5), .val (.int v12_s0), .val (.int v27_s0), .val (.ref b6), .val .null, .val (.ref b8), .val (.int (1 : Int32)), .val (.ref b8), .unset, .unset, .unset]) rfl ?_
    show Steps p.tables e below (T15.setTop (mkF m 149 #[.val (.int p1), .val (.int p2), .val (.int p3), .val (.int p4), .val (.int p5), .val (.int v12_s0), .val (.int v27_s0), .val (.ref b6), .val .null, .val (.ref b8), .val (.int (1 : Int32)), .val (.ref b8), .unset, .unset, .unset] [])) _
    refine XS.aload X15.here hx rfl (hb hby at_149) rfl rfl ?_
    show Steps p.tables e below (T15.setTop (mkF m 151 #[.val (.int p1), .val (.int p2), .val (.int p3), .val (.int p4), .val (.int p5), .val (.int v12_s0), .val (.int v27_s0), .val (.ref b6), .val .null, .val (.ref b8), .val (.int (1 : Int32)), .val (.ref b8), .unset, .unset, .unset] [(.ref b8)])) _
    refine XS.aload X15.here hx rfl (hb hby at_151) rfl rfl ?_
    show Steps p.tables e below (T15.setTop (mkF m 153 #[.val (.int p1), .val (.int p2), .val (.int p3), .val (.int p4), .val (.int p5), .val (.int v12_s0), .val (.int v27_s0), .val (.ref b6), .val .null, .val (.ref b8), .val (.int (1 : Int32)), .val (.ref b8), .unset, .unset, .unset] [.null, (.ref b8)])) _
    refine XS.iload X15.here hx rfl (hb hby at_153) rfl ?_
    show Steps p.tables e below (T15.setTop (mkF m 155 #[.val (.int p1), .val (.int p2), .val (.int p3), .val (.int p4), .val (.int p5), .val (.int v12_s0), .val (.int v27_s0), .val (.ref b6), .val .null, .val (.ref b8), .val (.int (1 : Int32)), .val (.ref b8), .unset, .unset, .unset] [(.int v27_s0), .null, (.ref b8)])) _
    refine st16.trans ?_
    show Steps p.tables e below (T16.setTop (mkF m 158 #[.val (.int p1), .val (.int p2), .val (.int p3), .val (.int p4), .val (.int p5), .val (.int v12_s0), .val (.int v27_s0), .val (.ref b6), .val .null, .val (.ref b8), .val (.int (1 : Int32)), .val (.ref b8), .unset, .unset, .unset] [(.ref b8)])) _
    refine XS.astore X16.here hx rfl (hb hby at_158) rfl rfl (l' := #[.val (.int p1), .val (.int p2), .val (.int p3), .val (.int p4), .val (.int p5), .val (.int v12_s0), .val (.int v27_s0), .val (.ref b6), .val .null, .val (.ref b8), .val (.int (1 : Int32)), .val (.ref b8), .val (.ref b8), .unset, .unset]) rfl ?_
    show Steps p.tables e below (T16.setTop (mkF m 160 #[.val (.int p1), .val (.int p2), .val (.int p3), .val (.int p4), .val (.int p5), .val (.int v12_s0), .val (.int v27_s0), .val (.ref b6), .val .null, .val (.ref b8), .val (.int (1 : Int32)), .val (.ref b8), .val (.ref b8), .unset, .unset] [])) _
    refine XS.iload X16.here hx rfl (hb hby at_160) rfl ?_
    show Steps p.tables e below (T16.setTop (mkF m 162 #[.val (.int p1), .val (.int p2), .val (.int p3), .val (.int p4), .val (.int p5), .val (.int v12_s0), .val (.int v27_s0), .val (.ref b6), .val .null, .val (.ref b8), .val (.int (1 : Int32)), .val (.ref b8), .val (.ref b8), .unset, .unset] [(.int v12_s0)])) _
    refine XS.ifYes X16.here hx rfl (pc0 := 162) (pc' := 170) rfl (hb hby at_162) rfl ((if0 _ _).trans (feq hc162).2) (by decide) (by decide) ?_
    show Steps p.tables e below (T16.setTop (mkF m 170 #[.val (.int p1), .val (.int p2), .val (.int p3), .val (.int p4), .val (.int p5), .val (.int v12_s0), .val (.int v27_s0), .val (.ref b6), .val .null, .val (.ref b8), .val (.int (1 : Int32)), .val (.ref b8), .val (.ref b8), .unset, .unset] [])) _
    refine XS.iload X16.here hx rfl (hb hby at_170) rfl ?_
    show Steps p.tables e below (T16.setTop (mkF m 172 #[.val (.int p1), .val (.int p2), .val (.int p3), .val (.int p4), .val (.int p5), .val (.int v12_s0), .val (.int v27_s0), .val (.ref b6), .val .null, .val (.ref b8), .val (.int (1 : Int32)), .val (.ref b8), .val (.ref b8), .unset, .unset] [(.int v12_s0)])) _
    refine XS.istore X16.here hx rfl (hb hby at_172) rfl (l' := #[.val (.int p1), .val (.int p2), .val (.int p3), .val (.int p4), .val (.int p5), .val (.int v12_s0), .val (.int v27_s0), .val (.ref b6), .val .null, .val (.ref b8), .val (.int (1 : Int32)), .val (.ref b8), .val (.ref b8), .val (.int v12_s0), .unset]) rfl ?_
    show Steps p.tables e below (T16.setTop (mkF m 174 #[.val (.int p1), .val (.int p2), .val (.int p3), .val (.int p4), .val (.int p5), .val (.int v12_s0), .val (.int v27_s0), .val (.ref b6), .val .null, .val (.ref b8), .val (.int (1 : Int32)), .val (.ref b8), .val (.ref b8), .val (.int v12_s0), .unset] [])) _
    refine XS.iload X16.here hx rfl (hb hby at_174) rfl ?_
    show Steps p.tables e below (T16.setTop (mkF m 176 #[.val (.int p1), .val (.int p2), .val (.int p3), .val (.int p4), .val (.int p5), .val (.int v12_s0), .val (.int v27_s0), .val (.ref b6), .val .null, .val (.ref b8), .val (.int (1 : Int32)), .val (.ref b8), .val (.ref b8), .val (.int v12_s0), .unset] [(.int v12_s0)])) _
    refine XS.ifYes X16.here hx rfl (pc0 := 176) (pc' := 184) rfl (hb hby at_176) rfl ((if0 _ _).trans (feq hc176).2) (by decide) (by decide) ?_
    show Steps p.tables e below (T16.setTop (mkF m 184 #[.val (.int p1), .val (.int p2), .val (.int p3), .val (.int p4), .val (.int p5), .val (.int v12_s0), .val (.int v27_s0), .val (.ref b6), .val .null, .val (.ref b8), .val (.int (1 : Int32)), .val (.ref b8), .val (.ref b8), .val (.int v12_s0), .unset] [])) _
    refine XS.aload X16.here hx rfl (hb hby at_184) rfl rfl ?_
    show Steps p.tables e below (T16.setTop (mkF m 186 #[.val (.int p1), .val (.int p2), .val (.int p3), .val (.int p4), .val (.int p5), .val (.int v12_s0), .val (.int v27_s0), .val (.ref b6), .val .null, .val (.ref b8), .val (.int (1 : Int32)), .val (.ref b8), .val (.ref b8), .val (.int v12_s0), .unset] [(.ref b6)])) _
    refine XS.astore X16.here hx rfl (hb hby at_186) rfl rfl (l' := #[.val (.int p1), .val (.int p2), .val (.int p3), .val (.int p4), .val (.int p5), .val (.int v12_s0), .val (.int v27_s0), .val (.ref b6), .val .null, .val (.ref b8), .val (.int (1 : Int32)), .val (.ref b8), .val (.ref b8), .val (.int v12_s0), .val (.ref b6)]) rfl ?_
    show Steps p.tables e below (T16.setTop (mkF m 188 #[.val (.int p1), .val (.int p2), .val (.int p3), .val (.int p4), .val (.int p5), .val (.int v12_s0), .val (.int v27_s0), .val (.ref b6), .val .null, .val (.ref b8), .val (.int (1 : Int32)), .val (.ref b8), .val (.ref b8), .val (.int v12_s0), .val (.ref b6)] [])) _
    refine XS.iload X16.here hx rfl (hb hby at_188) rfl ?_
    show Steps p.tables e below (T16.setTop (mkF m 190 #[.val (.int p1), .val (.int p2), .val (.int p3), .val (.int p4), .val (.int p5), .val (.int v12_s0), .val (.int v27_s0), .val (.ref b6), .val .null, .val (.ref b8), .val (.int (1 : Int32)), .val (.ref b8), .val (.ref b8), .val (.int v12_s0), .val (.ref b6)] [(.int (1 : Int32))])) _
    refine XS.ifNo X16.here hx rfl (hb hby at_190) rfl ((if0 _ _).trans (feq (by decide : ¬ ((1 : Int32) = (0 : Int32)))).1) ?_
    show Steps p.tables e below (T16.setTop (mkF m 193 #[.val (.int p1), .val (.int p2), .val (.int p3), .val (.int p4), .val (.int p5), .val (.int v12_s0), .val (.int v27_s0), .val (.ref b6), .val .null, .val (.ref b8), .val (.int (1 : Int32)), .val (.ref b8), .val (.ref b8), .val (.int v12_s0), .val (.ref b6)] [])) _
    refine XS.aload X16.here hx rfl (hb hby at_193) rfl rfl ?_
    show Steps p.tables e below (T16.setTop (mkF m 195 #[.val (.int p1), .val (.int p2), .val (.int p3), .val (.int p4), .val (.int p5), .val (.int v12_s0), .val (.int v27_s0), .val (.ref b6), .val .null, .val (.ref b8), .val (.int (1 : Int32)), .val (.ref b8), .val (.ref b8), .val (.int v12_s0), .val (.ref b6)] [(.ref b8)])) _
    refine XS.aload X16.here hx rfl (hb hby at_195) rfl rfl ?_
    show Steps p.tables e below (T16.setTop (mkF m 197 #[.val (.int p1), .val (.int p2), .val (.int p3), .val (.int p4), .val (.int p5), .val (.int v12_s0), .val (.int v27_s0), .val (.ref b6), .val .null, .val (.ref b8), .val (.int (1 : Int32)), .val (.ref b8), .val (.ref b8), .val (.int v12_s0), .val (.ref b6)] [(.ref b8), (.ref b8)])) _
    refine Jvm.RoadKit.acmp (g := (mkF m 197 #[.val (.int p1), .val (.int p2), .val (.int p3), .val (.int p4), .val (.int p5), .val (.int v12_s0), .val (.int v27_s0), .val (.ref b6), .val .null, .val (.ref b8), .val (.int (1 : Int32)), .val (.ref b8), .val (.ref b8), .val (.int v12_s0), .val (.ref b6)] [(.ref b8), (.ref b8)])) X16 hx rfl rfl rfl (pc0 := 197) (pc' := 200) (same := true) rfl (hb hby at_197) rfl (decide_eq_true rfl) (by decide) (by decide) ?_
    show Steps p.tables e below (T16.setTop (mkF m 200 #[.val (.int p1), .val (.int p2), .val (.int p3), .val (.int p4), .val (.int p5), .val (.int v12_s0), .val (.int v27_s0), .val (.ref b6), .val .null, .val (.ref b8), .val (.int (1 : Int32)), .val (.ref b8), .val (.ref b8), .val (.int v12_s0), .val (.ref b6)] [])) _
    refine XS.aload X16.here hx rfl (hb hby at_200) rfl rfl ?_
    show Steps p.tables e below (T16.setTop (mkF m 202 #[.val (.int p1), .val (.int p2), .val (.int p3), .val (.int p4), .val (.int p5), .val (.int v12_s0), .val (.int v27_s0), .val (.ref b6), .val .null, .val (.ref b8), .val (.int (1 : Int32)), .val (.ref b8), .val (.ref b8), .val (.int v12_s0), .val (.ref b6)] [(.ref b8)])) _
    refine st17.trans ?_
    show Steps p.tables e below (T17.setTop (mkF m 205 #[.val (.int p1), .val (.int p2), .val (.int p3), .val (.int p4), .val (.int p5), .val (.int v12_s0), .val (.int v27_s0), .val (.ref b6), .val .null, .val (.ref b8), .val (.int (1 : Int32)), .val (.ref b8), .val (.ref b8), .val (.int v12_s0), .val (.ref b6)] [(.int v12_s0)])) _
    refine XS.iload X17.here hx rfl (hb hby at_205) rfl ?_
    show Steps p.tables e below (T17.setTop (mkF m 207 #[.val (.int p1), .val (.int p2), .val (.int p3), .val (.int p4), .val (.int p5), .val (.int v12_s0), .val (.int v27_s0), .val (.ref b6), .val .null, .val (.ref b8), .val (.int (1 : Int32)), .val (.ref b8), .val (.ref b8), .val (.int v12_s0), .val (.ref b6)] [(.int v12_s0), (.int v12_s0)])) _
    refine XS.icmpNo X17.here hx rfl (hb hby at_207) rfl (teq (rfl : v12_s0 = v12_s0)).2 ?_
    show Steps p.tables e below (T17.setTop (mkF m 210 #[.val (.int p1), .val (.int p2), .val (.int p3), .val (.int p4), .val (.int p5), .val (.int v12_s0), .val (.int v27_s0), .val (.ref b6), .val .null, .val (.ref b8), .val (.int (1 : Int32)), .val (.ref b8), .val (.ref b8), .val (.int v12_s0), .val (.ref b6)] [])) _
    refine XS.aload X17.here hx rfl (hb hby at_210) rfl rfl ?_
    show Steps p.tables e below (T17.setTop (mkF m 212 #[.val (.int p1), .val (.int p2), .val (.int p3), .val (.int p4), .val (.int p5), .val (.int v12_s0), .val (.int v27_s0), .val (.ref b6), .val .null, .val (.ref b8), .val (.int (1 : Int32)), .val (.ref b8), .val (.ref b8), .val (.int v12_s0), .val (.ref b6)] [(.ref b8)])) _
    refine st18.trans ?_
    show Steps p.tables e below (T18.setTop (mkF m 215 #[.val (.int p1), .val (.int p2), .val (.int p3), .val (.int p4), .val (.int p5), .val (.int v12_s0), .val (.int v27_s0), .val (.ref b6), .val .null, .val (.ref b8), .val (.int (1 : Int32)), .val (.ref b8), .val (.ref b8), .val (.int v12_s0), .val (.ref b6)] [(.ref b6)])) _
    refine XS.aload X18.here hx rfl (hb hby at_215) rfl rfl ?_
    show Steps p.tables e below (T18.setTop (mkF m 217 #[.val (.int p1), .val (.int p2), .val (.int p3), .val (.int p4), .val (.int p5), .val (.int v12_s0), .val (.int v27_s0), .val (.ref b6), .val .null, .val (.ref b8), .val (.int (1 : Int32)), .val (.ref b8), .val (.ref b8), .val (.int v12_s0), .val (.ref b6)] [(.ref b6), (.ref b6)])) _
    refine Jvm.RoadKit.acmp (g := (mkF m 217 #[.val (.int p1), .val (.int p2), .val (.int p3), .val (.int p4), .val (.int p5), .val (.int v12_s0), .val (.int v27_s0), .val (.ref b6), .val .null, .val (.ref b8), .val (.int (1 : Int32)), .val (.ref b8), .val (.ref b8), .val (.int v12_s0), .val (.ref b6)] [(.ref b6), (.ref b6)])) X18 hx rfl rfl rfl (pc0 := 217) (pc' := 220) (same := true) rfl (hb hby at_217) rfl (decide_eq_true rfl) (by decide) (by decide) ?_
    show Steps p.tables e below (T18.setTop (mkF m 220 #[.val (.int p1), .val (.int p2), .val (.int p3), .val (.int p4), .val (.int p5), .val (.int v12_s0), .val (.int v27_s0), .val (.ref b6), .val .null, .val (.ref b8), .val (.int (1 : Int32)), .val (.ref b8), .val (.ref b8), .val (.int v12_s0), .val (.ref b6)] [])) _
    refine XS.iconst X18.here hx rfl (hb hby at_220) ?_
    show Steps p.tables e below (T18.setTop (mkF m 221 #[.val (.int p1), .val (.int p2), .val (.int p3), .val (.int p4), .val (.int p5), .val (.int v12_s0), .val (.int v27_s0), .val (.ref b6), .val .null, .val (.ref b8), .val (.int (1 : Int32)), .val (.ref b8), .val (.ref b8), .val (.int v12_s0), .val (.ref b6)] [(.int (1 : Int32))])) _
    refine XS.goto X18.here hx rfl (pc0 := 221) (pc' := 225) rfl (hb hby at_221) (by decide) (by decide) ?_
    show Steps p.tables e below (T18.setTop (mkF m 225 #[.val (.int p1), .val (.int p2), .val (.int p3), .val (.int p4), .val (.int p5), .val (.int v12_s0), .val (.int v27_s0), .val (.ref b6), .val .null, .val (.ref b8), .val (.int (1 : Int32)), .val (.ref b8), .val (.ref b8), .val (.int v12_s0), .val (.ref b6)] [(.int (1 : Int32))])) _
    refine XS.istore X18.here hx rfl (hb hby at_225) rfl (l' := #[.val (.int p1), .val (.int p2), .val (.int p3), .val (.int p4), .val (.int p5), .val (.int v12_s0), .val (.int v27_s0), .val (.ref b6), .val .null, .val (.ref b8), .val (.int (1 : Int32)), .val (.ref b8), .val (.ref b8), .val (.int v12_s0), .val (.ref b6)]) rfl ?_
    show Steps p.tables e below (T18.setTop (mkF m 227 #[.val (.int p1), .val (.int p2), .val (.int p3), .val (.int p4), .val (.int p5), .val (.int v12_s0), .val (.int v27_s0), .val (.ref b6), .val .null, .val (.ref b8), .val (.int (1 : Int32)), .val (.ref b8), .val (.ref b8), .val (.int v12_s0), .val (.ref b6)] [])) _
    refine XS.iload X18.here hx rfl (hb hby at_227) rfl ?_
    show Steps p.tables e below (T18.setTop (mkF m 229 #[.val (.int p1), .val (.int p2), .val (.int p3), .val (.int p4), .val (.int p5), .val (.int v12_s0), .val (.int v27_s0), .val (.ref b6), .val .null, .val (.ref b8), .val (.int (1 : Int32)), .val (.ref b8), .val (.ref b8), .val (.int v12_s0), .val (.ref b6)] [(.int (1 : Int32))])) _
    exact retN X18 hx (t := .boolean) Bd.returns (by simp) (hb hby at_229) hr
  · show Q0rnt Z p1 p2 p3 p4 p5 v12_s0 v27_s0 h0 n0 _ T18.heap _
    rw [e18]
    exact ⟨rfl, N18⟩
def Q0nrz (Z : State) (p1 : Int32) (p2 : Int32) (p3 : Int32) (p4 : Int32) (p5 : Int32) (v12_s0 : Int32) (v27_s0 : Int32) (h0 : Heap) (n0 : Nat) (v : Option Value) (h : Heap) (L : List Loc) : Prop := v = some (.int (1 : Int32)) ∧ Fr n0 L
set_option maxRecDepth 65536 in
set_option maxHeartbeats 40000000 in
theorem rm0nrz (l : Launch) (Z : State) (a0 : Array Value) (hw : ∀ d ∈ tables_1, d.before a0 Z = true) (ws : List Jvm.Cond) (p1 : Int32) (p2 : Int32) (p3 : Int32) (p4 : Int32) (p5 : Int32) (v12_s0 : Int32) (v27_s0 : Int32) (zc : Int32) (h0 : Heap) (n0 : Nat) (Z0 : n0 ≤ h0.size) (hv12_s0 : v12_s0 = (if (p5 &&& (1 : Int32)) = (0 : Int32) then p1 else (0 : Int32))) (hv27_s0 : v27_s0 = (if (p5 &&& (8 : Int32)) = (0 : Int32) then p2 else (0 : Int32))) (O0 : Old Z n0 h0) (hc34 : ¬ ((p5 &&& (2 : Int32)) = (0 : Int32))) (hc52 : (p5 &&& (4 : Int32)) = (0 : Int32)) (hc162 : v12_s0 = (0 : Int32)) (hc176 : v12_s0 = (0 : Int32)) (hlT : l.stackTraces = true) (S0 : own_St Z Z.heap) (S_cs : Sta Z Z.heap "java/lang/String" "COMPACT_STRINGS" "Z" (.int zc)) (hcs : ¬ (zc = (0 : Int32))) (wS : ∀ a ∈ Bundle.stringAtoms, a.before a0 Z = true) (hz0 : h0 = Z.heap) :
    MetFree l x (head1 (Jvm.Cond.code x code maxLocals ret :: ws) room_1) (fun a U => a = #[(.int p1), (.int p2), (.int p3), (.int p4), (.int p5)] ∧ U.vm = Z.vm ∧ U.heap = h0) (fun _ _ B U _ => U.vm.MethodsKnown ∧ U.vm.FramesKnown B) (fun _ U o U' => ∃ v L, o = .returned v ∧ Q0nrz Z p1 p2 p3 p4 p5 v12_s0 v27_s0 h0 n0 v U'.heap L ∧ ReturnedEndW U o U' L room_1.cells room_1.slots) := by
  refine MetFree.of_bodySF (plainFor_of_name pn_0) hisR ?_
  intro p e s m args below meth c s₁ Bd hml0 hP hK
  obtain ⟨rfl, hU, hh⟩ := hP
  obtain ⟨hTK, hBK⟩ := hK
  rw [hU] at hTK hBK
  have hZ : Z.Warmed39 (s.setVm s.vm).vm := by
    show Z.Warmed39 s.vm
    rw [hU]; exact State.Warmed39.refl Z
  have hx := Bd.exec
  have hby := Bd.bytes
  have hml : c.maxLocals = 15 := hml0
  have hown : (s.setVm s.vm).vm.findClass "nephrite/EvaluationExceptionOnPinLaw" = some m.cls := findClass_of_methodNamed Bd.named
  have hnm := (name_of_methodNamed Bd.named Bd.method).1
  have X0 : Stand p l e room_1 (s.setVm s.vm) m #[(.int p1), (.int p2), (.int p3), (.int p4), (.int p5)] below meth c s₁ [] 0 0 := Stand.of_body Bd
  have e0 : s₁.heap = h0 := by rw [← hh, Bd.state]; rfl
  have N0 := Fr.nil n0
  have hS : s.Since s.vm h0.size := (State.WarmedH.refl s).since _
  have hk : h0.size ≤ h0.size := Nat.le_refl _
  have pre0 : ∀ t, Steps p.tables e below (s₁.setTop (mkF m 0 #[.val (.int p1), .val (.int p2), .val (.int p3), .val (.int p4), .val (.int p5), .unset, .unset, .unset, .unset, .unset, .unset, .unset, .unset, .unset, .unset] [])) t → Steps p.tables e below (s₁.setTop (entryFrame m #[(.int p1), (.int p2), (.int p3), (.int p4), (.int p5)] maxLocals)) t := fun t k => castTop (ef_0 m p1 p2 p3 p4 p5) k
  have sg4 : ∀ t, Steps p.tables e below (s₁.setTop (mkF m 12 #[.val (.int p1), .val (.int p2), .val (.int p3), .val (.int p4), .val (.int p5), .unset, .unset, .unset, .unset, .unset, .unset, .unset, .unset, .unset, .unset] [(.int v12_s0)])) t → Steps p.tables e below (s₁.setTop (mkF m 4 #[.val (.int p1), .val (.int p2), .val (.int p3), .val (.int p4), .val (.int p5), .unset, .unset, .unset, .unset, .unset, .unset, .unset, .unset, .unset, .unset] [(.int (p5 &&& (1 : Int32)))])) t := by
    intro t kt
    show Steps p.tables e below (s₁.setTop (mkF m 4 #[.val (.int p1), .val (.int p2), .val (.int p3), .val (.int p4), .val (.int p5), .unset, .unset, .unset, .unset, .unset, .unset, .unset, .unset, .unset, .unset] [(.int (p5 &&& (1 : Int32)))])) _
    by_cases hm4 : (p5 &&& (1 : Int32)) = (0 : Int32)
    · rw [show v12_s0 = p1 by rw [hv12_s0, if_pos hm4]] at kt
      refine XS.ifYes X0.here hx rfl (pc0 := 4) (pc' := 11) rfl (hb hby at_4) rfl ((if0 _ _).trans (teq hm4).1) (by decide) (by decide) ?_
      show Steps p.tables e below (s₁.setTop (mkF m 11 #[.val (.int p1), .val (.int p2), .val (.int p3), .val (.int p4), .val (.int p5), .unset, .unset, .unset, .unset, .unset, .unset, .unset, .unset, .unset, .unset] [])) _
      refine XS.iloadN X0.here hx rfl (hb hby at_11) rfl ?_
      exact kt
    · rw [show v12_s0 = (0 : Int32) by rw [hv12_s0, if_neg hm4]] at kt
      refine XS.ifNo X0.here hx rfl (hb hby at_4) rfl ((if0 _ _).trans (feq hm4).1) ?_
      show Steps p.tables e below (s₁.setTop (mkF m 7 #[.val (.int p1), .val (.int p2), .val (.int p3), .val (.int p4), .val (.int p5), .unset, .unset, .unset, .unset, .unset, .unset, .unset, .unset, .unset, .unset] [])) _
      refine XS.iconst X0.here hx rfl (hb hby at_7) ?_
      show Steps p.tables e below (s₁.setTop (mkF m 8 #[.val (.int p1), .val (.int p2), .val (.int p3), .val (.int p4), .val (.int p5), .unset, .unset, .unset, .unset, .unset, .unset, .unset, .unset, .unset, .unset] [(.int (0 : Int32))])) _
      refine XS.goto X0.here hx rfl (pc0 := 8) (pc' := 12) rfl (hb hby at_8) (by decide) (by decide) ?_
      exact kt
  have sg19 : ∀ t, Steps p.tables e below (s₁.setTop (mkF m 27 #[.val (.int p1), .val (.int p2), .val (.int p3), .val (.int p4), .val (.int p5), .val (.int v12_s0), .unset, .unset, .unset, .unset, .unset, .unset, .unset, .unset, .unset] [(.int v27_s0)])) t → Steps p.tables e below (s₁.setTop (mkF m 19 #[.val (.int p1), .val (.int p2), .val (.int p3), .val (.int p4), .val (.int p5), .val (.int v12_s0), .unset, .unset, .unset, .unset, .unset, .unset, .unset, .unset, .unset] [(.int (p5 &&& (8 : Int32)))])) t := by
    intro t kt
    show Steps p.tables e below (s₁.setTop (mkF m 19 #[.val (.int p1), .val (.int p2), .val (.int p3), .val (.int p4), .val (.int p5), .val (.int v12_s0), .unset, .unset, .unset, .unset, .unset, .unset, .unset, .unset, .unset] [(.int (p5 &&& (8 : Int32)))])) _
    by_cases hm19 : (p5 &&& (8 : Int32)) = (0 : Int32)
    · rw [show v27_s0 = p2 by rw [hv27_s0, if_pos hm19]] at kt
      refine XS.ifYes X0.here hx rfl (pc0 := 19) (pc' := 26) rfl (hb hby at_19) rfl ((if0 _ _).trans (teq hm19).1) (by decide) (by decide) ?_
      show Steps p.tables e below (s₁.setTop (mkF m 26 #[.val (.int p1), .val (.int p2), .val (.int p3), .val (.int p4), .val (.int p5), .val (.int v12_s0), .unset, .unset, .unset, .unset, .unset, .unset, .unset, .unset, .unset] [])) _
      refine XS.iloadN X0.here hx rfl (hb hby at_26) rfl ?_
      exact kt
    · rw [show v27_s0 = (0 : Int32) by rw [hv27_s0, if_neg hm19]] at kt
      refine XS.ifNo X0.here hx rfl (hb hby at_19) rfl ((if0 _ _).trans (feq hm19).1) ?_
      show Steps p.tables e below (s₁.setTop (mkF m 22 #[.val (.int p1), .val (.int p2), .val (.int p3), .val (.int p4), .val (.int p5), .val (.int v12_s0), .unset, .unset, .unset, .unset, .unset, .unset, .unset, .unset, .unset] [])) _
      refine XS.iconst X0.here hx rfl (hb hby at_22) ?_
      show Steps p.tables e below (s₁.setTop (mkF m 23 #[.val (.int p1), .val (.int p2), .val (.int p3), .val (.int p4), .val (.int p5), .val (.int v12_s0), .unset, .unset, .unset, .unset, .unset, .unset, .unset, .unset, .unset] [(.int (0 : Int32))])) _
      refine XS.goto X0.here hx rfl (pc0 := 23) (pc' := 27) rfl (hb hby at_23) (by decide) (by decide) ?_
      exact kt
  obtain ⟨_, _, ⟨T6, L6, k6, n6⟩, -, X6, ⟨Lc6, hQ6, l6, y6, z6⟩, st6⟩ := Jvm.LawKit.callS X0 hx (y := (⟨"nephrite/EvaluationExceptionOnPinLaw", "name", "(IZ)Ljava/lang/String;"⟩ : MethodName)) hown (mvT hZ (hw _ (List.mem_of_getElem? (i := 0) rfl))) (mvT hZ (hw _ (List.mem_of_getElem? (i := 1) rfl))) (mvT hZ (hw _ (List.mem_of_getElem? (i := 2) rfl))) (mvT hZ (hw _ (List.mem_of_getElem? (i := 3) rfl))) (by decide) (backOf (W := 0) (rm1n l Z a0 hw [] p3 (1 : Int32)  h0 n0 Z0 (by decide)) hZ (hw _ (List.mem_of_getElem? (i := 3) rfl)) (hw _ (List.mem_of_getElem? (i := 2) rfl)) (by decide) (by decide)) (g := (mkF m 42 #[.val (.int p1), .val (.int p2), .val (.int p3), .val (.int p4), .val (.int p5), .val (.int v12_s0), .val (.int v27_s0), .unset, .unset, .unset, .unset, .unset, .unset, .unset, .unset] [(.int (1 : Int32)), (.int p3)])) rfl (by rw [hml]; rfl) (argsL := [(.int p3), (.int (1 : Int32))]) (rest := []) (lenOf pd_0_0 rfl) rfl (by show 2 * 0 + _ ≤ _; exact Nat.le_of_eq rfl) (hb hby at_42) (fun _ _ => ⟨rfl, e0, (by decide : 0 + 0 ≤ _), (by decide : 0 + 0 ≤ _)⟩)
  dsimp only [Pt.U, Pt.locs, Pt.cells, Pt.slots] at X6 l6 y6 z6 st6 hQ6
  subst l6 y6 z6
  obtain ⟨rfl, N6q, e6⟩ := hQ6
  have N6 := Fr.app N0 N6q
  obtain ⟨_, _, ⟨T7, L7, k7, n7⟩, -, X7, ⟨Lc7, hQ7, l7, y7, z7⟩, st7⟩ := Jvm.LawKit.callS X6 hx (y := (⟨"nephrite/EvaluationExceptionOnPinLaw", "name", "(IZ)Ljava/lang/String;"⟩ : MethodName)) hown (mvT hZ (hw _ (List.mem_of_getElem? (i := 0) rfl))) (mvT hZ (hw _ (List.mem_of_getElem? (i := 1) rfl))) (mvT hZ (hw _ (List.mem_of_getElem? (i := 2) rfl))) (mvT hZ (hw _ (List.mem_of_getElem? (i := 3) rfl))) (by decide) (backOf (W := 0) (rm1 l Z a0 hw [] p4 (0 : Int32) zc h0 n0 Z0 S_cs hcs O0 rfl) hZ (hw _ (List.mem_of_getElem? (i := 3) rfl)) (hw _ (List.mem_of_getElem? (i := 2) rfl)) (by decide) (by decide)) (g := (mkF m 60 #[.val (.int p1), .val (.int p2), .val (.int p3), .val (.int p4), .val (.int p5), .val (.int v12_s0), .val (.int v27_s0), .val .null, .unset, .unset, .unset, .unset, .unset, .unset, .unset] [(.int (0 : Int32)), (.int p4)])) rfl (by rw [hml]; rfl) (argsL := [(.int p4), (.int (0 : Int32))]) (rest := []) (lenOf pd_0_0 rfl) rfl (by show 2 * 0 + _ ≤ _; exact Nat.le_of_eq rfl) (hb hby at_60) (fun _ _ => ⟨rfl, e6, (by decide : 0 + 3 ≤ _), (by decide : 0 + 6 ≤ _)⟩)
  dsimp only [Pt.U, Pt.locs, Pt.cells, Pt.slots] at X7 l7 y7 z7 st7 hQ7
  subst l7 y7 z7
  obtain ⟨b7, rfl, N7q, K7c, g_b7, s7b, Ec7⟩ := hQ7
  have N7 := Fr.app N6 N7q
  have sz_b7 : h0.size ≤ b7 := Nat.le_trans (Keep.refl h0 []).1 s7b
  have K7 : Keep h0 T7.heap [] := (Keep.refl h0 []).trans K7c all0
  obtain ⟨T8, h8, X8, e8, E8, A8, D8, U8, st8⟩ := newO X7 hx hZ hown (hw _ (List.mem_of_getElem? (i := 34) rfl)) (hw _ (List.mem_of_getElem? (i := 35) rfl)) (hw _ (List.mem_of_getElem? (i := 36) rfl)) rfl (g := (mkF m 65 #[.val (.int p1), .val (.int p2), .val (.int p3), .val (.int p4), .val (.int p5), .val (.int v12_s0), .val (.int v27_s0), .val .null, .val (.ref b7), .unset, .unset, .unset, .unset, .unset, .unset] [])) rfl (hb hby at_65) (by decide) (by decide)
  obtain ⟨b8, g8⟩ : ∃ z, z = T7.heap.size := ⟨_, rfl⟩
  rw [← g8] at A8 D8 st8
  have F_cause_b8 : Fld Z h8 b8 "java/lang/Throwable" "cause" "Ljava/lang/Throwable;" .null := D8 (Or.inl (hw _ (List.mem_of_getElem? (i := 62) rfl))) (ty := (.object "java/lang/Throwable")) (by decide)
  have F_stackTrace_b8 : Fld Z h8 b8 "java/lang/Throwable" "stackTrace" "[Ljava/lang/StackTraceElement;" .null := D8 (Or.inl (hw _ (List.mem_of_getElem? (i := 65) rfl))) (ty := (.array (.object "java/lang/StackTraceElement"))) (by decide)
  have F_suppressedExceptions_b8 : Fld Z h8 b8 "java/lang/Throwable" "suppressedExceptions" "Ljava/util/List;" .null := D8 (Or.inl (hw _ (List.mem_of_getElem? (i := 68) rfl))) (ty := (.object "java/util/List")) (by decide)
  have F_detailMessage_b8 : Fld Z h8 b8 "java/lang/Throwable" "detailMessage" "Ljava/lang/String;" .null := D8 (Or.inl (hw _ (List.mem_of_getElem? (i := 92) rfl))) (ty := (.object "java/lang/String")) (by decide)
  have F_backtrace_b8 : Fld Z h8 b8 "java/lang/Throwable" "backtrace" "Ljava/lang/Object;" .null := D8 (Or.inl (hw _ (List.mem_of_getElem? (i := 93) rfl))) (ty := (.object "java/lang/Object")) (by decide)
  have F_depth_b8 : Fld Z h8 b8 "java/lang/Throwable" "depth" "I" (.int (0 : Int32)) := D8 (Or.inl (hw _ (List.mem_of_getElem? (i := 94) rfl))) (ty := .int) (by decide)
  have F_line_b8 : Fld Z h8 b8 "nephrite/EvaluationException" "line" "I" (.int (0 : Int32)) := D8 (Or.inl (hw _ (List.mem_of_getElem? (i := 103) rfl))) (ty := .int) (by decide)
  have F_templateName_b8 : Fld Z h8 b8 "nephrite/EvaluationException" "templateName" "Ljava/lang/String;" .null := D8 (Or.inl (hw _ (List.mem_of_getElem? (i := 110) rfl))) (ty := (.object "java/lang/String")) (by decide)
  have U_b8 : Unt h8 b8 := by rw [g8]; exact U8
  have E_b8 := A8
  have g_b8 : n0 ≤ b8 := Nat.le_trans (Nat.le_trans Z0 K7c.1) (Nat.le_of_eq g8.symm)
  have sz_b8 : h0.size ≤ b8 := (Nat.le_trans K7.1 (Nat.le_of_eq g8.symm))
  have K8 : Keep h0 h8 [] := K7.ext E8
  obtain ⟨b9, T9, h9, q9, X9, e9, E9, hS, hk, hZ, hown, hC9, -, st9⟩ := ldcOH X8 hx hZ hown (hw _ (List.mem_of_getElem? (i := 37) rfl)) wS e8 hS (Nat.le_trans hk K8.1) (EW.nil : EW Z a0 []) (fun _ q => by cases q) (g := (mkF m 69 #[.val (.int p1), .val (.int p2), .val (.int p3), .val (.int p4), .val (.int p5), .val (.int v12_s0), .val (.int v27_s0), .val .null, .val (.ref b7), .unset, .unset, .unset, .unset, .unset, .unset] [(.ref b8), (.ref b8)])) rfl (hb hby at_69) (n := 4) (by decide) (by decide) (by decide) (by decide)
  have H := hC9.1
  have K9 : Keep h0 h9 [] := K8.ext E9
  obtain ⟨_, _, ⟨T10, L10, k10, n10⟩, -, X10, ⟨Lc10, hQ10, l10, y10, z10⟩, st10⟩ := X9.specialBack hx (y := (⟨"nephrite/EvaluationException", "<init>", "(Ljava/lang/String;)V"⟩ : MethodName)) rfl hown (mvT hZ (hw _ (List.mem_of_getElem? (i := 40) rfl))) (mvT hZ (hw _ (List.mem_of_getElem? (i := 41) rfl))) (mvT hZ (hw _ (List.mem_of_getElem? (i := 42) rfl))) (by decide) (own_backK (W := 1) (rm8 l Z a0 hw [] b8 b9  h9 n0 (Nat.le_trans (Nat.le_trans (Nat.le_trans Z0 K7c.1) E8.1) E9.1) g_b8 hlT ⟨(E_b8.ext E9), (U_b8.ext E9), ⟨_, (F_cause_b8.ext E9)⟩, ⟨_, (F_stackTrace_b8.ext E9)⟩, ⟨_, (F_suppressedExceptions_b8.ext E9)⟩, (F_backtrace_b8.ext E9), _, (F_detailMessage_b8.ext E9)⟩ (own_St_old S0 (O0.keep K9 all0))) hZ (hw _ (List.mem_of_getElem? (i := 42) rfl)) (hw _ (List.mem_of_getElem? (i := 36) rfl)) (Vm.MethodsKnown.alikeC hZ.alike hTK) (Vm.FramesKnown.alikeC hZ.alike hBK) (by decide) (by decide)) (g := (mkF m 71 #[.val (.int p1), .val (.int p2), .val (.int p3), .val (.int p4), .val (.int p5), .val (.int v12_s0), .val (.int v27_s0), .val .null, .val (.ref b7), .unset, .unset, .unset, .unset, .unset, .unset] [(.ref b9), (.ref b8), (.ref b8)])) rfl (by rw [hml]; rfl) (Steps.refl _) (a := b8) (argsL := [(.ref b9)]) (rest := [(.ref b8)]) (lenOf pd_0_7 rfl) rfl (by show 2 * 0 + _ ≤ _; exact Nat.le_of_eq rfl) (hb hby at_71) (fun _ _ => ⟨rfl, e9, (by decide : 6 + 1 ≤ _), (by decide : 22 + 2752 ≤ _)⟩)
  dsimp only [Pt.U, Pt.locs, Pt.cells, Pt.slots] at X10 l10 y10 z10 st10 hQ10
  subst l10 y10 z10
  obtain ⟨rfl, N10q, Kp10⟩ := hQ10
  have N10 := Fr.app N7 N10q
  have K10c := keep_of_kp Kp10
  have K10 : Keep h0 T10.heap [] := K9.trans K10c (allS (Or.inr sz_b8) all0)
  have Ec10 := (E_b8.ext E9).kp Kp10
  have Fk10_line := Fld.kp Kp10 (F_line_b8.ext E9) (Or.inr (own_six_ne hw (Or.inl (hw _ (List.mem_of_getElem? (i := 103) rfl))) (ty := .int) (by decide) (by decide)))
  have Fk10_templateName := Fld.kp Kp10 (F_templateName_b8.ext E9) (Or.inr (own_six_ne hw (Or.inl (hw _ (List.mem_of_getElem? (i := 110) rfl))) (ty := (.object "java/lang/String")) (by decide) (by decide)))
  obtain ⟨cq11, kq11, q11a, q11b, q11c⟩ := isOf hZ rfl Ec10
  obtain ⟨_, _, ⟨T11, L11, k11, n11⟩, -, X11, ⟨Lc11, hQ11, l11, y11, z11⟩, st11⟩ := X10.virtualBack hx (y := (⟨"nephrite/EvaluationException", "line", "()I"⟩ : MethodName)) (z := (⟨"nephrite/EvaluationException", "line", "()I"⟩ : MethodName)) hown (mvT hZ (hw _ (List.mem_of_getElem? (i := 97) rfl))) (mvT hZ (hw _ (List.mem_of_getElem? (i := 98) rfl))) (notFace_of_selects (args := #[]) (mvT hZ (hw _ (List.mem_of_getElem? (i := 100) rfl)))) (mvT hZ (hw _ (List.mem_of_getElem? (i := 100) rfl))) (mvT hZ (hw _ (List.mem_of_getElem? (i := 99) rfl))) (by decide) (backOf (W := 0) (rm14 l Z a0 hw [] b8 (0 : Int32) T10.heap n0 (Nat.le_trans (Nat.le_trans (Nat.le_trans (Nat.le_trans Z0 K7c.1) E8.1) E9.1) K10c.1) Fk10_line) hZ (hw _ (List.mem_of_getElem? (i := 101) rfl)) (hw _ (List.mem_of_getElem? (i := 36) rfl)) (by decide) (by decide)) q11a q11c (g := (mkF m 78 #[.val (.int p1), .val (.int p2), .val (.int p3), .val (.int p4), .val (.int p5), .val (.int v12_s0), .val (.int v27_s0), .val .null, .val (.ref b7), .val (.ref b8), .unset, .unset, .unset, .unset, .unset] [(.ref b8)])) rfl (by rw [hml]; rfl) (Steps.refl _) (argsL := []) (rest := []) (lenOf pd_0_10 rfl) rfl (by show 2 * 0 + _ ≤ _; exact Nat.le_of_eq rfl) (hb hby at_78) (fun _ _ => ⟨rfl, rfl, (by decide : 7 + 0 ≤ _), (by decide : 2774 + 0 ≤ _)⟩)
  dsimp only [Pt.U, Pt.locs, Pt.cells, Pt.slots] at X11 l11 y11 z11 st11 hQ11
  subst l11 y11 z11
  obtain ⟨rfl, N11q, e11⟩ := hQ11
  have N11 := Fr.app N10 N11q
  obtain ⟨cq12, kq12, q12a, q12b, q12c⟩ := isOf hZ e11 Ec10
  obtain ⟨_, _, ⟨T12, L12, k12, n12⟩, -, X12, ⟨Lc12, hQ12, l12, y12, z12⟩, st12⟩ := X11.virtualBack hx (y := (⟨"nephrite/EvaluationException", "templateName", "()Ljava/lang/String;"⟩ : MethodName)) (z := (⟨"nephrite/EvaluationException", "templateName", "()Ljava/lang/String;"⟩ : MethodName)) hown (mvT hZ (hw _ (List.mem_of_getElem? (i := 104) rfl))) (mvT hZ (hw _ (List.mem_of_getElem? (i := 105) rfl))) (notFace_of_selects (args := #[]) (mvT hZ (hw _ (List.mem_of_getElem? (i := 107) rfl)))) (mvT hZ (hw _ (List.mem_of_getElem? (i := 107) rfl))) (mvT hZ (hw _ (List.mem_of_getElem? (i := 106) rfl))) (by decide) (backOf (W := 0) (rm15n l Z a0 hw [] b8  T10.heap n0 (Nat.le_trans (Nat.le_trans (Nat.le_trans (Nat.le_trans Z0 K7c.1) E8.1) E9.1) K10c.1) Fk10_templateName) hZ (hw _ (List.mem_of_getElem? (i := 108) rfl)) (hw _ (List.mem_of_getElem? (i := 36) rfl)) (by decide) (by decide)) q12a q12c (g := (mkF m 86 #[.val (.int p1), .val (.int p2), .val (.int p3), .val (.int p4), .val (.int p5), .val (.int v12_s0), .val (.int v27_s0), .val .null, .val (.ref b7), .val (.ref b8), .unset, .unset, .unset, .unset, .unset] [(.ref b8)])) rfl (by rw [hml]; rfl) (Steps.refl _) (argsL := []) (rest := []) (lenOf pd_0_11 rfl) rfl (by show 2 * 0 + _ ≤ _; exact Nat.le_of_eq rfl) (hb hby at_86) (fun _ _ => ⟨rfl, e11, (by decide : 7 + 0 ≤ _), (by decide : 2774 + 0 ≤ _)⟩)
  dsimp only [Pt.U, Pt.locs, Pt.cells, Pt.slots] at X12 l12 y12 z12 st12 hQ12
  subst l12 y12 z12
  obtain ⟨rfl, N12q, e12⟩ := hQ12
  have N12 := Fr.app N11 N12q
  obtain ⟨cq13, kq13, q13a, q13b, q13c⟩ := isOf hZ e12 Ec10
  obtain ⟨_, _, ⟨T13, L13, k13, n13⟩, -, X13, ⟨Lc13, hQ13, l13, y13, z13⟩, st13⟩ := X12.virtualBack hx (y := (⟨"nephrite/EvaluationException", "on", "(Ljava/lang/String;I)Lnephrite/EvaluationException;"⟩ : MethodName)) (z := (⟨"nephrite/EvaluationException", "on", "(Ljava/lang/String;I)Lnephrite/EvaluationException;"⟩ : MethodName)) hown (mvT hZ (hw _ (List.mem_of_getElem? (i := 111) rfl))) (mvT hZ (hw _ (List.mem_of_getElem? (i := 112) rfl))) (notFace_of_selects (args := #[]) (mvT hZ (hw _ (List.mem_of_getElem? (i := 114) rfl)))) (mvT hZ (hw _ (List.mem_of_getElem? (i := 114) rfl))) (mvT hZ (hw _ (List.mem_of_getElem? (i := 113) rfl))) (by decide) (backOf (W := 0) (rm16fn l Z a0 hw [] b8 v12_s0 _ _ T10.heap n0 (Nat.le_trans (Nat.le_trans (Nat.le_trans (Nat.le_trans Z0 K7c.1) E8.1) E9.1) K10c.1) Fk10_line Ec10 Fk10_templateName g_b8 rfl) hZ (hw _ (List.mem_of_getElem? (i := 115) rfl)) (hw _ (List.mem_of_getElem? (i := 36) rfl)) (by decide) (by decide)) q13a q13c (g := (mkF m 105 #[.val (.int p1), .val (.int p2), .val (.int p3), .val (.int p4), .val (.int p5), .val (.int v12_s0), .val (.int v27_s0), .val .null, .val (.ref b7), .val (.ref b8), .val (.int (1 : Int32)), .unset, .unset, .unset, .unset] [(.int v12_s0), .null, (.ref b8)])) rfl (by rw [hml]; rfl) (Steps.refl _) (argsL := [.null, (.int v12_s0)]) (rest := []) (lenOf pd_0_12 rfl) rfl (by show 2 * 0 + _ ≤ _; exact Nat.le_of_eq rfl) (hb hby at_105) (fun _ _ => ⟨rfl, e12, (by decide : 7 + 0 ≤ _), (by decide : 2774 + 0 ≤ _)⟩)
  dsimp only [Pt.U, Pt.locs, Pt.cells, Pt.slots] at X13 l13 y13 z13 st13 hQ13
  subst l13 y13 z13
  obtain ⟨rfl, N13q, K13c, Ec13, Fc13_0, Fc13_1⟩ := hQ13
  have N13 := Fr.app N12 N13q
  have K13 : Keep h0 T13.heap [] := K10.trans K13c (allS (Or.inr sz_b8) all0)
  obtain ⟨cq14, kq14, q14a, q14b, q14c⟩ := isOf hZ rfl Ec13
  obtain ⟨_, _, ⟨T14, L14, k14, n14⟩, -, X14, ⟨Lc14, hQ14, l14, y14, z14⟩, st14⟩ := X13.virtualBack hx (y := (⟨"nephrite/EvaluationException", "line", "()I"⟩ : MethodName)) (z := (⟨"nephrite/EvaluationException", "line", "()I"⟩ : MethodName)) hown (mvT hZ (hw _ (List.mem_of_getElem? (i := 97) rfl))) (mvT hZ (hw _ (List.mem_of_getElem? (i := 98) rfl))) (notFace_of_selects (args := #[]) (mvT hZ (hw _ (List.mem_of_getElem? (i := 100) rfl)))) (mvT hZ (hw _ (List.mem_of_getElem? (i := 100) rfl))) (mvT hZ (hw _ (List.mem_of_getElem? (i := 99) rfl))) (by decide) (backOf (W := 0) (rm14 l Z a0 hw [] b8 v12_s0 T13.heap n0 (Nat.le_trans (Nat.le_trans (Nat.le_trans (Nat.le_trans (Nat.le_trans Z0 K7c.1) E8.1) E9.1) K10c.1) K13c.1) Fc13_0) hZ (hw _ (List.mem_of_getElem? (i := 101) rfl)) (hw _ (List.mem_of_getElem? (i := 36) rfl)) (by decide) (by decide)) q14a q14c (g := (mkF m 124 #[.val (.int p1), .val (.int p2), .val (.int p3), .val (.int p4), .val (.int p5), .val (.int v12_s0), .val (.int v27_s0), .val .null, .val (.ref b7), .val (.ref b8), .val (.int (1 : Int32)), .val (.ref b8), .unset, .unset, .unset] [(.ref b8)])) rfl (by rw [hml]; rfl) (Steps.refl _) (argsL := []) (rest := []) (lenOf pd_0_10 rfl) rfl (by show 2 * 0 + _ ≤ _; exact Nat.le_of_eq rfl) (hb hby at_124) (fun _ _ => ⟨rfl, rfl, (by decide : 7 + 0 ≤ _), (by decide : 2774 + 0 ≤ _)⟩)
  dsimp only [Pt.U, Pt.locs, Pt.cells, Pt.slots] at X14 l14 y14 z14 st14 hQ14
  subst l14 y14 z14
  obtain ⟨rfl, N14q, e14⟩ := hQ14
  have N14 := Fr.app N13 N14q
  obtain ⟨cq15, kq15, q15a, q15b, q15c⟩ := isOf hZ e14 Ec13
  obtain ⟨_, _, ⟨T15, L15, k15, n15⟩, -, X15, ⟨Lc15, hQ15, l15, y15, z15⟩, st15⟩ := X14.virtualBack hx (y := (⟨"nephrite/EvaluationException", "templateName", "()Ljava/lang/String;"⟩ : MethodName)) (z := (⟨"nephrite/EvaluationException", "templateName", "()Ljava/lang/String;"⟩ : MethodName)) hown (mvT hZ (hw _ (List.mem_of_getElem? (i := 104) rfl))) (mvT hZ (hw _ (List.mem_of_getElem? (i := 105) rfl))) (notFace_of_selects (args := #[]) (mvT hZ (hw _ (List.mem_of_getElem? (i := 107) rfl)))) (mvT hZ (hw _ (List.mem_of_getElem? (i := 107) rfl))) (mvT hZ (hw _ (List.mem_of_getElem? (i := 106) rfl))) (by decide) (backOf (W := 0) (rm15n l Z a0 hw [] b8  T13.heap n0 (Nat.le_trans (Nat.le_trans (Nat.le_trans (Nat.le_trans (Nat.le_trans Z0 K7c.1) E8.1) E9.1) K10c.1) K13c.1) Fc13_1) hZ (hw _ (List.mem_of_getElem? (i := 108) rfl)) (hw _ (List.mem_of_getElem? (i := 36) rfl)) (by decide) (by decide)) q15a q15c (g := (mkF m 134 #[.val (.int p1), .val (.int p2), .val (.int p3), .val (.int p4), .val (.int p5), .val (.int v12_s0), .val (.int v27_s0), .val .null, .val (.ref b7), .val (.ref b8), .val (.int (1 : Int32)), .val (.ref b8), .unset, .unset, .unset] [(.ref b8)])) rfl (by rw [hml]; rfl) (Steps.refl _) (argsL := []) (rest := []) (lenOf pd_0_11 rfl) rfl (by show 2 * 0 + _ ≤ _; exact Nat.le_of_eq rfl) (hb hby at_134) (fun _ _ => ⟨rfl, e14, (by decide : 7 + 0 ≤ _), (by decide : 2774 + 0 ≤ _)⟩)
  dsimp only [Pt.U, Pt.locs, Pt.cells, Pt.slots] at X15 l15 y15 z15 st15 hQ15
  subst l15 y15 z15
  obtain ⟨rfl, N15q, e15⟩ := hQ15
  have N15 := Fr.app N14 N15q
  obtain ⟨cq16, kq16, q16a, q16b, q16c⟩ := isOf hZ e15 Ec13
  obtain ⟨_, _, ⟨T16, L16, k16, n16⟩, -, X16, ⟨Lc16, hQ16, l16, y16, z16⟩, st16⟩ := X15.virtualBack hx (y := (⟨"nephrite/EvaluationException", "on", "(Ljava/lang/String;I)Lnephrite/EvaluationException;"⟩ : MethodName)) (z := (⟨"nephrite/EvaluationException", "on", "(Ljava/lang/String;I)Lnephrite/EvaluationException;"⟩ : MethodName)) hown (mvT hZ (hw _ (List.mem_of_getElem? (i := 111) rfl))) (mvT hZ (hw _ (List.mem_of_getElem? (i := 112) rfl))) (notFace_of_selects (args := #[]) (mvT hZ (hw _ (List.mem_of_getElem? (i := 114) rfl)))) (mvT hZ (hw _ (List.mem_of_getElem? (i := 114) rfl))) (mvT hZ (hw _ (List.mem_of_getElem? (i := 113) rfl))) (by decide) (backOf (W := 0) (rm16f l Z a0 hw [] b8 b7 v27_s0 _ _ T13.heap n0 (Nat.le_trans (Nat.le_trans (Nat.le_trans (Nat.le_trans (Nat.le_trans Z0 K7c.1) E8.1) E9.1) K10c.1) K13c.1) Fc13_0 Ec13 Fc13_1 g_b8 hc162) hZ (hw _ (List.mem_of_getElem? (i := 115) rfl)) (hw _ (List.mem_of_getElem? (i := 36) rfl)) (by decide) (by decide)) q16a q16c (g := (mkF m 155 #[.val (.int p1), .val (.int p2), .val (.int p3), .val (.int p4), .val (.int p5), .val (.int v12_s0), .val (.int v27_s0), .val .null, .val (.ref b7), .val (.ref b8), .val (.int (1 : Int32)), .val (.ref b8), .unset, .unset, .unset] [(.int v27_s0), (.ref b7), (.ref b8)])) rfl (by rw [hml]; rfl) (Steps.refl _) (argsL := [(.ref b7), (.int v27_s0)]) (rest := []) (lenOf pd_0_12 rfl) rfl (by show 2 * 0 + _ ≤ _; exact Nat.le_of_eq rfl) (hb hby at_155) (fun _ _ => ⟨rfl, e15, (by decide : 7 + 0 ≤ _), (by decide : 2774 + 0 ≤ _)⟩)
  dsimp only [Pt.U, Pt.locs, Pt.cells, Pt.slots] at X16 l16 y16 z16 st16 hQ16
  subst l16 y16 z16
  obtain ⟨rfl, N16q, K16c, Ec16, Fc16_0, Fc16_1⟩ := hQ16
  have N16 := Fr.app N15 N16q
  have K16 : Keep h0 T16.heap [] := K13.trans K16c (allS (Or.inr sz_b8) all0)
  obtain ⟨cq17, kq17, q17a, q17b, q17c⟩ := isOf hZ rfl Ec16
  obtain ⟨_, _, ⟨T17, L17, k17, n17⟩, -, X17, ⟨Lc17, hQ17, l17, y17, z17⟩, st17⟩ := X16.virtualBack hx (y := (⟨"nephrite/EvaluationException", "line", "()I"⟩ : MethodName)) (z := (⟨"nephrite/EvaluationException", "line", "()I"⟩ : MethodName)) hown (mvT hZ (hw _ (List.mem_of_getElem? (i := 97) rfl))) (mvT hZ (hw _ (List.mem_of_getElem? (i := 98) rfl))) (notFace_of_selects (args := #[]) (mvT hZ (hw _ (List.mem_of_getElem? (i := 100) rfl)))) (mvT hZ (hw _ (List.mem_of_getElem? (i := 100) rfl))) (mvT hZ (hw _ (List.mem_of_getElem? (i := 99) rfl))) (by decide) (backOf (W := 0) (rm14 l Z a0 hw [] b8 v27_s0 T16.heap n0 (Nat.le_trans (Nat.le_trans (Nat.le_trans (Nat.le_trans (Nat.le_trans (Nat.le_trans Z0 K7c.1) E8.1) E9.1) K10c.1) K13c.1) K16c.1) Fc16_0) hZ (hw _ (List.mem_of_getElem? (i := 101) rfl)) (hw _ (List.mem_of_getElem? (i := 36) rfl)) (by decide) (by decide)) q17a q17c (g := (mkF m 202 #[.val (.int p1), .val (.int p2), .val (.int p3), .val (.int p4), .val (.int p5), .val (.int v12_s0), .val (.int v27_s0), .val .null, .val (.ref b7), .val (.ref b8), .val (.int (1 : Int32)), .val (.ref b8), .val (.ref b8), .val (.int v27_s0), .val (.ref b7)] [(.ref b8)])) rfl (by rw [hml]; rfl) (Steps.refl _) (argsL := []) (rest := []) (lenOf pd_0_10 rfl) rfl (by show 2 * 0 + _ ≤ _; exact Nat.le_of_eq rfl) (hb hby at_202) (fun _ _ => ⟨rfl, rfl, (by decide : 7 + 0 ≤ _), (by decide : 2774 + 0 ≤ _)⟩)
  dsimp only [Pt.U, Pt.locs, Pt.cells, Pt.slots] at X17 l17 y17 z17 st17 hQ17
  subst l17 y17 z17
  obtain ⟨rfl, N17q, e17⟩ := hQ17
  have N17 := Fr.app N16 N17q
  obtain ⟨cq18, kq18, q18a, q18b, q18c⟩ := isOf hZ e17 Ec16
  obtain ⟨_, _, ⟨T18, L18, k18, n18⟩, -, X18, ⟨Lc18, hQ18, l18, y18, z18⟩, st18⟩ := X17.virtualBack hx (y := (⟨"nephrite/EvaluationException", "templateName", "()Ljava/lang/String;"⟩ : MethodName)) (z := (⟨"nephrite/EvaluationException", "templateName", "()Ljava/lang/String;"⟩ : MethodName)) hown (mvT hZ (hw _ (List.mem_of_getElem? (i := 104) rfl))) (mvT hZ (hw _ (List.mem_of_getElem? (i := 105) rfl))) (notFace_of_selects (args := #[]) (mvT hZ (hw _ (List.mem_of_getElem? (i := 107) rfl)))) (mvT hZ (hw _ (List.mem_of_getElem? (i := 107) rfl))) (mvT hZ (hw _ (List.mem_of_getElem? (i := 106) rfl))) (by decide) (backOf (W := 0) (rm15 l Z a0 hw [] b8 b7 T16.heap n0 (Nat.le_trans (Nat.le_trans (Nat.le_trans (Nat.le_trans (Nat.le_trans (Nat.le_trans Z0 K7c.1) E8.1) E9.1) K10c.1) K13c.1) K16c.1) Fc16_1) hZ (hw _ (List.mem_of_getElem? (i := 108) rfl)) (hw _ (List.mem_of_getElem? (i := 36) rfl)) (by decide) (by decide)) q18a q18c (g := (mkF m 212 #[.val (.int p1), .val (.int p2), .val (.int p3), .val (.int p4), .val (.int p5), .val (.int v12_s0), .val (.int v27_s0), .val .null, .val (.ref b7), .val (.ref b8), .val (.int (1 : Int32)), .val (.ref b8), .val (.ref b8), .val (.int v27_s0), .val (.ref b7)] [(.ref b8)])) rfl (by rw [hml]; rfl) (Steps.refl _) (argsL := []) (rest := []) (lenOf pd_0_11 rfl) rfl (by show 2 * 0 + _ ≤ _; exact Nat.le_of_eq rfl) (hb hby at_212) (fun _ _ => ⟨rfl, e17, (by decide : 7 + 0 ≤ _), (by decide : 2774 + 0 ≤ _)⟩)
  dsimp only [Pt.U, Pt.locs, Pt.cells, Pt.slots] at X18 l18 y18 z18 st18 hQ18
  subst l18 y18 z18
  obtain ⟨rfl, N18q, e18⟩ := hQ18
  have N18 := Fr.app N17 N18q
  obtain ⟨fs, hr, hrun, hended, hRE⟩ := X18.leaveW hS (by rw [e18]; exact (Nat.le_trans (Nat.le_trans (Nat.le_trans hk K10c.1) K13c.1) K16c.1)) (v := some (.int (1 : Int32))) (fun h => by rw [Bd.returns] at h; cases h)
  refine ⟨_, _, pre0 _ ?_, hrun, hended, _, _, rfl, ?_, hRE.1, hRE.2.1, hRE.2.2.1, hRE.2.2.2.mono (by decide) (by decide)⟩
  · show Steps p.tables e below (s₁.setTop (mkF m 0 #[.val (.int p1), .val (.int p2), .val (.int p3), .val (.int p4), .val (.int p5), .unset, .unset, .unset, .unset, .unset, .unset, .unset, .unset, .unset, .unset] [])) _
    refine XS.iload X0.here hx rfl (hb hby at_0) rfl ?_
    show Steps p.tables e below (s₁.setTop (mkF m 2 #[.val (.int p1), .val (.int p2), .val (.int p3), .val (.int p4), .val (.int p5), .unset, .unset, .unset, .unset, .unset, .unset, .unset, .unset, .unset, .unset] [(.int p5)])) _
    refine XS.iconst X0.here hx rfl (hb hby at_2) ?_
    show Steps p.tables e below (s₁.setTop (mkF m 3 #[.val (.int p1), .val (.int p2), .val (.int p3), .val (.int p4), .val (.int p5), .unset, .unset, .unset, .unset, .unset, .unset, .unset, .unset, .unset, .unset] [(.int (1 : Int32)), (.int p5)])) _
    refine XS.iand X0.here hx rfl (hb hby at_3) rfl ?_
    refine sg4 _ ?_
    show Steps p.tables e below (s₁.setTop (mkF m 12 #[.val (.int p1), .val (.int p2), .val (.int p3), .val (.int p4), .val (.int p5), .unset, .unset, .unset, .unset, .unset, .unset, .unset, .unset, .unset, .unset] [(.int v12_s0)])) _
    refine XS.istore X0.here hx rfl (hb hby at_12) rfl (l' := #[.val (.int p1), .val (.int p2), .val (.int p3), .val (.int p4), .val (.int p5), .val (.int v12_s0), .unset, .unset, .unset, .unset, .unset, .unset, .unset, .unset, .unset]) rfl ?_
    show Steps p.tables e below (s₁.setTop (mkF m 14 #[.val (.int p1), .val (.int p2), .val (.int p3), .val (.int p4), .val (.int p5), .val (.int v12_s0), .unset, .unset, .unset, .unset, .unset, .unset, .unset, .unset, .unset] [])) _
    refine XS.iload X0.here hx rfl (hb hby at_14) rfl ?_
    show Steps p.tables e below (s₁.setTop (mkF m 16 #[.val (.int p1), .val (.int p2), .val (.int p3), .val (.int p4), .val (.int p5), .val (.int v12_s0), .unset, .unset, .unset, .unset, .unset, .unset, .unset, .unset, .unset] [(.int p5)])) _
    refine XS.bipush X0.here hx rfl (hb hby at_16) ?_
    show Steps p.tables e below (s₁.setTop (mkF m 18 #[.val (.int p1), .val (.int p2), .val (.int p3), .val (.int p4), .val (.int p5), .val (.int v12_s0), .unset, .unset, .unset, .unset, .unset, .unset, .unset, .unset, .unset] [(.int (8 : Int32)), (.int p5)])) _
    refine XS.iand X0.here hx rfl (hb hby at_18) rfl ?_
    refine sg19 _ ?_
    show Steps p.tables e below (s₁.setTop (mkF m 27 #[.val (.int p1), .val (.int p2), .val (.int p3), .val (.int p4), .val (.int p5), .val (.int v12_s0), .unset, .unset, .unset, .unset, .unset, .unset, .unset, .unset, .unset] [(.int v27_s0)])) _
    refine XS.istore X0.here hx rfl (hb hby at_27) rfl (l' := #[.val (.int p1), .val (.int p2), .val (.int p3), .val (.int p4), .val (.int p5), .val (.int v12_s0), .val (.int v27_s0), .unset, .unset, .unset, .unset, .unset, .unset, .unset, .unset]) rfl ?_
    show Steps p.tables e below (s₁.setTop (mkF m 29 #[.val (.int p1), .val (.int p2), .val (.int p3), .val (.int p4), .val (.int p5), .val (.int v12_s0), .val (.int v27_s0), .unset, .unset, .unset, .unset, .unset, .unset, .unset, .unset] [])) _
    refine XS.iloadN X0.here hx rfl (hb hby at_29) rfl ?_
    show Steps p.tables e below (s₁.setTop (mkF m 30 #[.val (.int p1), .val (.int p2), .val (.int p3), .val (.int p4), .val (.int p5), .val (.int v12_s0), .val (.int v27_s0), .unset, .unset, .unset, .unset, .unset, .unset, .unset, .unset] [(.int p3)])) _
    refine XS.iload X0.here hx rfl (hb hby at_30) rfl ?_
    show Steps p.tables e below (s₁.setTop (mkF m 32 #[.val (.int p1), .val (.int p2), .val (.int p3), .val (.int p4), .val (.int p5), .val (.int v12_s0), .val (.int v27_s0), .unset, .unset, .unset, .unset, .unset, .unset, .unset, .unset] [(.int p5), (.int p3)])) _
    refine XS.iconst X0.here hx rfl (hb hby at_32) ?_
    show Steps p.tables e below (s₁.setTop (mkF m 33 #[.val (.int p1), .val (.int p2), .val (.int p3), .val (.int p4), .val (.int p5), .val (.int v12_s0), .val (.int v27_s0), .unset, .unset, .unset, .unset, .unset, .unset, .unset, .unset] [(.int (2 : Int32)), (.int p5), (.int p3)])) _
    refine XS.iand X0.here hx rfl (hb hby at_33) rfl ?_
    show Steps p.tables e below (s₁.setTop (mkF m 34 #[.val (.int p1), .val (.int p2), .val (.int p3), .val (.int p4), .val (.int p5), .val (.int v12_s0), .val (.int v27_s0), .unset, .unset, .unset, .unset, .unset, .unset, .unset, .unset] [(.int (p5 &&& (2 : Int32))), (.int p3)])) _
    refine XS.ifNo X0.here hx rfl (hb hby at_34) rfl ((if0 _ _).trans (feq hc34).1) ?_
    show Steps p.tables e below (s₁.setTop (mkF m 37 #[.val (.int p1), .val (.int p2), .val (.int p3), .val (.int p4), .val (.int p5), .val (.int v12_s0), .val (.int v27_s0), .unset, .unset, .unset, .unset, .unset, .unset, .unset, .unset] [(.int p3)])) _
    refine XS.iconst X0.here hx rfl (hb hby at_37) ?_
    show Steps p.tables e below (s₁.setTop (mkF m 38 #[.val (.int p1), .val (.int p2), .val (.int p3), .val (.int p4), .val (.int p5), .val (.int v12_s0), .val (.int v27_s0), .unset, .unset, .unset, .unset, .unset, .unset, .unset, .unset] [(.int (1 : Int32)), (.int p3)])) _
    refine XS.goto X0.here hx rfl (pc0 := 38) (pc' := 42) rfl (hb hby at_38) (by decide) (by decide) ?_
    show Steps p.tables e below (s₁.setTop (mkF m 42 #[.val (.int p1), .val (.int p2), .val (.int p3), .val (.int p4), .val (.int p5), .val (.int v12_s0), .val (.int v27_s0), .unset, .unset, .unset, .unset, .unset, .unset, .unset, .unset] [(.int (1 : Int32)), (.int p3)])) _
    refine st6 _ ?_
    show Steps p.tables e below (T6.setTop (mkF m 45 #[.val (.int p1), .val (.int p2), .val (.int p3), .val (.int p4), .val (.int p5), .val (.int v12_s0), .val (.int v27_s0), .unset, .unset, .unset, .unset, .unset, .unset, .unset, .unset] [.null])) _
    refine XS.astore X6.here hx rfl (hb hby at_45) rfl rfl (l' := #[.val (.int p1), .val (.int p2), .val (.int p3), .val (.int p4), .val (.int p5), .val (.int v12_s0), .val (.int v27_s0), .val .null, .unset, .unset, .unset, .unset, .unset, .unset, .unset]) rfl ?_
    show Steps p.tables e below (T6.setTop (mkF m 47 #[.val (.int p1), .val (.int p2), .val (.int p3), .val (.int p4), .val (.int p5), .val (.int v12_s0), .val (.int v27_s0), .val .null, .unset, .unset, .unset, .unset, .unset, .unset, .unset] [])) _
    refine XS.iloadN X6.here hx rfl (hb hby at_47) rfl ?_
    show Steps p.tables e below (T6.setTop (mkF m 48 #[.val (.int p1), .val (.int p2), .val (.int p3), .val (.int p4), .val (.int p5), .val (.int v12_s0), .val (.int v27_s0), .val .null, .unset, .unset, .unset, .unset, .unset, .unset, .unset] [(.int p4)])) _
    refine XS.iload X6.here hx rfl (hb hby at_48) rfl ?_
    show Steps p.tables e below (T6.setTop (mkF m 50 #[.val (.int p1), .val (.int p2), .val (.int p3), .val (.int p4), .val (.int p5), .val (.int v12_s0), .val (.int v27_s0), .val .null, .unset, .unset, .unset, .unset, .unset, .unset, .unset] [(.int p5), (.int p4)])) _
    refine XS.iconst X6.here hx rfl (hb hby at_50) ?_
    show Steps p.tables e below (T6.setTop (mkF m 51 #[.val (.int p1), .val (.int p2), .val (.int p3), .val (.int p4), .val (.int p5), .val (.int v12_s0), .val (.int v27_s0), .val .null, .unset, .unset, .unset, .unset, .unset, .unset, .unset] [(.int (4 : Int32)), (.int p5), (.int p4)])) _
    refine XS.iand X6.here hx rfl (hb hby at_51) rfl ?_
    show Steps p.tables e below (T6.setTop (mkF m 52 #[.val (.int p1), .val (.int p2), .val (.int p3), .val (.int p4), .val (.int p5), .val (.int v12_s0), .val (.int v27_s0), .val .null, .unset, .unset, .unset, .unset, .unset, .unset, .unset] [(.int (p5 &&& (4 : Int32))), (.int p4)])) _
    refine XS.ifYes X6.here hx rfl (pc0 := 52) (pc' := 59) rfl (hb hby at_52) rfl ((if0 _ _).trans (teq hc52).1) (by decide) (by decide) ?_
    show Steps p.tables e below (T6.setTop (mkF m 59 #[.val (.int p1), .val (.int p2), .val (.int p3), .val (.int p4), .val (.int p5), .val (.int v12_s0), .val (.int v27_s0), .val .null, .unset, .unset, .unset, .unset, .unset, .unset, .unset] [(.int p4)])) _
    refine XS.iconst X6.here hx rfl (hb hby at_59) ?_
    show Steps p.tables e below (T6.setTop (mkF m 60 #[.val (.int p1), .val (.int p2), .val (.int p3), .val (.int p4), .val (.int p5), .val (.int v12_s0), .val (.int v27_s0), .val .null, .unset, .unset, .unset, .unset, .unset, .unset, .unset] [(.int (0 : Int32)), (.int p4)])) _
    refine st7 _ ?_
    show Steps p.tables e below (T7.setTop (mkF m 63 #[.val (.int p1), .val (.int p2), .val (.int p3), .val (.int p4), .val (.int p5), .val (.int v12_s0), .val (.int v27_s0), .val .null, .unset, .unset, .unset, .unset, .unset, .unset, .unset] [(.ref b7)])) _
    refine XS.astore X7.here hx rfl (hb hby at_63) rfl rfl (l' := #[.val (.int p1), .val (.int p2), .val (.int p3), .val (.int p4), .val (.int p5), .val (.int v12_s0), .val (.int v27_s0), .val .null, .val (.ref b7), .unset, .unset, .unset, .unset, .unset, .unset]) rfl ?_
    show Steps p.tables e below (T7.setTop (mkF m 65 #[.val (.int p1), .val (.int p2), .val (.int p3), .val (.int p4), .val (.int p5), .val (.int v12_s0), .val (.int v27_s0), .val .null, .val (.ref b7), .unset, .unset, .unset, .unset, .unset, .unset] [])) _
    refine st8 _ ?_
    show Steps p.tables e below (T8.setTop (mkF m 68 #[.val (.int p1), .val (.int p2), .val (.int p3), .val (.int p4), .val (.int p5), .val (.int v12_s0), .val (.int v27_s0), .val .null, .val (.ref b7), .unset, .unset, .unset, .unset, .unset, .unset] [(.ref b8)])) _
    refine XS.dup X8.here hx rfl (hb hby at_68) rfl rfl ?_
    show Steps p.tables e below (T8.setTop (mkF m 69 #[.val (.int p1), .val (.int p2), .val (.int p3), .val (.int p4), .val (.int p5), .val (.int v12_s0), .val (.int v27_s0), .val .null, .val (.ref b7), .unset, .unset, .unset, .unset, .unset, .unset] [(.ref b8), (.ref b8)])) _
    refine st9 _ ?_
    show Steps p.tables e below (T9.setTop (mkF m 71 #[.val (.int p1), .val (.int p2), .val (.int p3), .val (.int p4), .val (.int p5), .val (.int v12_s0), .val (.int v27_s0), .val .null, .val (.ref b7), .unset, .unset, .unset, .unset, .unset, .unset] [(.ref b9), (.ref b8), (.ref b8)])) _
    refine st10.trans ?_
    show Steps p.tables e below (T10.setTop (mkF m 74 #[.val (.int p1), .val (.int p2), .val (.int p3), .val (.int p4), .val (.int p5), .val (.int v12_s0), .val (.int v27_s0), .val .null, .val (.ref b7), .unset, .unset, .unset, .unset, .unset, .unset] [(.ref b8)])) _
    refine XS.astore X10.here hx rfl (hb hby at_74) rfl rfl (l' := #[.val (.int p1), .val (.int p2), .val (.int p3), .val (.int p4), .val (.int p5), .val (.int v12_s0), .val (.int v27_s0), .val .null, .val (.ref b7), .val (.ref b8), .unset, .unset, .unset, .unset, .unset]) rfl ?_
    show Steps p.tables e below (T10.setTop (mkF m 76 #[.val (.int p1), .val (.int p2), .val (.int p3), .val (.int p4), .val (.int p5), .val (.int v12_s0), .val (.int v27_s0), .val .null, .val (.ref b7), .val (.ref b8), .unset, .unset, .unset, .unset, .unset] [])) _
    refine XS.aload X10.here hx rfl (hb hby at_76) rfl rfl ?_
    show Steps p.tables e below (T10.setTop (mkF m 78 #[.val (.int p1), .val (.int p2), .val (.int p3), .val (.int p4), .val (.int p5), .val (.int v12_s0), .val (.int v27_s0), .val .null, .val (.ref b7), .val (.ref b8), .unset, .unset, .unset, .unset, .unset] [(.ref b8)])) _
    refine st11.trans ?_
    show Steps p.tables e below (T11.setTop (mkF m 81 #[.val (.int p1), .val (.int p2), .val (.int p3), .val (.int p4), .val (.int p5), .val (.int v12_s0), .val (.int v27_s0), .val .null, .val (.ref b7), .val (.ref b8), .unset, .unset, .unset, .unset, .unset] [(.int (0 : Int32))])) _
    refine XS.ifNo X11.here hx rfl (hb hby at_81) rfl ((if0 _ _).trans (teq (rfl : (0 : Int32) = (0 : Int32))).2) ?_
    show Steps p.tables e below (T11.setTop (mkF m 84 #[.val (.int p1), .val (.int p2), .val (.int p3), .val (.int p4), .val (.int p5), .val (.int v12_s0), .val (.int v27_s0), .val .null, .val (.ref b7), .val (.ref b8), .unset, .unset, .unset, .unset, .unset] [])) _
    refine XS.aload X11.here hx rfl (hb hby at_84) rfl rfl ?_
    show Steps p.tables e below (T11.setTop (mkF m 86 #[.val (.int p1), .val (.int p2), .val (.int p3), .val (.int p4), .val (.int p5), .val (.int v12_s0), .val (.int v27_s0), .val .null, .val (.ref b7), .val (.ref b8), .unset, .unset, .unset, .unset, .unset] [(.ref b8)])) _
    refine st12.trans ?_
    show Steps p.tables e below (T12.setTop (mkF m 89 #[.val (.int p1), .val (.int p2), .val (.int p3), .val (.int p4), .val (.int p5), .val (.int v12_s0), .val (.int v27_s0), .val .null, .val (.ref b7), .val (.ref b8), .unset, .unset, .unset, .unset, .unset] [.null])) _
    refine XS.ifnonnullNo X12.here hx rfl (hb hby at_89) rfl ?_
    show Steps p.tables e below (T12.setTop (mkF m 92 #[.val (.int p1), .val (.int p2), .val (.int p3), .val (.int p4), .val (.int p5), .val (.int v12_s0), .val (.int v27_s0), .val .null, .val (.ref b7), .val (.ref b8), .unset, .unset, .unset, .unset, .unset] [])) _
    refine XS.iconst X12.here hx rfl (hb hby at_92) ?_
    show Steps p.tables e below (T12.setTop (mkF m 93 #[.val (.int p1), .val (.int p2), .val (.int p3), .val (.int p4), .val (.int p5), .val (.int v12_s0), .val (.int v27_s0), .val .null, .val (.ref b7), .val (.ref b8), .unset, .unset, .unset, .unset, .unset] [(.int (1 : Int32))])) _
    refine XS.goto X12.here hx rfl (pc0 := 93) (pc' := 97) rfl (hb hby at_93) (by decide) (by decide) ?_
    show Steps p.tables e below (T12.setTop (mkF m 97 #[.val (.int p1), .val (.int p2), .val (.int p3), .val (.int p4), .val (.int p5), .val (.int v12_s0), .val (.int v27_s0), .val .null, .val (.ref b7), .val (.ref b8), .unset, .unset, .unset, .unset, .unset] [(.int (1 : Int32))])) _
    refine XS.istore X12.here hx rfl (hb hby at_97) rfl (l' := #[.val (.int p1), .val (.int p2), .val (.int p3), .val (.int p4), .val (.int p5), .val (.int v12_s0), .val (.int v27_s0), .val .null, .val (.ref b7), .val (.ref b8), .val (.int (1 : Int32)), .unset, .unset, .unset, .unset]) rfl ?_
    show Steps p.tables e below (T12.setTop (mkF m 99 #[.val (.int p1), .val (.int p2), .val (.int p3), .val (.int p4), .val (.int p5), .val (.int v12_s0), .val (.int v27_s0), .val .null, .val (.ref b7), .val (.ref b8), .val (.int (1 : Int32)), .unset, .unset, .unset, .unset] [])) _
    refine XS.aload X12.here hx rfl (hb hby at_99) rfl rfl ?_
    show Steps p.tables e below (T12.setTop (mkF m 101 #[.val (.int p1), .val (.int p2), .val (.int p3), .val (.int p4), .val (.int p5), .val (.int v12_s0), .val (.int v27_s0), .val .null, .val (.ref b7), .val (.ref b8), .val (.int (1 : Int32)), .unset, .unset, .unset, .unset] [(.ref b8)])) _
    refine XS.aload X12.here hx rfl (hb hby at_101) rfl rfl ?_
    show Steps p.tables e below (T12.setTop (mkF m 103 #[.val (.int p1), .val (.int p2), .val (.int p3), .val (.int p4), .val (.int p5), .val (.int v12_s0), .val (.int v27_s0), .val .null, .val (.ref b7), .val (.ref b8), .val (.int (1 : Int32)), .unset, .unset, .unset, .unset] [.null, (.ref b8)])) _
    refine XS.iload X12.here hx rfl (hb hby at_103) rfl ?_
    show Steps p.tables e below (T12.setTop (mkF m 105 #[.val (.int p1), .val (.int p2), .val (.int p3), .val (.int p4), .val (.int p5), .val (.int v12_s0), .val (.int v27_s0), .val .null, .val (.ref b7), .val (.ref b8), .val (.int (1 : Int32)), .unset, .unset, .unset, .unset] [(.int v12_s0), .null, (.ref b8)])) _
    refine st13.trans ?_
    show Steps p.tables e below (T13.setTop (mkF m 108 #[.val (.int p1), .val (.int p2), .val (.int p3), .val (.int p4), .val (.int p5), .val (.int v12_s0), .val (.int v27_s0), .val .null, .val (.ref b7), .val (.ref b8), .val (.int (1 : Int32)), .unset, .unset, .unset, .unset] [(.ref b8)])) _
    refine XS.astore X13.here hx rfl (hb hby at_108) rfl rfl (l' := #[.val (.int p1), .val (.int p2), .val (.int p3), .val (.int p4), .val (.int p5), .val (.int v12_s0), .val (.int v27_s0), .val .null, .val (.ref b7), .val (.ref b8), .val (.int (1 : Int32)), .val (.ref b8), .unset, .unset, .unset]) rfl ?_
    show Steps p.tables e below (T13.setTop (mkF m 110 #[.val (.int p1), .val (.int p2), .val (.int p3), .val (.int p4), .val (.int p5), .val (.int v12_s0), .val (.int v27_s0), .val .null, .val (.ref b7), .val (.ref b8), .val (.int (1 : Int32)), .val (.ref b8), .unset, .unset, .unset] [])) _
    refine XS.iload X13.here hx rfl (hb hby at_110) rfl ?_
    show Steps p.tables e below (T13.setTop (mkF m 112 #[.val (.int p1), .val (.int p2), .val (.int p3), .val (.int p4), .val (.int p5), .val (.int v12_s0), .val (.int v27_s0), .val .null, .val (.ref b7), .val (.ref b8), .val (.int (1 : Int32)), .val (.ref b8), .unset, .unset, .unset] [(.int (1 : Int32))])) _
    refine XS.ifNo X13.here hx rfl (hb hby at_112) rfl ((if0 _ _).trans (feq (by decide : ¬ ((1 : Int32) = (0 : Int32)))).1) ?_
    show Steps p.tables e below (T13.setTop (mkF m 115 #[.val (.int p1), .val (.int p2), .val (.int p3), .val (.int p4), .val (.int p5), .val (.int v12_s0), .val (.int v27_s0), .val .null, .val (.ref b7), .val (.ref b8), .val (.int (1 : Int32)), .val (.ref b8), .unset, .unset, .unset] [])) _
    refine XS.aload X13.here hx rfl (hb hby at_115) rfl rfl ?_
    show Steps p.tables e below (T13.setTop (mkF m 117 #[.val (.int p1), .val (.int p2), .val (.int p3), .val (.int p4), .val (.int p5), .val (.int v12_s0), .val (.int v27_s0), .val .null, .val (.ref b7), .val (.ref b8), .val (.int (1 : Int32)), .val (.ref b8), .unset, .unset, .unset] [(.ref b8)])) _
    refine XS.aload X13.here hx rfl (hb hby at_117) rfl rfl ?_
    show Steps p.tables e below (T13.setTop (mkF m 119 #[.val (.int p1), .val (.int p2), .val (.int p3), .val (.int p4), .val (.int p5), .val (.int v12_s0), .val (.int v27_s0), .val .null, .val (.ref b7), .val (.ref b8), .val (.int (1 : Int32)), .val (.ref b8), .unset, .unset, .unset] [(.ref b8), (.ref b8)])) _
    refine Jvm.RoadKit.acmp (g := (mkF m 119 #[.val (.int p1), .val (.int p2), .val (.int p3), .val (.int p4), .val (.int p5), .val (.int v12_s0), .val (.int v27_s0), .val .null, .val (.ref b7), .val (.ref b8), .val (.int (1 : Int32)), .val (.ref b8), .unset, .unset, .unset] [(.ref b8), (.ref b8)])) X13 hx rfl rfl rfl (pc0 := 119) (pc' := 122) (same := true) rfl (hb hby at_119) rfl (decide_eq_true rfl) (by decide) (by decide) ?_
    show Steps p.tables e below (T13.setTop (mkF m 122 #[.val (.int p1), .val (.int p2), .val (.int p3), .val (.int p4), .val (.int p5), .val (.int v12_s0), .val (.int v27_s0), .val .null, .val (.ref b7), .val (.ref b8), .val (.int (1 : Int32)), .val (.ref b8), .unset, .unset, .unset] [])) _
    refine XS.aload X13.here hx rfl (hb hby at_122) rfl rfl ?_
    show Steps p.tables e below (T13.setTop (mkF m 124 #[.val (.int p1), .val (.int p2), .val (.int p3), .val (.int p4), .val (.int p5), .val (.int v12_s0), .val (.int v27_s0), .val .null, .val (.ref b7), .val (.ref b8), .val (.int (1 : Int32)), .val (.ref b8), .unset, .unset, .unset] [(.ref b8)])) _
    refine st14.trans ?_
    show Steps p.tables e below (T14.setTop (mkF m 127 #[.val (.int p1), .val (.int p2), .val (.int p3), .val (.int p4), .val (.int p5), .val (.int v12_s0), .val (.int v27_s0), .val .null, .val (.ref b7), .val (.ref b8), .val (.int (1 : Int32)), .val (.ref b8), .unset, .unset, .unset] [(.int v12_s0)])) _
    refine XS.iload X14.here hx rfl (hb hby at_127) rfl ?_
    show Steps p.tables e below (T14.setTop (mkF m 129 #[.val (.int p1), .val (.int p2), .val (.int p3), .val (.int p4), .val (.int p5), .val (.int v12_s0), .val (.int v27_s0), .val .null, .val (.ref b7), .val (.ref b8), .val (.int (1 : Int32)), .val (.ref b8), .unset, .unset, .unset] [(.int v12_s0), (.int v12_s0)])) _
    refine XS.icmpNo X14.here hx rfl (hb hby at_129) rfl (teq (rfl : v12_s0 = v12_s0)).2 ?_
    show Steps p.tables e below (T14.setTop (mkF m 132 #[.val (.int p1), .val (.int p2), .val (.int p3), .val (.int p4), .val (.int p5), .val (.int v12_s0), .val (.int v27_s0), .val .null, .val (.ref b7), .val (.ref b8), .val (.int (1 : Int32)), .val (.ref b8), .unset, .unset, .unset] [])) _
    refine XS.aload X14.here hx rfl (hb hby at_132) rfl rfl ?_
    show Steps p.tables e below (T14.setTop (mkF m 134 #[.val (.int p1), .val (.int p2), .val (.int p3), .val (.int p4), .val (.int p5), .val (.int v12_s0), .val (.int v27_s0), .val .null, .val (.ref b7), .val (.ref b8), .val (.int (1 : Int32)), .val (.ref b8), .unset, .unset, .unset] [(.ref b8)])) _
    refine st15.trans ?_
    show Steps p.tables e below (T15.setTop (mkF m 137 #[.val (.int p1), .val (.int p2), .val (.int p3), .val (.int p4), .val (.int p5), .val (.int v12_s0), .val (.int v27_s0), .val .null, .val (.ref b7), .val (.ref b8), .val (.int (1 : Int32)), .val (.ref b8), .unset, .unset, .unset] [.null])) _
    refine XS.aload X15.here hx rfl (hb hby at_137) rfl rfl ?_
    show Steps p.tables e below (T15.setTop (mkF m 139 #[.val (.int p1), .val (.int p2), .val (.int p3), .val (.int p4), .val (.int p5), .val (.int v12_s0), .val (.int v27_s0), .val .null, .val (.ref b7), .val (.ref b8), .val (.int (1 : Int32)), .val (.ref b8), .unset, .unset, .unset] [.null, .null])) _
    refine Jvm.RoadKit.acmp (g := (mkF m 139 #[.val (.int p1), .val (.int p2), .val (.int p3), .val (.int p4), .val (.int p5), .val (.int v12_s0), .val (.int v27_s0), .val .null, .val (.ref b7), .val (.ref b8), .val (.int (1 : Int32)), .val (.ref b8), .unset, .unset, .unset] [.null, .null])) X15 hx rfl rfl rfl (pc0 := 139) (pc' := 142) (same := true) rfl (hb hby at_139) rfl (decide_eq_true rfl) (by decide) (by decide) ?_
    show Steps p.tables e below (T15.setTop (mkF m 142 #[.val (.int p1), .val (.int p2), .val (.int p3), .val (.int p4), .val (.int p5), .val (.int v12_s0), .val (.int v27_s0), .val .null, .val (.ref b7), .val (.ref b8), .val (.int (1 : Int32)), .val (.ref b8), .unset, .unset, .unset] [])) _
    refine XS.iconst X15.here hx rfl (hb hby at_142) ?_
    show Steps p.tables e below (T15.setTop (mkF m 143 #[.val (.int p1), .val (.int p2), .val (.int p3), .val (.int p4), .val (.int p5), .val (.int v12_s0), .val (.int v27_s0), .val .null, .val (.ref b7), .val (.ref b8), .val (.int (1 : Int32)), .val (.ref b8), .unset, .unset, .unset] [(.int (1 : Int32))])) _
    refine XS.goto X15.here hx rfl (pc0 := 143) (pc' := 147) rfl (hb hby at_143) (by decide) (by decide) ?_
    show Steps p.tables e below (T15.setTop (mkF m 147 #[.val (.int p1), .val (.int p2), .val (.int p3), .val (.int p4), .val (.int p5), .val (.int v12_s0), .val (.int v27_s0), .val .null, .val (.ref b7), .val (.ref b8), .val (.int (1 : Int32)), .val (.ref b8), .unset, .unset, .unset] [(.int (1 : Int32))])) _
    refine XS.istore X15.here hx rfl (hb hby at_147) rfl (l' := #[.val (.int p1), .val (.int p2), .val (.int p3), .val (.int p4), .val (.int p5), .val (.int v12_s0), .val (.int v27_s0), .val .null, .val (.ref b7), .val (.ref b8), .val (.int (1 : Int32)), .val (.ref b8), .unset, .unset, .unset]) rfl ?_
    show Steps p.tables e below (T15.setTop (mkF m 149 #[.val (.int p1), .val (.int p2), .val (.int p3), .val (.int p4), .val (.int p5), .val (.int v12_s0), .val (.int v27_s0), .val .null, .val (.ref b7), .val (.ref b8), .val (.int (1 : Int32)), .val (.ref b8), .unset, .unset, .unset] [])) _
    refine XS.aload X15.here hx rfl (hb hby at_149) rfl rfl ?_
    show Steps p.tables e below (T15.setTop (mkF m 151 #[.val (.int p1), .val (.int p2), .val (.int p3), .val (.int p4), .val (.int p5), .val (.int v12_s0), .val (.int v27_s0), .val .null, .val (.ref b7), .val (.ref b8), .val (.int (1 : Int32)), .val (.ref b8), .unset, .unset, .unset] [(.ref b8)])) _
    refine XS.aload X15.here hx rfl (hb hby at_151) rfl rfl ?_
    show Steps p.tables e below (T15.setTop (mkF m 153 #[.val (.int p1), .val (.int p2), .val (.int p3), .val (.int p4), .val (.int p5), .val (.int v12_s0), .val (.int v27_s0), .val .null, .val (.ref b7), .val (.ref b8), .val (.int (1 : Int32)), .val (.ref b8), .unset, .unset, .unset] [(.ref b7), (.ref b8)])) _
    refine XS.iload X15.here hx rfl (hb hby at_153) rfl ?_
    show Steps p.tables e below (T15.setTop (mkF m 155 #[.val (.int p1), .val (.int p2), .val (.int p3), .val (.int p4), .val (.int p5), .val (.int v12_s0), .val (.int v27_s0), .val .null, .val (.ref b7), .val (.ref b8), .val (.int (1 : Int32)), .val (.ref b8), .unset, .unset, .unset] [(.int v27_s0), (.ref b7), (.ref b8)])) _
    refine st16.trans ?_
    show Steps p.tables e below (T16.setTop (mkF m 158 #[.val (.int p1), .val (.int p2), .val (.int p3), .val (.int p4), .val (.int p5), .val (.int v12_s0), .val (.int v27_s0), .val .null, .val (.ref b7), .val (.ref b8), .val (.int (1 : Int32)), .val (.ref b8), .unset, .unset, .unset] [(.ref b8)])) _
    refine XS.astore X16.here hx rfl (hb hby at_158) rfl rfl (l' := #[.val (.int p1), .val (.int p2), .val (.int p3), .val (.int p4), .val (.int p5), .val (.int v12_s0), .val (.int v27_s0), .val .null, .val (.ref b7), .val (.ref b8), .val (.int (1 : Int32)), .val (.ref b8), .val (.ref b8), .unset, .unset]) rfl ?_
    show Steps p.tables e below (T16.setTop (mkF m 160 #[.val (.int p1), .val (.int p2), .val (.int p3), .val (.int p4), .val (.int p5), .val (.int v12_s0), .val (.int v27_s0), .val .null, .val (.ref b7), .val (.ref b8), .val (.int (1 : Int32)), .val (.ref b8), .val (.ref b8), .unset, .unset] [])) _
    refine XS.iload X16.here hx rfl (hb hby at_160) rfl ?_
    show Steps p.tables e below (T16.setTop (mkF m 162 #[.val (.int p1), .val (.int p2), .val (.int p3), .val (.int p4), .val (.int p5), .val (.int v12_s0), .val (.int v27_s0), .val .null, .val (.ref b7), .val (.ref b8), .val (.int (1 : Int32)), .val (.ref b8), .val (.ref b8), .unset, .unset] [(.int v12_s0)])) _
    refine XS.ifNo X16.here hx rfl (hb hby at_162) rfl ((if0 _ _).trans (teq hc162).2) ?_
    show Steps p.tables e below (T16.setTop (mkF m 165 #[.val (.int p1), .val (.int p2), .val (.int p3), .val (.int p4), .val (.int p5), .val (.int v12_s0), .val (.int v27_s0), .val .null, .val (.ref b7), .val (.ref b8), .val (.int (1 : Int32)), .val (.ref b8), .val (.ref b8), .unset, .unset] [])) _
    refine XS.iload X16.here hx rfl (hb hby at_165) rfl ?_
    show Steps p.tables e below (T16.setTop (mkF m 167 #[.val (.int p1), .val (.int p2), .val (.int p3), .val (.int p4), .val (.int p5), .val (.int v12_s0), .val (.int v27_s0), .val .null, .val (.ref b7), .val (.ref b8), .val (.int (1 : Int32)), .val (.ref b8), .val (.ref b8), .unset, .unset] [(.int v27_s0)])) _
    refine XS.goto X16.here hx rfl (pc0 := 167) (pc' := 172) rfl (hb hby at_167) (by decide) (by decide) ?_
    show Steps p.tables e below (T16.setTop (mkF m 172 #[.val (.int p1), .val (.int p2), .val (.int p3), .val (.int p4), .val (.int p5), .val (.int v12_s0), .val (.int v27_s0), .val .null, .val (.ref b7), .val (.ref b8), .val (.int (1 : Int32)), .val (.ref b8), .val (.ref b8), .unset, .unset] [(.int v27_s0)])) _
    refine XS.istore X16.here hx rfl (hb hby at_172) rfl (l' := #[.val (.int p1), .val (.int p2), .val (.int p3), .val (.int p4), .val (.int p5), .val (.int v12_s0), .val (.int v27_s0), .val .null, .val (.ref b7), .val (.ref b8), .val (.int (1 : Int32)), .val (.ref b8), .val (.ref b8), .val (.int v27_s0), .unset]) rfl ?_
    show Steps p.tables e below (T16.setTop (mkF m 174 #[.val (.int p1), .val (.int p2), .val (.int p3), .val (.int p4), .val (.int p5), .val (.int v12_s0), .val (.int v27_s0), .val .null, .val (.ref b7), .val (.ref b8), .val (.int (1 : Int32)), .val (.ref b8), .val (.ref b8), .val (.int v27_s0), .unset] [])) _
    refine XS.iload X16.here hx rfl (hb hby at_174) rfl ?_
    show Steps p.tables e below (T16.setTop (mkF m 176 #[.val (.int p1), .val (.int p2), .val (.int p3), .val (.int p4), .val (.int p5), .val (.int v12_s0), .val (.int v27_s0), .val .null, .val (.ref b7), .val (.ref b8), .val (.int (1 : Int32)), .val (.ref b8), .val (.ref b8), .val (.int v27_s0), .unset] [(.int v12_s0)])) _
    refine XS.ifNo X16.here hx rfl (hb hby at_176) rfl ((if0 _ _).trans (teq hc176).2) ?_
    show Steps p.tables e below (T16.setTop (mkF m 179 #[.val (.int p1), .val (.int p2), .val (.int p3), .val (.int p4), .val (.int p5), .val (.int v12_s0), .val (.int v27_s0), .val .null, .val (.ref b7), .val (.ref b8), .val (.int (1 : Int32)), .val (.ref b8), .val (.ref b8), .val (.int v27_s0), .unset] [])) _
    refine XS.aload X16.here hx rfl (hb hby at_179) rfl rfl ?_
    show Steps p.tables e below (T16.setTop (mkF m 181 #[.val (.int p1), .val (.int p2), .val (.int p3), .val (.int p4), .val (.int p5), .val (.int v12_s0), .val (.int v27_s0), .val .null, .val (.ref b7), .val (.ref b8), .val (.int (1 : Int32)), .val (.ref b8), .val (.ref b8), .val (.int v27_s0), .unset] [(.ref b7)])) _
    refine XS.goto X16.here hx rfl (pc0 := 181) (pc' := 186) rfl (hb hby at_181) (by decide) (by decide) ?_
    show Steps p.tables e below (T16.setTop (mkF m 186 #[.val (.int p1), .val (.int p2), .val (.int p3), .val (.int p4), .val (.int p5), .val (.int v12_s0), .val (.int v27_s0), .val .null, .val (.ref b7), .val (.ref b8), .val (.int (1 : Int32)), .val (.ref b8), .val (.ref b8), .val (.int v27_s0), .unset] [(.ref b7)])) _
    refine XS.astore X16.here hx rfl (hb hby at_186) rfl rfl (l' := #[.val (.int p1), .val (.int p2), .val (.int p3), .val (.int p4), .val (.int p5), .val (.int v12_s0), .val (.int v27_s0), .val .null, .val (.ref b7), .val (.ref b8), .val (.int (1 : Int32)), .val (.ref b8), .val (.ref b8), .val (.int v27_s0), .val (.ref b7)]) rfl ?_
    show Steps p.tables e below (T16.setTop (mkF m 188 #[.val (.int p1), .val (.int p2), .val (.int p3), .val (.int p4), .val (.int p5), .val (.int v12_s0), .val (.int v27_s0), .val .null, .val (.ref b7), .val (.ref b8), .val (.int (1 : Int32)), .val (.ref b8), .val (.ref b8), .val (.int v27_s0), .val (.ref b7)] [])) _
    refine XS.iload X16.here hx rfl (hb hby at_188) rfl ?_
    show Steps p.tables e below (T16.setTop (mkF m 190 #[.val (.int p1), .val (.int p2), .val (.int p3), .val (.int p4), .val (.int p5), .val (.int v12_s0), .val (.int v27_s0), .val .null, .val (.ref b7), .val (.ref b8), .val (.int (1 : Int32)), .val (.ref b8), .val (.ref b8), .val (.int v27_s0), .val (.ref b7)] [(.int (1 : Int32))])) _
    refine XS.ifNo X16.here hx rfl (hb hby at_190) rfl ((if0 _ _).trans (feq (by decide : ¬ ((1 : Int32) = (0 : Int32)))).1) ?_
    show Steps p.tables e below (T16.setTop (mkF m 193 #[.val (.int p1), .val (.int p2), .val (.int p3), .val (.int p4), .val (.int p5), .val (.int v12_s0), .val (.int v27_s0), .val .null, .val (.ref b7), .val (.ref b8), .val (.int (1 : Int32)), .val (.ref b8), .val (.ref b8), .val (.int v27_s0), .val (.ref b7)] [])) _
    refine XS.aload X16.here hx rfl (hb hby at_193) rfl rfl ?_
    show Steps p.tables e below (T16.setTop (mkF m 195 #[.val (.int p1), .val (.int p2), .val (.int p3), .val (.int p4), .val (.int p5), .val (.int v12_s0), .val (.int v27_s0), .val .null, .val (.ref b7), .val (.ref b8), .val (.int (1 : Int32)), .val (.ref b8), .val (.ref b8), .val (.int v27_s0), .val (.ref b7)] [(.ref b8)])) _
    refine XS.aload X16.here hx rfl (hb hby at_195) rfl rfl ?_
    show Steps p.tables e below (T16.setTop (mkF m 197 #[.val (.int p1), .val (.int p2), .val (.int p3), .val (.int p4), .val (.int p5), .val (.int v12_s0), .val (.int v27_s0), .val .null, .val (.ref b7), .val (.ref b8), .val (.int (1 : Int32)), .val (.ref b8), .val (.ref b8), .val (.int v27_s0), .val (.ref b7)] [(.ref b8), (.ref b8)])) _
    refine Jvm.RoadKit.acmp (g := (mkF m 197 #[.val (.int p1), .val (.int p2), .val (.int p3), .val (.int p4), .val (.int p5), .val (.int v12_s0), .val (.int v27_s0), .val .null, .val (.ref b7), .val (.ref b8), .val (.int (1 : Int32)), .val (.ref b8), .val (.ref b8), .val (.int v27_s0), .val (.ref b7)] [(.ref b8), (.ref b8)])) X16 hx rfl rfl rfl (pc0 := 197) (pc' := 200) (same := true) rfl (hb hby at_197) rfl (decide_eq_true rfl) (by decide) (by decide) ?_
    show Steps p.tables e below (T16.setTop (mkF m 200 #[.val (.int p1), .val (.int p2), .val (.int p3), .val (.int p4), .val (.int p5), .val (.int v12_s0), .val (.int v27_s0), .val .null, .val (.ref b7), .val (.ref b8), .val (.int (1 : Int32)), .val (.ref b8), .val (.ref b8), .val (.int v27_s0), .val (.ref b7)] [])) _
    refine XS.aload X16.here hx rfl (hb hby at_200) rfl rfl ?_
    show Steps p.tables e below (T16.setTop (mkF m 202 #[.val (.int p1), .val (.int p2), .val (.int p3), .val (.int p4), .val (.int p5), .val (.int v12_s0), .val (.int v27_s0), .val .null, .val (.ref b7), .val (.ref b8), .val (.int (1 : Int32)), .val (.ref b8), .val (.ref b8), .val (.int v27_s0), .val (.ref b7)] [(.ref b8)])) _
    refine st17.trans ?_
    show Steps p.tables e below (T17.setTop (mkF m 205 #[.val (.int p1), .val (.int p2), .val (.int p3), .val (.int p4), .val (.int p5), .val (.int v12_s0), .val (.int v27_s0), .val .null, .val (.ref b7), .val (.ref b8), .val (.int (1 : Int32)), .val (.ref b8), .val (.ref b8), .val (.int v27_s0), .val (.ref b7)] [(.int v27_s0)])) _
    refine XS.iload X17.here hx rfl (hb hby at_205) rfl ?_
    show Steps p.tables e below (T17.setTop (mkF m 207 #[.val (.int p1), .val (.int p2), .val (.int p3), .val (.int p4), .val (.int p5), .val (.int v12_s0), .val (.int v27_s0), .val .null, .val (.ref b7), .val (.ref b8), .val (.int (1 : Int32)), .val (.ref b8), .val (.ref b8), .val (.int v27_s0), .val (.ref b7)] [(.int v27_s0), (.int v27_s0)])) _
    refine XS.icmpNo X17.here hx rfl (hb hby at_207) rfl (teq (rfl : v27_s0 = v27_s0)).2 ?_
    show Steps p.tables e below (T17.setTop (mkF m 210 #[.val (.int p1), .val (.int p2), .val (.int p3), .val (.int p4), .val (.int p5), .val (.int v12_s0), .val (.int v27_s0), .val .null, .val (.ref b7), .val (.ref b8), .val (.int (1 : Int32)), .val (.ref b8), .val (.ref b8), .val (.int v27_s0), .val (.ref b7)] [])) _
    refine XS.aload X17.here hx rfl (hb hby at_210) rfl rfl ?_
    show Steps p.tables e below (T17.setTop (mkF m 212 #[.val (.int p1), .val (.int p2), .val (.int p3), .val (.int p4), .val (.int p5), .val (.int v12_s0), .val (.int v27_s0), .val .null, .val (.ref b7), .val (.ref b8), .val (.int (1 : Int32)), .val (.ref b8), .val (.ref b8), .val (.int v27_s0), .val (.ref b7)] [(.ref b8)])) _
    refine st18.trans ?_
    show Steps p.tables e below (T18.setTop (mkF m 215 #[.val (.int p1), .val (.int p2), .val (.int p3), .val (.int p4), .val (.int p5), .val (.int v12_s0), .val (.int v27_s0), .val .null, .val (.ref b7), .val (.ref b8), .val (.int (1 : Int32)), .val (.ref b8), .val (.ref b8), .val (.int v27_s0), .val (.ref b7)] [(.ref b7)])) _
    refine XS.aload X18.here hx rfl (hb hby at_215) rfl rfl ?_
    show Steps p.tables e below (T18.setTop (mkF m 217 #[.val (.int p1), .val (.int p2), .val (.int p3), .val (.int p4), .val (.int p5), .val (.int v12_s0), .val (.int v27_s0), .val .null, .val (.ref b7), .val (.ref b8), .val (.int (1 : Int32)), .val (.ref b8), .val (.ref b8), .val (.int v27_s0), .val (.ref b7)] [(.ref b7), (.ref b7)])) _
    refine Jvm.RoadKit.acmp (g := (mkF m 217 #[.val (.int p1), .val (.int p2), .val (.int p3), .val (.int p4), .val (.int p5), .val (.int v12_s0), .val (.int v27_s0), .val .null, .val (.ref b7), .val (.ref b8), .val (.int (1 : Int32)), .val (.ref b8), .val (.ref b8), .val (.int v27_s0), .val (.ref b7)] [(.ref b7), (.ref b7)])) X18 hx rfl rfl rfl (pc0 := 217) (pc' := 220) (same := true) rfl (hb hby at_217) rfl (decide_eq_true rfl) (by decide) (by decide) ?_
    show Steps p.tables e below (T18.setTop (mkF m 220 #[.val (.int p1), .val (.int p2), .val (.int p3), .val (.int p4), .val (.int p5), .val (.int v12_s0), .val (.int v27_s0), .val .null, .val (.ref b7), .val (.ref b8), .val (.int (1 : Int32)), .val (.ref b8), .val (.ref b8), .val (.int v27_s0), .val (.ref b7)] [])) _
    refine XS.iconst X18.here hx rfl (hb hby at_220) ?_
    show Steps p.tables e below (T18.setTop (mkF m 221 #[.val (.int p1), .val (.int p2), .val (.int p3), .val (.int p4), .val (.int p5), .val (.int v12_s0), .val (.int v27_s0), .val .null, .val (.ref b7), .val (.ref b8), .val (.int (1 : Int32)), .val (.ref b8), .val (.ref b8), .val (.int v27_s0), .val (.ref b7)] [(.int (1 : Int32))])) _
    refine XS.goto X18.here hx rfl (pc0 := 221) (pc' := 225) rfl (hb hby at_221) (by decide) (by decide) ?_
    show Steps p.tables e below (T18.setTop (mkF m 225 #[.val (.int p1), .val (.int p2), .val (.int p3), .val (.int p4), .val (.int p5), .val (.int v12_s0), .val (.int v27_s0), .val .null, .val (.ref b7), .val (.ref b8), .val (.int (1 : Int32)), .val (.ref b8), .val (.ref b8), .val (.int v27_s0), .val (.ref b7)] [(.int (1 : Int32))])) _
    refine XS.istore X18.here hx rfl (hb hby at_225) rfl (l' := #[.val (.int p1), .val (.int p2), .val (.int p3), .val (.int p4), .val (.int p5), .val (.int v12_s0), .val (.int v27_s0), .val .null, .val (.ref b7), .val (.ref b8), .val (.int (1 : Int32)), .val (.ref b8), .val (.ref b8), .val (.int v27_s0), .val (.ref b7)]) rfl ?_
    show Steps p.tables e below (T18.setTop (mkF m 227 #[.val (.int p1), .val (.int p2), .val (.int p3), .val (.int p4), .val (.int p5), .val (.int v12_s0), .val (.int v27_s0), .val .null, .val (.ref b7), .val (.ref b8), .val (.int (1 : Int32)), .val (.ref b8), .val (.ref b8), .val (.int v27_s0), .val (.ref b7)] [])) _
    refine XS.iload X18.here hx rfl (hb hby at_227) rfl ?_
    show Steps p.tables e below (T18.setTop (mkF m 229 #[.val (.int p1), .val (.int p2), .val (.int p3), .val (.int p4), .val (.int p5), .val (.int v12_s0), .val (.int v27_s0), .val .null, .val (.ref b7), .val (.ref b8), .val (.int (1 : Int32)), .val (.ref b8), .val (.ref b8), .val (.int v27_s0), .val (.ref b7)] [(.int (1 : Int32))])) _
    exact retN X18 hx (t := .boolean) Bd.returns (by simp) (hb hby at_229) hr
  · show Q0nrz Z p1 p2 p3 p4 p5 v12_s0 v27_s0 h0 n0 _ T18.heap _
    rw [e18]
    exact ⟨rfl, N18⟩
def Q0nrt (Z : State) (p1 : Int32) (p2 : Int32) (p3 : Int32) (p4 : Int32) (p5 : Int32) (v12_s0 : Int32) (v27_s0 : Int32) (h0 : Heap) (n0 : Nat) (v : Option Value) (h : Heap) (L : List Loc) : Prop := v = some (.int (1 : Int32)) ∧ Fr n0 L
set_option maxRecDepth 65536 in
set_option maxHeartbeats 40000000 in
theorem rm0nrt (l : Launch) (Z : State) (a0 : Array Value) (hw : ∀ d ∈ tables_1, d.before a0 Z = true) (ws : List Jvm.Cond) (p1 : Int32) (p2 : Int32) (p3 : Int32) (p4 : Int32) (p5 : Int32) (v12_s0 : Int32) (v27_s0 : Int32) (zc : Int32) (h0 : Heap) (n0 : Nat) (Z0 : n0 ≤ h0.size) (hv12_s0 : v12_s0 = (if (p5 &&& (1 : Int32)) = (0 : Int32) then p1 else (0 : Int32))) (hv27_s0 : v27_s0 = (if (p5 &&& (8 : Int32)) = (0 : Int32) then p2 else (0 : Int32))) (O0 : Old Z n0 h0) (hc34 : ¬ ((p5 &&& (2 : Int32)) = (0 : Int32))) (hc52 : (p5 &&& (4 : Int32)) = (0 : Int32)) (hc162 : ¬ (v12_s0 = (0 : Int32))) (hc176 : ¬ (v12_s0 = (0 : Int32))) (hlT : l.stackTraces = true) (S0 : own_St Z Z.heap) (S_cs : Sta Z Z.heap "java/lang/String" "COMPACT_STRINGS" "Z" (.int zc)) (hcs : ¬ (zc = (0 : Int32))) (wS : ∀ a ∈ Bundle.stringAtoms, a.before a0 Z = true) (hz0 : h0 = Z.heap) :
    MetFree l x (head1 (Jvm.Cond.code x code maxLocals ret :: ws) room_1) (fun a U => a = #[(.int p1), (.int p2), (.int p3), (.int p4), (.int p5)] ∧ U.vm = Z.vm ∧ U.heap = h0) (fun _ _ B U _ => U.vm.MethodsKnown ∧ U.vm.FramesKnown B) (fun _ U o U' => ∃ v L, o = .returned v ∧ Q0nrt Z p1 p2 p3 p4 p5 v12_s0 v27_s0 h0 n0 v U'.heap L ∧ ReturnedEndW U o U' L room_1.cells room_1.slots) := by
  refine MetFree.of_bodySF (plainFor_of_name pn_0) hisR ?_
  intro p e s m args below meth c s₁ Bd hml0 hP hK
  obtain ⟨rfl, hU, hh⟩ := hP
  obtain ⟨hTK, hBK⟩ := hK
  rw [hU] at hTK hBK
  have hZ : Z.Warmed39 (s.setVm s.vm).vm := by
    show Z.Warmed39 s.vm
    rw [hU]; exact State.Warmed39.refl Z
  have hx := Bd.exec
  have hby := Bd.bytes
  have hml : c.maxLocals = 15 := hml0
  have hown : (s.setVm s.vm).vm.findClass "nephrite/EvaluationExceptionOnPinLaw" = some m.cls := findClass_of_methodNamed Bd.named
  have hnm := (name_of_methodNamed Bd.named Bd.method).1
  have X0 : Stand p l e room_1 (s.setVm s.vm) m #[(.int p1), (.int p2), (.int p3), (.int p4), (.int p5)] below meth c s₁ [] 0 0 := Stand.of_body Bd
  have e0 : s₁.heap = h0 := by rw [← hh, Bd.state]; rfl
  have N0 := Fr.nil n0
  have hS : s.Since s.vm h0.size := (State.WarmedH.refl s).since _
  have hk : h0.size ≤ h0.size := Nat.le_refl _
  have pre0 : ∀ t, Steps p.tables e below (s₁.setTop (mkF m 0 #[.val (.int p1), .val (.int p2), .val (.int p3), .val (.int p4), .val (.int p5), .unset, .unset, .unset, .unset, .unset, .unset, .unset, .unset, .unset, .unset] [])) t → Steps p.tables e below (s₁.setTop (entryFrame m #[(.int p1), (.int p2), (.int p3), (.int p4), (.int p5)] maxLocals)) t := fun t k => castTop (ef_0 m p1 p2 p3 p4 p5) k
  have sg4 : ∀ t, Steps p.tables e below (s₁.setTop (mkF m 12 #[.val (.int p1), .val (.int p2), .val (.int p3), .val (.int p4), .val (.int p5), .unset, .unset, .unset, .unset, .unset, .unset, .unset, .unset, .unset, .unset] [(.int v12_s0)])) t → Steps p.tables e below (s₁.setTop (mkF m 4 #[.val (.int p1), .val (.int p2), .val (.int p3), .val (.int p4), .val (.int p5), .unset, .unset, .unset, .unset, .unset, .unset, .unset, .unset, .unset, .unset] [(.int (p5 &&& (1 : Int32)))])) t := by
    intro t kt
    show Steps p.tables e below (s₁.setTop (mkF m 4 #[.val (.int p1), .val (.int p2), .val (.int p3), .val (.int p4), .val (.int p5), .unset, .unset, .unset, .unset, .unset, .unset, .unset, .unset, .unset, .unset] [(.int (p5 &&& (1 : Int32)))])) _
    by_cases hm4 : (p5 &&& (1 : Int32)) = (0 : Int32)
    · rw [show v12_s0 = p1 by rw [hv12_s0, if_pos hm4]] at kt
      refine XS.ifYes X0.here hx rfl (pc0 := 4) (pc' := 11) rfl (hb hby at_4) rfl ((if0 _ _).trans (teq hm4).1) (by decide) (by decide) ?_
      show Steps p.tables e below (s₁.setTop (mkF m 11 #[.val (.int p1), .val (.int p2), .val (.int p3), .val (.int p4), .val (.int p5), .unset, .unset, .unset, .unset, .unset, .unset, .unset, .unset, .unset, .unset] [])) _
      refine XS.iloadN X0.here hx rfl (hb hby at_11) rfl ?_
      exact kt
    · rw [show v12_s0 = (0 : Int32) by rw [hv12_s0, if_neg hm4]] at kt
      refine XS.ifNo X0.here hx rfl (hb hby at_4) rfl ((if0 _ _).trans (feq hm4).1) ?_
      show Steps p.tables e below (s₁.setTop (mkF m 7 #[.val (.int p1), .val (.int p2), .val (.int p3), .val (.int p4), .val (.int p5), .unset, .unset, .unset, .unset, .unset, .unset, .unset, .unset, .unset, .unset] [])) _
      refine XS.iconst X0.here hx rfl (hb hby at_7) ?_
      show Steps p.tables e below (s₁.setTop (mkF m 8 #[.val (.int p1), .val (.int p2), .val (.int p3), .val (.int p4), .val (.int p5), .unset, .unset, .unset, .unset, .unset, .unset, .unset, .unset, .unset, .unset] [(.int (0 : Int32))])) _
      refine XS.goto X0.here hx rfl (pc0 := 8) (pc' := 12) rfl (hb hby at_8) (by decide) (by decide) ?_
      exact kt
  have sg19 : ∀ t, Steps p.tables e below (s₁.setTop (mkF m 27 #[.val (.int p1), .val (.int p2), .val (.int p3), .val (.int p4), .val (.int p5), .val (.int v12_s0), .unset, .unset, .unset, .unset, .unset, .unset, .unset, .unset, .unset] [(.int v27_s0)])) t → Steps p.tables e below (s₁.setTop (mkF m 19 #[.val (.int p1), .val (.int p2), .val (.int p3), .val (.int p4), .val (.int p5), .val (.int v12_s0), .unset, .unset, .unset, .unset, .unset, .unset, .unset, .unset, .unset] [(.int (p5 &&& (8 : Int32)))])) t := by
    intro t kt
    show Steps p.tables e below (s₁.setTop (mkF m 19 #[.val (.int p1), .val (.int p2), .val (.int p3), .val (.int p4), .val (.int p5), .val (.int v12_s0), .unset, .unset, .unset, .unset, .unset, .unset, .unset, .unset, .unset] [(.int (p5 &&& (8 : Int32)))])) _
    by_cases hm19 : (p5 &&& (8 : Int32)) = (0 : Int32)
    · rw [show v27_s0 = p2 by rw [hv27_s0, if_pos hm19]] at kt
      refine XS.ifYes X0.here hx rfl (pc0 := 19) (pc' := 26) rfl (hb hby at_19) rfl ((if0 _ _).trans (teq hm19).1) (by decide) (by decide) ?_
      show Steps p.tables e below (s₁.setTop (mkF m 26 #[.val (.int p1), .val (.int p2), .val (.int p3), .val (.int p4), .val (.int p5), .val (.int v12_s0), .unset, .unset, .unset, .unset, .unset, .unset, .unset, .unset, .unset] [])) _
      refine XS.iloadN X0.here hx rfl (hb hby at_26) rfl ?_
      exact kt
    · rw [show v27_s0 = (0 : Int32) by rw [hv27_s0, if_neg hm19]] at kt
      refine XS.ifNo X0.here hx rfl (hb hby at_19) rfl ((if0 _ _).trans (feq hm19).1) ?_
      show Steps p.tables e below (s₁.setTop (mkF m 22 #[.val (.int p1), .val (.int p2), .val (.int p3), .val (.int p4), .val (.int p5), .val (.int v12_s0), .unset, .unset, .unset, .unset, .unset, .unset, .unset, .unset, .unset] [])) _
      refine XS.iconst X0.here hx rfl (hb hby at_22) ?_
      show Steps p.tables e below (s₁.setTop (mkF m 23 #[.val (.int p1), .val (.int p2), .val (.int p3), .val (.int p4), .val (.int p5), .val (.int v12_s0), .unset, .unset, .unset, .unset, .unset, .unset, .unset, .unset, .unset] [(.int (0 : Int32))])) _
      refine XS.goto X0.here hx rfl (pc0 := 23) (pc' := 27) rfl (hb hby at_23) (by decide) (by decide) ?_
      exact kt
  obtain ⟨_, _, ⟨T6, L6, k6, n6⟩, -, X6, ⟨Lc6, hQ6, l6, y6, z6⟩, st6⟩ := Jvm.LawKit.callS X0 hx (y := (⟨"nephrite/EvaluationExceptionOnPinLaw", "name", "(IZ)Ljava/lang/String;"⟩ : MethodName)) hown (mvT hZ (hw _ (List.mem_of_getElem? (i := 0) rfl))) (mvT hZ (hw _ (List.mem_of_getElem? (i := 1) rfl))) (mvT hZ (hw _ (List.mem_of_getElem? (i := 2) rfl))) (mvT hZ (hw _ (List.mem_of_getElem? (i := 3) rfl))) (by decide) (backOf (W := 0) (rm1n l Z a0 hw [] p3 (1 : Int32)  h0 n0 Z0 (by decide)) hZ (hw _ (List.mem_of_getElem? (i := 3) rfl)) (hw _ (List.mem_of_getElem? (i := 2) rfl)) (by decide) (by decide)) (g := (mkF m 42 #[.val (.int p1), .val (.int p2), .val (.int p3), .val (.int p4), .val (.int p5), .val (.int v12_s0), .val (.int v27_s0), .unset, .unset, .unset, .unset, .unset, .unset, .unset, .unset] [(.int (1 : Int32)), (.int p3)])) rfl (by rw [hml]; rfl) (argsL := [(.int p3), (.int (1 : Int32))]) (rest := []) (lenOf pd_0_0 rfl) rfl (by show 2 * 0 + _ ≤ _; exact Nat.le_of_eq rfl) (hb hby at_42) (fun _ _ => ⟨rfl, e0, (by decide : 0 + 0 ≤ _), (by decide : 0 + 0 ≤ _)⟩)
  dsimp only [Pt.U, Pt.locs, Pt.cells, Pt.slots] at X6 l6 y6 z6 st6 hQ6
  subst l6 y6 z6
  obtain ⟨rfl, N6q, e6⟩ := hQ6
  have N6 := Fr.app N0 N6q
  obtain ⟨_, _, ⟨T7, L7, k7, n7⟩, -, X7, ⟨Lc7, hQ7, l7, y7, z7⟩, st7⟩ := Jvm.LawKit.callS X6 hx (y := (⟨"nephrite/EvaluationExceptionOnPinLaw", "name", "(IZ)Ljava/lang/String;"⟩ : MethodName)) hown (mvT hZ (hw _ (List.mem_of_getElem? (i := 0) rfl))) (mvT hZ (hw _ (List.mem_of_getElem? (i := 1) rfl))) (mvT hZ (hw _ (List.mem_of_getElem? (i := 2) rfl))) (mvT hZ (hw _ (List.mem_of_getElem? (i := 3) rfl))) (by decide) (backOf (W := 0) (rm1 l Z a0 hw [] p4 (0 : Int32) zc h0 n0 Z0 S_cs hcs O0 rfl) hZ (hw _ (List.mem_of_getElem? (i := 3) rfl)) (hw _ (List.mem_of_getElem? (i := 2) rfl)) (by decide) (by decide)) (g := (mkF m 60 #[.val (.int p1), .val (.int p2), .val (.int p3), .val (.int p4), .val (.int p5), .val (.int v12_s0), .val (.int v27_s0), .val .null, .unset, .unset, .unset, .unset, .unset, .unset, .unset] [(.int (0 : Int32)), (.int p4)])) rfl (by rw [hml]; rfl) (argsL := [(.int p4), (.int (0 : Int32))]) (rest := []) (lenOf pd_0_0 rfl) rfl (by show 2 * 0 + _ ≤ _; exact Nat.le_of_eq rfl) (hb hby at_60) (fun _ _ => ⟨rfl, e6, (by decide : 0 + 3 ≤ _), (by decide : 0 + 6 ≤ _)⟩)
  dsimp only [Pt.U, Pt.locs, Pt.cells, Pt.slots] at X7 l7 y7 z7 st7 hQ7
  subst l7 y7 z7
  obtain ⟨b7, rfl, N7q, K7c, g_b7, s7b, Ec7⟩ := hQ7
  have N7 := Fr.app N6 N7q
  have sz_b7 : h0.size ≤ b7 := Nat.le_trans (Keep.refl h0 []).1 s7b
  have K7 : Keep h0 T7.heap [] := (Keep.refl h0 []).trans K7c all0
  obtain ⟨T8, h8, X8, e8, E8, A8, D8, U8, st8⟩ := newO X7 hx hZ hown (hw _ (List.mem_of_getElem? (i := 34) rfl)) (hw _ (List.mem_of_getElem? (i := 35) rfl)) (hw _ (List.mem_of_getElem? (i := 36) rfl)) rfl (g := (mkF m 65 #[.val (.int p1), .val (.int p2), .val (.int p3), .val (.int p4), .val (.int p5), .val (.int v12_s0), .val (.int v27_s0), .val .null, .val (.ref b7), .unset, .unset, .unset, .unset, .unset, .unset] [])) rfl (hb hby at_65) (by decide) (by decide)
  obtain ⟨b8, g8⟩ : ∃ z, z = T7.heap.size := ⟨_, rfl⟩
  rw [← g8] at A8 D8 st8
  have F_cause_b8 : Fld Z h8 b8 "java/lang/Throwable" "cause" "Ljava/lang/Throwable;" .null := D8 (Or.inl (hw _ (List.mem_of_getElem? (i := 62) rfl))) (ty := (.object "java/lang/Throwable")) (by decide)
  have F_stackTrace_b8 : Fld Z h8 b8 "java/lang/Throwable" "stackTrace" "[Ljava/lang/StackTraceElement;" .null := D8 (Or.inl (hw _ (List.mem_of_getElem? (i := 65) rfl))) (ty := (.array (.object "java/lang/StackTraceElement"))) (by decide)
  have F_suppressedExceptions_b8 : Fld Z h8 b8 "java/lang/Throwable" "suppressedExceptions" "Ljava/util/List;" .null := D8 (Or.inl (hw _ (List.mem_of_getElem? (i := 68) rfl))) (ty := (.object "java/util/List")) (by decide)
  have F_detailMessage_b8 : Fld Z h8 b8 "java/lang/Throwable" "detailMessage" "Ljava/lang/String;" .null := D8 (Or.inl (hw _ (List.mem_of_getElem? (i := 92) rfl))) (ty := (.object "java/lang/String")) (by decide)
  have F_backtrace_b8 : Fld Z h8 b8 "java/lang/Throwable" "backtrace" "Ljava/lang/Object;" .null := D8 (Or.inl (hw _ (List.mem_of_getElem? (i := 93) rfl))) (ty := (.object "java/lang/Object")) (by decide)
  have F_depth_b8 : Fld Z h8 b8 "java/lang/Throwable" "depth" "I" (.int (0 : Int32)) := D8 (Or.inl (hw _ (List.mem_of_getElem? (i := 94) rfl))) (ty := .int) (by decide)
  have F_line_b8 : Fld Z h8 b8 "nephrite/EvaluationException" "line" "I" (.int (0 : Int32)) := D8 (Or.inl (hw _ (List.mem_of_getElem? (i := 103) rfl))) (ty := .int) (by decide)
  have F_templateName_b8 : Fld Z h8 b8 "nephrite/EvaluationException" "templateName" "Ljava/lang/String;" .null := D8 (Or.inl (hw _ (List.mem_of_getElem? (i := 110) rfl))) (ty := (.object "java/lang/String")) (by decide)
  have U_b8 : Unt h8 b8 := by rw [g8]; exact U8
  have E_b8 := A8
  have g_b8 : n0 ≤ b8 := Nat.le_trans (Nat.le_trans Z0 K7c.1) (Nat.le_of_eq g8.symm)
  have sz_b8 : h0.size ≤ b8 := (Nat.le_trans K7.1 (Nat.le_of_eq g8.symm))
  have K8 : Keep h0 h8 [] := K7.ext E8
  obtain ⟨b9, T9, h9, q9, X9, e9, E9, hS, hk, hZ, hown, hC9, -, st9⟩ := ldcOH X8 hx hZ hown (hw _ (List.mem_of_getElem? (i := 37) rfl)) wS e8 hS (Nat.le_trans hk K8.1) (EW.nil : EW Z a0 []) (fun _ q => by cases q) (g := (mkF m 69 #[.val (.int p1), .val (.int p2), .val (.int p3), .val (.int p4), .val (.int p5), .val (.int v12_s0), .val (.int v27_s0), .val .null, .val (.ref b7), .unset, .unset, .unset, .unset, .unset, .unset] [(.ref b8), (.ref b8)])) rfl (hb hby at_69) (n := 4) (by decide) (by decide) (by decide) (by decide)
  have H := hC9.1
  have K9 : Keep h0 h9 [] := K8.ext E9
  obtain ⟨_, _, ⟨T10, L10, k10, n10⟩, -, X10, ⟨Lc10, hQ10, l10, y10, z10⟩, st10⟩ := X9.specialBack hx (y := (⟨"nephrite/EvaluationException", "<init>", "(Ljava/lang/String;)V"⟩ : MethodName)) rfl hown (mvT hZ (hw _ (List.mem_of_getElem? (i := 40) rfl))) (mvT hZ (hw _ (List.mem_of_getElem? (i := 41) rfl))) (mvT hZ (hw _ (List.mem_of_getElem? (i := 42) rfl))) (by decide) (own_backK (W := 1) (rm8 l Z a0 hw [] b8 b9  h9 n0 (Nat.le_trans (Nat.le_trans (Nat.le_trans Z0 K7c.1) E8.1) E9.1) g_b8 hlT ⟨(E_b8.ext E9), (U_b8.ext E9), ⟨_, (F_cause_b8.ext E9)⟩, ⟨_, (F_stackTrace_b8.ext E9)⟩, ⟨_, (F_suppressedExceptions_b8.ext E9)⟩, (F_backtrace_b8.ext E9), _, (F_detailMessage_b8.ext E9)⟩ (own_St_old S0 (O0.keep K9 all0))) hZ (hw _ (List.mem_of_getElem? (i := 42) rfl)) (hw _ (List.mem_of_getElem? (i := 36) rfl)) (Vm.MethodsKnown.alikeC hZ.alike hTK) (Vm.FramesKnown.alikeC hZ.alike hBK) (by decide) (by decide)) (g := (mkF m 71 #[.val (.int p1), .val (.int p2), .val (.int p3), .val (.int p4), .val (.int p5), .val (.int v12_s0), .val (.int v27_s0), .val .null, .val (.ref b7), .unset, .unset, .unset, .unset, .unset, .unset] [(.ref b9), (.ref b8), (.ref b8)])) rfl (by rw [hml]; rfl) (Steps.refl _) (a := b8) (argsL := [(.ref b9)]) (rest := [(.ref b8)]) (lenOf pd_0_7 rfl) rfl (by show 2 * 0 + _ ≤ _; exact Nat.le_of_eq rfl) (hb hby at_71) (fun _ _ => ⟨rfl, e9, (by decide : 6 + 1 ≤ _), (by decide : 22 + 2752 ≤ _)⟩)
  dsimp only [Pt.U, Pt.locs, Pt.cells, Pt.slots] at X10 l10 y10 z10 st10 hQ10
  subst l10 y10 z10
  obtain ⟨rfl, N10q, Kp10⟩ := hQ10
  have N10 := Fr.app N7 N10q
  have K10c := keep_of_kp Kp10
  have K10 : Keep h0 T10.heap [] := K9.trans K10c (allS (Or.inr sz_b8) all0)
  have Ec10 := (E_b8.ext E9).kp Kp10
  have Fk10_line := Fld.kp Kp10 (F_line_b8.ext E9) (Or.inr (own_six_ne hw (Or.inl (hw _ (List.mem_of_getElem? (i := 103) rfl))) (ty := .int) (by decide) (by decide)))
  have Fk10_templateName := Fld.kp Kp10 (F_templateName_b8.ext E9) (Or.inr (own_six_ne hw (Or.inl (hw _ (List.mem_of_getElem? (i := 110) rfl))) (ty := (.object "java/lang/String")) (by decide) (by decide)))
  obtain ⟨cq11, kq11, q11a, q11b, q11c⟩ := isOf hZ rfl Ec10
  obtain ⟨_, _, ⟨T11, L11, k11, n11⟩, -, X11, ⟨Lc11, hQ11, l11, y11, z11⟩, st11⟩ := X10.virtualBack hx (y := (⟨"nephrite/EvaluationException", "line", "()I"⟩ : MethodName)) (z := (⟨"nephrite/EvaluationException", "line", "()I"⟩ : MethodName)) hown (mvT hZ (hw _ (List.mem_of_getElem? (i := 97) rfl))) (mvT hZ (hw _ (List.mem_of_getElem? (i := 98) rfl))) (notFace_of_selects (args := #[]) (mvT hZ (hw _ (List.mem_of_getElem? (i := 100) rfl)))) (mvT hZ (hw _ (List.mem_of_getElem? (i := 100) rfl))) (mvT hZ (hw _ (List.mem_of_getElem? (i := 99) rfl))) (by decide) (backOf (W := 0) (rm14 l Z a0 hw [] b8 (0 : Int32) T10.heap n0 (Nat.le_trans (Nat.le_trans (Nat.le_trans (Nat.le_trans Z0 K7c.1) E8.1) E9.1) K10c.1) Fk10_line) hZ (hw _ (List.mem_of_getElem? (i := 101) rfl)) (hw _ (List.mem_of_getElem? (i := 36) rfl)) (by decide) (by decide)) q11a q11c (g := (mkF m 78 #[.val (.int p1), .val (.int p2), .val (.int p3), .val (.int p4), .val (.int p5), .val (.int v12_s0), .val (.int v27_s0), .val .null, .val (.ref b7), .val (.ref b8), .unset, .unset, .unset, .unset, .unset] [(.ref b8)])) rfl (by rw [hml]; rfl) (Steps.refl _) (argsL := []) (rest := []) (lenOf pd_0_10 rfl) rfl (by show 2 * 0 + _ ≤ _; exact Nat.le_of_eq rfl) (hb hby at_78) (fun _ _ => ⟨rfl, rfl, (by decide : 7 + 0 ≤ _), (by decide : 2774 + 0 ≤ _)⟩)
  dsimp only [Pt.U, Pt.locs, Pt.cells, Pt.slots] at X11 l11 y11 z11 st11 hQ11
  subst l11 y11 z11
  obtain ⟨rfl, N11q, e11⟩ := hQ11
  have N11 := Fr.app N10 N11q
  obtain ⟨cq12, kq12, q12a, q12b, q12c⟩ := isOf hZ e11 Ec10
  obtain ⟨_, _, ⟨T12, L12, k12, n12⟩, -, X12, ⟨Lc12, hQ12, l12, y12, z12⟩, st12⟩ := X11.virtualBack hx (y := (⟨"nephrite/EvaluationException", "templateName", "()Ljava/lang/String;"⟩ : MethodName)) (z := (⟨"nephrite/EvaluationException", "templateName", "()Ljava/lang/String;"⟩ : MethodName)) hown (mvT hZ (hw _ (List.mem_of_getElem? (i := 104) rfl))) (mvT hZ (hw _ (List.mem_of_getElem? (i := 105) rfl))) (notFace_of_selects (args := #[]) (mvT hZ (hw _ (List.mem_of_getElem? (i := 107) rfl)))) (mvT hZ (hw _ (List.mem_of_getElem? (i := 107) rfl))) (mvT hZ (hw _ (List.mem_of_getElem? (i := 106) rfl))) (by decide) (backOf (W := 0) (rm15n l Z a0 hw [] b8  T10.heap n0 (Nat.le_trans (Nat.le_trans (Nat.le_trans (Nat.le_trans Z0 K7c.1) E8.1) E9.1) K10c.1) Fk10_templateName) hZ (hw _ (List.mem_of_getElem? (i := 108) rfl)) (hw _ (List.mem_of_getElem? (i := 36) rfl)) (by decide) (by decide)) q12a q12c (g := (mkF m 86 #[.val (.int p1), .val (.int p2), .val (.int p3), .val (.int p4), .val (.int p5), .val (.int v12_s0), .val (.int v27_s0), .val .null, .val (.ref b7), .val (.ref b8), .unset, .unset, .unset, .unset, .unset] [(.ref b8)])) rfl (by rw [hml]; rfl) (Steps.refl _) (argsL := []) (rest := []) (lenOf pd_0_11 rfl) rfl (by show 2 * 0 + _ ≤ _; exact Nat.le_of_eq rfl) (hb hby at_86) (fun _ _ => ⟨rfl, e11, (by decide : 7 + 0 ≤ _), (by decide : 2774 + 0 ≤ _)⟩)
  dsimp only [Pt.U, Pt.locs, Pt.cells, Pt.slots] at X12 l12 y12 z12 st12 hQ12
  subst l12 y12 z12
  obtain ⟨rfl, N12q, e12⟩ := hQ12
  have N12 := Fr.app N11 N12q
  obtain ⟨cq13, kq13, q13a, q13b, q13c⟩ := isOf hZ e12 Ec10
  obtain ⟨_, _, ⟨T13, L13, k13, n13⟩, -, X13, ⟨Lc13, hQ13, l13, y13, z13⟩, st13⟩ := X12.virtualBack hx (y := (⟨"nephrite/EvaluationException", "on", "(Ljava/lang/String;I)Lnephrite/EvaluationException;"⟩ : MethodName)) (z := (⟨"nephrite/EvaluationException", "on", "(Ljava/lang/String;I)Lnephrite/EvaluationException;"⟩ : MethodName)) hown (mvT hZ (hw _ (List.mem_of_getElem? (i := 111) rfl))) (mvT hZ (hw _ (List.mem_of_getElem? (i := 112) rfl))) (notFace_of_selects (args := #[]) (mvT hZ (hw _ (List.mem_of_getElem? (i := 114) rfl)))) (mvT hZ (hw _ (List.mem_of_getElem? (i := 114) rfl))) (mvT hZ (hw _ (List.mem_of_getElem? (i := 113) rfl))) (by decide) (backOf (W := 0) (rm16fn l Z a0 hw [] b8 v12_s0 _ _ T10.heap n0 (Nat.le_trans (Nat.le_trans (Nat.le_trans (Nat.le_trans Z0 K7c.1) E8.1) E9.1) K10c.1) Fk10_line Ec10 Fk10_templateName g_b8 rfl) hZ (hw _ (List.mem_of_getElem? (i := 115) rfl)) (hw _ (List.mem_of_getElem? (i := 36) rfl)) (by decide) (by decide)) q13a q13c (g := (mkF m 105 #[.val (.int p1), .val (.int p2), .val (.int p3), .val (.int p4), .val (.int p5), .val (.int v12_s0), .val (.int v27_s0), .val .null, .val (.ref b7), .val (.ref b8), .val (.int (1 : Int32)), .unset, .unset, .unset, .unset] [(.int v12_s0), .null, (.ref b8)])) rfl (by rw [hml]; rfl) (Steps.refl _) (argsL := [.null, (.int v12_s0)]) (rest := []) (lenOf pd_0_12 rfl) rfl (by show 2 * 0 + _ ≤ _; exact Nat.le_of_eq rfl) (hb hby at_105) (fun _ _ => ⟨rfl, e12, (by decide : 7 + 0 ≤ _), (by decide : 2774 + 0 ≤ _)⟩)
  dsimp only [Pt.U, Pt.locs, Pt.cells, Pt.slots] at X13 l13 y13 z13 st13 hQ13
  subst l13 y13 z13
  obtain ⟨rfl, N13q, K13c, Ec13, Fc13_0, Fc13_1⟩ := hQ13
  have N13 := Fr.app N12 N13q
  have K13 : Keep h0 T13.heap [] := K10.trans K13c (allS (Or.inr sz_b8) all0)
  obtain ⟨cq14, kq14, q14a, q14b, q14c⟩ := isOf hZ rfl Ec13
  obtain ⟨_, _, ⟨T14, L14, k14, n14⟩, -, X14, ⟨Lc14, hQ14, l14, y14, z14⟩, st14⟩ := X13.virtualBack hx (y := (⟨"nephrite/EvaluationException", "line", "()I"⟩ : MethodName)) (z := (⟨"nephrite/EvaluationException", "line", "()I"⟩ : MethodName)) hown (mvT hZ (hw _ (List.mem_of_getElem? (i := 97) rfl))) (mvT hZ (hw _ (List.mem_of_getElem? (i := 98) rfl))) (notFace_of_selects (args := #[]) (mvT hZ (hw _ (List.mem_of_getElem? (i := 100) rfl)))) (mvT hZ (hw _ (List.mem_of_getElem? (i := 100) rfl))) (mvT hZ (hw _ (List.mem_of_getElem? (i := 99) rfl))) (by decide) (backOf (W := 0) (rm14 l Z a0 hw [] b8 v12_s0 T13.heap n0 (Nat.le_trans (Nat.le_trans (Nat.le_trans (Nat.le_trans (Nat.le_trans Z0 K7c.1) E8.1) E9.1) K10c.1) K13c.1) Fc13_0) hZ (hw _ (List.mem_of_getElem? (i := 101) rfl)) (hw _ (List.mem_of_getElem? (i := 36) rfl)) (by decide) (by decide)) q14a q14c (g := (mkF m 124 #[.val (.int p1), .val (.int p2), .val (.int p3), .val (.int p4), .val (.int p5), .val (.int v12_s0), .val (.int v27_s0), .val .null, .val (.ref b7), .val (.ref b8), .val (.int (1 : Int32)), .val (.ref b8), .unset, .unset, .unset] [(.ref b8)])) rfl (by rw [hml]; rfl) (Steps.refl _) (argsL := []) (rest := []) (lenOf pd_0_10 rfl) rfl (by show 2 * 0 + _ ≤ _; exact Nat.le_of_eq rfl) (hb hby at_124) (fun _ _ => ⟨rfl, rfl, (by decide : 7 + 0 ≤ _), (by decide : 2774 + 0 ≤ _)⟩)
  dsimp only [Pt.U, Pt.locs, Pt.cells, Pt.slots] at X14 l14 y14 z14 st14 hQ14
  subst l14 y14 z14
  obtain ⟨rfl, N14q, e14⟩ := hQ14
  have N14 := Fr.app N13 N14q
  obtain ⟨cq15, kq15, q15a, q15b, q15c⟩ := isOf hZ e14 Ec13
  obtain ⟨_, _, ⟨T15, L15, k15, n15⟩, -, X15, ⟨Lc15, hQ15, l15, y15, z15⟩, st15⟩ := X14.virtualBack hx (y := (⟨"nephrite/EvaluationException", "templateName", "()Ljava/lang/String;"⟩ : MethodName)) (z := (⟨"nephrite/EvaluationException", "templateName", "()Ljava/lang/String;"⟩ : MethodName)) hown (mvT hZ (hw _ (List.mem_of_getElem? (i := 104) rfl))) (mvT hZ (hw _ (List.mem_of_getElem? (i := 105) rfl))) (notFace_of_selects (args := #[]) (mvT hZ (hw _ (List.mem_of_getElem? (i := 107) rfl)))) (mvT hZ (hw _ (List.mem_of_getElem? (i := 107) rfl))) (mvT hZ (hw _ (List.mem_of_getElem? (i := 106) rfl))) (by decide) (backOf (W := 0) (rm15n l Z a0 hw [] b8  T13.heap n0 (Nat.le_trans (Nat.le_trans (Nat.le_trans (Nat.le_trans (Nat.le_trans Z0 K7c.1) E8.1) E9.1) K10c.1) K13c.1) Fc13_1) hZ (hw _ (List.mem_of_getElem? (i := 108) rfl)) (hw _ (List.mem_of_getElem? (i := 36) rfl)) (by decide) (by decide)) q15a q15c (g := (mkF m 134 #[.val (.int p1), .val (.int p2), .val (.int p3), .val (.int p4), .val (.int p5), .val (.int v12_s0), .val (.int v27_s0), .val .null, .val (.ref b7), .val (.ref b8), .val (.int (1 : Int32)), .val (.ref b8), .unset, .unset, .unset] [(.ref b8)])) rfl (by rw [hml]; rfl) (Steps.refl _) (argsL := []) (rest := []) (lenOf pd_0_11 rfl) rfl (by show 2 * 0 + _ ≤ _; exact Nat.le_of_eq rfl) (hb hby at_134) (fun _ _ => ⟨rfl, e14, (by decide : 7 + 0 ≤ _), (by decide : 2774 + 0 ≤ _)⟩)
  dsimp only [Pt.U, Pt.locs, Pt.cells, Pt.slots] at X15 l15 y15 z15 st15 hQ15
  subst l15 y15 z15
  obtain ⟨rfl, N15q, e15⟩ := hQ15
  have N15 := Fr.app N14 N15q
  obtain ⟨cq16, kq16, q16a, q16b, q16c⟩ := isOf hZ e15 Ec13
  obtain ⟨_, _, ⟨T16, L16, k16, n16⟩, -, X16, ⟨Lc16, hQ16, l16, y16, z16⟩, st16⟩ := X15.virtualBack hx (y := (⟨"nephrite/EvaluationException", "on", "(Ljava/lang/String;I)Lnephrite/EvaluationException;"⟩ : MethodName)) (z := (⟨"nephrite/EvaluationException", "on", "(Ljava/lang/String;I)Lnephrite/EvaluationException;"⟩ : MethodName)) hown (mvT hZ (hw _ (List.mem_of_getElem? (i := 111) rfl))) (mvT hZ (hw _ (List.mem_of_getElem? (i := 112) rfl))) (notFace_of_selects (args := #[]) (mvT hZ (hw _ (List.mem_of_getElem? (i := 114) rfl)))) (mvT hZ (hw _ (List.mem_of_getElem? (i := 114) rfl))) (mvT hZ (hw _ (List.mem_of_getElem? (i := 113) rfl))) (by decide) (backOf (W := 0) (rm16t l Z a0 hw [] b8 b7 v27_s0 _ T13.heap n0 (Nat.le_trans (Nat.le_trans (Nat.le_trans (Nat.le_trans (Nat.le_trans Z0 K7c.1) E8.1) E9.1) K10c.1) K13c.1) Fc13_0 hc162) hZ (hw _ (List.mem_of_getElem? (i := 115) rfl)) (hw _ (List.mem_of_getElem? (i := 36) rfl)) (by decide) (by decide)) q16a q16c (g := (mkF m 155 #[.val (.int p1), .val (.int p2), .val (.int p3), .val (.int p4), .val (.int p5), .val (.int v12_s0), .val (.int v27_s0), .val .null, .val (.ref b7), .val (.ref b8), .val (.int (1 : Int32)), .val (.ref b8), .unset, .unset, .unset] [(.int v27_s0), (.ref b7), (.ref b8)])) rfl (by rw [hml]; rfl) (Steps.refl _) (argsL := [(.ref b7), (.int v27_s0)]) (rest := []) (lenOf pd_0_12 rfl) rfl (by show 2 * 0 + _ ≤ _; exact Nat.le_of_eq rfl) (hb hby at_155) (fun _ _ => ⟨rfl, e15, (by decide : 7 + 0 ≤ _), (by decide : 2774 + 0 ≤ _)⟩)
  dsimp only [Pt.U, Pt.locs, Pt.cells, Pt.slots] at X16 l16 y16 z16 st16 hQ16
  subst l16 y16 z16
  obtain ⟨rfl, N16q, e16⟩ := hQ16
  have N16 := Fr.app N15 N16q
  obtain ⟨cq17, kq17, q17a, q17b, q17c⟩ := isOf hZ e16 Ec13
  obtain ⟨_, _, ⟨T17, L17, k17, n17⟩, -, X17, ⟨Lc17, hQ17, l17, y17, z17⟩, st17⟩ := X16.virtualBack hx (y := (⟨"nephrite/EvaluationException", "line", "()I"⟩ : MethodName)) (z := (⟨"nephrite/EvaluationException", "line", "()I"⟩ : MethodName)) hown (mvT hZ (hw _ (List.mem_of_getElem? (i := 97) rfl))) (mvT hZ (hw _ (List.mem_of_getElem? (i := 98) rfl))) (notFace_of_selects (args := #[]) (mvT hZ (hw _ (List.mem_of_getElem? (i := 100) rfl)))) (mvT hZ (hw _ (List.mem_of_getElem? (i := 100) rfl))) (mvT hZ (hw _ (List.mem_of_getElem? (i := 99) rfl))) (by decide) (backOf (W := 0) (rm14 l Z a0 hw [] b8 v12_s0 T13.heap n0 (Nat.le_trans (Nat.le_trans (Nat.le_trans (Nat.le_trans (Nat.le_trans Z0 K7c.1) E8.1) E9.1) K10c.1) K13c.1) Fc13_0) hZ (hw _ (List.mem_of_getElem? (i := 101) rfl)) (hw _ (List.mem_of_getElem? (i := 36) rfl)) (by decide) (by decide)) q17a q17c (g := (mkF m 202 #[.val (.int p1), .val (.int p2), .val (.int p3), .val (.int p4), .val (.int p5), .val (.int v12_s0), .val (.int v27_s0), .val .null, .val (.ref b7), .val (.ref b8), .val (.int (1 : Int32)), .val (.ref b8), .val (.ref b8), .val (.int v12_s0), .val .null] [(.ref b8)])) rfl (by rw [hml]; rfl) (Steps.refl _) (argsL := []) (rest := []) (lenOf pd_0_10 rfl) rfl (by show 2 * 0 + _ ≤ _; exact Nat.le_of_eq rfl) (hb hby at_202) (fun _ _ => ⟨rfl, e16, (by decide : 7 + 0 ≤ _), (by decide : 2774 + 0 ≤ _)⟩)
  dsimp only [Pt.U, Pt.locs, Pt.cells, Pt.slots] at X17 l17 y17 z17 st17 hQ17
  subst l17 y17 z17
  obtain ⟨rfl, N17q, e17⟩ := hQ17
  have N17 := Fr.app N16 N17q
  obtain ⟨cq18, kq18, q18a, q18b, q18c⟩ := isOf hZ e17 Ec13
  obtain ⟨_, _, ⟨T18, L18, k18, n18⟩, -, X18, ⟨Lc18, hQ18, l18, y18, z18⟩, st18⟩ := X17.virtualBack hx (y := (⟨"nephrite/EvaluationException", "templateName", "()Ljava/lang/String;"⟩ : MethodName)) (z := (⟨"nephrite/EvaluationException", "templateName", "()Ljava/lang/String;"⟩ : MethodName)) hown (mvT hZ (hw _ (List.mem_of_getElem? (i := 104) rfl))) (mvT hZ (hw _ (List.mem_of_getElem? (i := 105) rfl))) (notFace_of_selects (args := #[]) (mvT hZ (hw _ (List.mem_of_getElem? (i := 107) rfl)))) (mvT hZ (hw _ (List.mem_of_getElem? (i := 107) rfl))) (mvT hZ (hw _ (List.mem_of_getElem? (i := 106) rfl))) (by decide) (backOf (W := 0) (rm15n l Z a0 hw [] b8  T13.heap n0 (Nat.le_trans (Nat.le_trans (Nat.le_trans (Nat.le_trans (Nat.le_trans Z0 K7c.1) E8.1) E9.1) K10c.1) K13c.1) Fc13_1) hZ (hw _ (List.mem_of_getElem? (i := 108) rfl)) (hw _ (List.mem_of_getElem? (i := 36) rfl)) (by decide) (by decide)) q18a q18c (g := (mkF m 212 #[.val (.int p1), .val (.int p2), .val (.int p3), .val (.int p4), .val (.int p5), .val (.int v12_s0), .val (.int v27_s0), .val .null, .val (.ref b7), .val (.ref b8), .val (.int (1 : Int32)), .val (.ref b8), .val (.ref b8), .val (.int v12_s0), .val .null] [(.ref b8)])) rfl (by rw [hml]; rfl) (Steps.refl _) (argsL := []) (rest := []) (lenOf pd_0_11 rfl) rfl (by show 2 * 0 + _ ≤ _; exact Nat.le_of_eq rfl) (hb hby at_212) (fun _ _ => ⟨rfl, e17, (by decide : 7 + 0 ≤ _), (by decide : 2774 + 0 ≤ _)⟩)
  dsimp only [Pt.U, Pt.locs, Pt.cells, Pt.slots] at X18 l18 y18 z18 st18 hQ18
  subst l18 y18 z18
  obtain ⟨rfl, N18q, e18⟩ := hQ18
  have N18 := Fr.app N17 N18q
  obtain ⟨fs, hr, hrun, hended, hRE⟩ := X18.leaveW hS (by rw [e18]; exact (Nat.le_trans (Nat.le_trans hk K10c.1) K13c.1)) (v := some (.int (1 : Int32))) (fun h => by rw [Bd.returns] at h; cases h)
  refine ⟨_, _, pre0 _ ?_, hrun, hended, _, _, rfl, ?_, hRE.1, hRE.2.1, hRE.2.2.1, hRE.2.2.2.mono (by decide) (by decide)⟩
  · show Steps p.tables e below (s₁.setTop (mkF m 0 #[.val (.int p1), .val (.int p2), .val (.int p3), .val (.int p4), .val (.int p5), .unset, .unset, .unset, .unset, .unset, .unset, .unset, .unset, .unset, .unset] [])) _
    refine XS.iload X0.here hx rfl (hb hby at_0) rfl ?_
    show Steps p.tables e below (s₁.setTop (mkF m 2 #[.val (.int p1), .val (.int p2), .val (.int p3), .val (.int p4), .val (.int p5), .unset, .unset, .unset, .unset, .unset, .unset, .unset, .unset, .unset, .unset] [(.int p5)])) _
    refine XS.iconst X0.here hx rfl (hb hby at_2) ?_
    show Steps p.tables e below (s₁.setTop (mkF m 3 #[.val (.int p1), .val (.int p2), .val (.int p3), .val (.int p4), .val (.int p5), .unset, .unset, .unset, .unset, .unset, .unset, .unset, .unset, .unset, .unset] [(.int (1 : Int32)), (.int p5)])) _
    refine XS.iand X0.here hx rfl (hb hby at_3) rfl ?_
    refine sg4 _ ?_
    show Steps p.tables e below (s₁.setTop (mkF m 12 #[.val (.int p1), .val (.int p2), .val (.int p3), .val (.int p4), .val (.int p5), .unset, .unset, .unset, .unset, .unset, .unset, .unset, .unset, .unset, .unset] [(.int v12_s0)])) _
    refine XS.istore X0.here hx rfl (hb hby at_12) rfl (l' := #[.val (.int p1), .val (.int p2), .val (.int p3), .val (.int p4), .val (.int p5), .val (.int v12_s0), .unset, .unset, .unset, .unset, .unset, .unset, .unset, .unset, .unset]) rfl ?_
    show Steps p.tables e below (s₁.setTop (mkF m 14 #[.val (.int p1), .val (.int p2), .val (.int p3), .val (.int p4), .val (.int p5), .val (.int v12_s0), .unset, .unset, .unset, .unset, .unset, .unset, .unset, .unset, .unset] [])) _
    refine XS.iload X0.here hx rfl (hb hby at_14) rfl ?_
    show Steps p.tables e below (s₁.setTop (mkF m 16 #[.val (.int p1), .val (.int p2), .val (.int p3), .val (.int p4), .val (.int p5), .val (.int v12_s0), .unset, .unset, .unset, .unset, .unset, .unset, .unset, .unset, .unset] [(.int p5)])) _
    refine XS.bipush X0.here hx rfl (hb hby at_16) ?_
    show Steps p.tables e below (s₁.setTop (mkF m 18 #[.val (.int p1), .val (.int p2), .val (.int p3), .val (.int p4), .val (.int p5), .val (.int v12_s0), .unset, .unset, .unset, .unset, .unset, .unset, .unset, .unset, .unset] [(.int (8 : Int32)), (.int p5)])) _
    refine XS.iand X0.here hx rfl (hb hby at_18) rfl ?_
    refine sg19 _ ?_
    show Steps p.tables e below (s₁.setTop (mkF m 27 #[.val (.int p1), .val (.int p2), .val (.int p3), .val (.int p4), .val (.int p5), .val (.int v12_s0), .unset, .unset, .unset, .unset, .unset, .unset, .unset, .unset, .unset] [(.int v27_s0)])) _
    refine XS.istore X0.here hx rfl (hb hby at_27) rfl (l' := #[.val (.int p1), .val (.int p2), .val (.int p3), .val (.int p4), .val (.int p5), .val (.int v12_s0), .val (.int v27_s0), .unset, .unset, .unset, .unset, .unset, .unset, .unset, .unset]) rfl ?_
    show Steps p.tables e below (s₁.setTop (mkF m 29 #[.val (.int p1), .val (.int p2), .val (.int p3), .val (.int p4), .val (.int p5), .val (.int v12_s0), .val (.int v27_s0), .unset, .unset, .unset, .unset, .unset, .unset, .unset, .unset] [])) _
    refine XS.iloadN X0.here hx rfl (hb hby at_29) rfl ?_
    show Steps p.tables e below (s₁.setTop (mkF m 30 #[.val (.int p1), .val (.int p2), .val (.int p3), .val (.int p4), .val (.int p5), .val (.int v12_s0), .val (.int v27_s0), .unset, .unset, .unset, .unset, .unset, .unset, .unset, .unset] [(.int p3)])) _
    refine XS.iload X0.here hx rfl (hb hby at_30) rfl ?_
    show Steps p.tables e below (s₁.setTop (mkF m 32 #[.val (.int p1), .val (.int p2), .val (.int p3), .val (.int p4), .val (.int p5), .val (.int v12_s0), .val (.int v27_s0), .unset, .unset, .unset, .unset, .unset, .unset, .unset, .unset] [(.int p5), (.int p3)])) _
    refine XS.iconst X0.here hx rfl (hb hby at_32) ?_
    show Steps p.tables e below (s₁.setTop (mkF m 33 #[.val (.int p1), .val (.int p2), .val (.int p3), .val (.int p4), .val (.int p5), .val (.int v12_s0), .val (.int v27_s0), .unset, .unset, .unset, .unset, .unset, .unset, .unset, .unset] [(.int (2 : Int32)), (.int p5), (.int p3)])) _
    refine XS.iand X0.here hx rfl (hb hby at_33) rfl ?_
    show Steps p.tables e below (s₁.setTop (mkF m 34 #[.val (.int p1), .val (.int p2), .val (.int p3), .val (.int p4), .val (.int p5), .val (.int v12_s0), .val (.int v27_s0), .unset, .unset, .unset, .unset, .unset, .unset, .unset, .unset] [(.int (p5 &&& (2 : Int32))), (.int p3)])) _
    refine XS.ifNo X0.here hx rfl (hb hby at_34) rfl ((if0 _ _).trans (feq hc34).1) ?_
    show Steps p.tables e below (s₁.setTop (mkF m 37 #[.val (.int p1), .val (.int p2), .val (.int p3), .val (.int p4), .val (.int p5), .val (.int v12_s0), .val (.int v27_s0), .unset, .unset, .unset, .unset, .unset, .unset, .unset, .unset] [(.int p3)])) _
    refine XS.iconst X0.here hx rfl (hb hby at_37) ?_
    show Steps p.tables e below (s₁.setTop (mkF m 38 #[.val (.int p1), .val (.int p2), .val (.int p3), .val (.int p4), .val (.int p5), .val (.int v12_s0), .val (.int v27_s0), .unset, .unset, .unset, .unset, .unset, .unset, .unset, .unset] [(.int (1 : Int32)), (.int p3)])) _
    refine XS.goto X0.here hx rfl (pc0 := 38) (pc' := 42) rfl (hb hby at_38) (by decide) (by decide) ?_
    show Steps p.tables e below (s₁.setTop (mkF m 42 #[.val (.int p1), .val (.int p2), .val (.int p3), .val (.int p4), .val (.int p5), .val (.int v12_s0), .val (.int v27_s0), .unset, .unset, .unset, .unset, .unset, .unset, .unset, .unset] [(.int (1 : Int32)), (.int p3)])) _
    refine st6 _ ?_
    show Steps p.tables e below (T6.setTop (mkF m 45 #[.val (.int p1), .val (.int p2), .val (.int p3), .val (.int p4), .val (.int p5), .val (.int v12_s0), .val (.int v27_s0), .unset, .unset, .unset, .unset, .unset, .unset, .unset, .unset] [.null])) _
    refine XS.astore X6.here hx rfl (hb hby at_45) rfl rfl (l' := #[.val (.int p1), .val (.int p2), .val (.int p3), .val (.int p4), .val (.int p5), .val (.int v12_s0), .val (.int v27_s0), .val .null, .unset, .unset, .unset, .unset, .unset, .unset, .unset]) rfl ?_
    show Steps p.tables e below (T6.setTop (mkF m 47 #[.val (.int p1), .val (.int p2), .val (.int p3), .val (.int p4), .val (.int p5), .val (.int v12_s0), .val (.int v27_s0), .val .null, .unset, .unset, .unset, .unset, .unset, .unset, .unset] [])) _
    refine XS.iloadN X6.here hx rfl (hb hby at_47) rfl ?_
    show Steps p.tables e below (T6.setTop (mkF m 48 #[.val (.int p1), .val (.int p2), .val (.int p3), .val (.int p4), .val (.int p5), .val (.int v12_s0), .val (.int v27_s0), .val .null, .unset, .unset, .unset, .unset, .unset, .unset, .unset] [(.int p4)])) _
    refine XS.iload X6.here hx rfl (hb hby at_48) rfl ?_
    show Steps p.tables e below (T6.setTop (mkF m 50 #[.val (.int p1), .val (.int p2), .val (.int p3), .val (.int p4), .val (.int p5), .val (.int v12_s0), .val (.int v27_s0), .val .null, .unset, .unset, .unset, .unset, .unset, .unset, .unset] [(.int p5), (.int p4)])) _
    refine XS.iconst X6.here hx rfl (hb hby at_50) ?_
    show Steps p.tables e below (T6.setTop (mkF m 51 #[.val (.int p1), .val (.int p2), .val (.int p3), .val (.int p4), .val (.int p5), .val (.int v12_s0), .val (.int v27_s0), .val .null, .unset, .unset, .unset, .unset, .unset, .unset, .unset] [(.int (4 : Int32)), (.int p5), (.int p4)])) _
    refine XS.iand X6.here hx rfl (hb hby at_51) rfl ?_
    show Steps p.tables e below (T6.setTop (mkF m 52 #[.val (.int p1), .val (.int p2), .val (.int p3), .val (.int p4), .val (.int p5), .val (.int v12_s0), .val (.int v27_s0), .val .null, .unset, .unset, .unset, .unset, .unset, .unset, .unset] [(.int (p5 &&& (4 : Int32))), (.int p4)])) _
    refine XS.ifYes X6.here hx rfl (pc0 := 52) (pc' := 59) rfl (hb hby at_52) rfl ((if0 _ _).trans (teq hc52).1) (by decide) (by decide) ?_
    show Steps p.tables e below (T6.setTop (mkF m 59 #[.val (.int p1), .val (.int p2), .val (.int p3), .val (.int p4), .val (.int p5), .val (.int v12_s0), .val (.int v27_s0), .val .null, .unset, .unset, .unset, .unset, .unset, .unset, .unset] [(.int p4)])) _
    refine XS.iconst X6.here hx rfl (hb hby at_59) ?_
    show Steps p.tables e below (T6.setTop (mkF m 60 #[.val (.int p1), .val (.int p2), .val (.int p3), .val (.int p4), .val (.int p5), .val (.int v12_s0), .val (.int v27_s0), .val .null, .unset, .unset, .unset, .unset, .unset, .unset, .unset] [(.int (0 : Int32)), (.int p4)])) _
    refine st7 _ ?_
    show Steps p.tables e below (T7.setTop (mkF m 63 #[.val (.int p1), .val (.int p2), .val (.int p3), .val (.int p4), .val (.int p5), .val (.int v12_s0), .val (.int v27_s0), .val .null, .unset, .unset, .unset, .unset, .unset, .unset, .unset] [(.ref b7)])) _
    refine XS.astore X7.here hx rfl (hb hby at_63) rfl rfl (l' := #[.val (.int p1), .val (.int p2), .val (.int p3), .val (.int p4), .val (.int p5), .val (.int v12_s0), .val (.int v27_s0), .val .null, .val (.ref b7), .unset, .unset, .unset, .unset, .unset, .unset]) rfl ?_
    show Steps p.tables e below (T7.setTop (mkF m 65 #[.val (.int p1), .val (.int p2), .val (.int p3), .val (.int p4), .val (.int p5), .val (.int v12_s0), .val (.int v27_s0), .val .null, .val (.ref b7), .unset, .unset, .unset, .unset, .unset, .unset] [])) _
    refine st8 _ ?_
    show Steps p.tables e below (T8.setTop (mkF m 68 #[.val (.int p1), .val (.int p2), .val (.int p3), .val (.int p4), .val (.int p5), .val (.int v12_s0), .val (.int v27_s0), .val .null, .val (.ref b7), .unset, .unset, .unset, .unset, .unset, .unset] [(.ref b8)])) _
    refine XS.dup X8.here hx rfl (hb hby at_68) rfl rfl ?_
    show Steps p.tables e below (T8.setTop (mkF m 69 #[.val (.int p1), .val (.int p2), .val (.int p3), .val (.int p4), .val (.int p5), .val (.int v12_s0), .val (.int v27_s0), .val .null, .val (.ref b7), .unset, .unset, .unset, .unset, .unset, .unset] [(.ref b8), (.ref b8)])) _
    refine st9 _ ?_
    show Steps p.tables e below (T9.setTop (mkF m 71 #[.val (.int p1), .val (.int p2), .val (.int p3), .val (.int p4), .val (.int p5), .val (.int v12_s0), .val (.int v27_s0), .val .null, .val (.ref b7), .unset, .unset, .unset, .unset, .unset, .unset] [(.ref b9), (.ref b8), (.ref b8)])) _
    refine st10.trans ?_
    show Steps p.tables e below (T10.setTop (mkF m 74 #[.val (.int p1), .val (.int p2), .val (.int p3), .val (.int p4), .val (.int p5), .val (.int v12_s0), .val (.int v27_s0), .val .null, .val (.ref b7), .unset, .unset, .unset, .unset, .unset, .unset] [(.ref b8)])) _
    refine XS.astore X10.here hx rfl (hb hby at_74) rfl rfl (l' := #[.val (.int p1), .val (.int p2), .val (.int p3), .val (.int p4), .val (.int p5), .val (.int v12_s0), .val (.int v27_s0), .val .null, .val (.ref b7), .val (.ref b8), .unset, .unset, .unset, .unset, .unset]) rfl ?_
    show Steps p.tables e below (T10.setTop (mkF m 76 #[.val (.int p1), .val (.int p2), .val (.int p3), .val (.int p4), .val (.int p5), .val (.int v12_s0), .val (.int v27_s0), .val .null, .val (.ref b7), .val (.ref b8), .unset, .unset, .unset, .unset, .unset] [])) _
    refine XS.aload X10.here hx rfl (hb hby at_76) rfl rfl ?_
    show Steps p.tables e below (T10.setTop (mkF m 78 #[.val (.int p1), .val (.int p2), .val (.int p3), .val (.int p4), .val (.int p5), .val (.int v12_s0), .val (.int v27_s0), .val .null, .val (.ref b7), .val (.ref b8), .unset, .unset, .unset, .unset, .unset] [(.ref b8)])) _
    refine st11.trans ?_
    show Steps p.tables e below (T11.setTop (mkF m 81 #[.val (.int p1), .val (.int p2), .val (.int p3), .val (.int p4), .val (.int p5), .val (.int v12_s0), .val (.int v27_s0), .val .null, .val (.ref b7), .val (.ref b8), .unset, .unset, .unset, .unset, .unset] [(.int (0 : Int32))])) _
    refine XS.ifNo X11.here hx rfl (hb hby at_81) rfl ((if0 _ _).trans (teq (rfl : (0 : Int32) = (0 : Int32))).2) ?_
    show Steps p.tables e below (T11.setTop (mkF m 84 #[.val (.int p1), .val (.int p2), .val (.int p3), .val (.int p4), .val (.int p5), .val (.int v12_s0), .val (.int v27_s0), .val .null, .val (.ref b7), .val (.ref b8), .unset, .unset, .unset, .unset, .unset] [])) _
    refine XS.aload X11.here hx rfl (hb hby at_84) rfl rfl ?_
    show Steps p.tables e below (T11.setTop (mkF m 86 #[.val (.int p1), .val (.int p2), .val (.int p3), .val (.int p4), .val (.int p5), .val (.int v12_s0), .val (.int v27_s0), .val .null, .val (.ref b7), .val (.ref b8), .unset, .unset, .unset, .unset, .unset] [(.ref b8)])) _
    refine st12.trans ?_
    show Steps p.tables e below (T12.setTop (mkF m 89 #[.val (.int p1), .val (.int p2), .val (.int p3), .val (.int p4), .val (.int p5), .val (.int v12_s0), .val (.int v27_s0), .val .null, .val (.ref b7), .val (.ref b8), .unset, .unset, .unset, .unset, .unset] [.null])) _
    refine XS.ifnonnullNo X12.here hx rfl (hb hby at_89) rfl ?_
    show Steps p.tables e below (T12.setTop (mkF m 92 #[.val (.int p1), .val (.int p2), .val (.int p3), .val (.int p4), .val (.int p5), .val (.int v12_s0), .val (.int v27_s0), .val .null, .val (.ref b7), .val (.ref b8), .unset, .unset, .unset, .unset, .unset] [])) _
    refine XS.iconst X12.here hx rfl (hb hby at_92) ?_
    show Steps p.tables e below (T12.setTop (mkF m 93 #[.val (.int p1), .val (.int p2), .val (.int p3), .val (.int p4), .val (.int p5), .val (.int v12_s0), .val (.int v27_s0), .val .null, .val (.ref b7), .val (.ref b8), .unset, .unset, .unset, .unset, .unset] [(.int (1 : Int32))])) _
    refine XS.goto X12.here hx rfl (pc0 := 93) (pc' := 97) rfl (hb hby at_93) (by decide) (by decide) ?_
    show Steps p.tables e below (T12.setTop (mkF m 97 #[.val (.int p1), .val (.int p2), .val (.int p3), .val (.int p4), .val (.int p5), .val (.int v12_s0), .val (.int v27_s0), .val .null, .val (.ref b7), .val (.ref b8), .unset, .unset, .unset, .unset, .unset] [(.int (1 : Int32))])) _
    refine XS.istore X12.here hx rfl (hb hby at_97) rfl (l' := #[.val (.int p1), .val (.int p2), .val (.int p3), .val (.int p4), .val (.int p5), .val (.int v12_s0), .val (.int v27_s0), .val .null, .val (.ref b7), .val (.ref b8), .val (.int (1 : Int32)), .unset, .unset, .unset, .unset]) rfl ?_
    show Steps p.tables e below (T12.setTop (mkF m 99 #[.val (.int p1), .val (.int p2), .val (.int p3), .val (.int p4), .val (.int p5), .val (.int v12_s0), .val (.int v27_s0), .val .null, .val (.ref b7), .val (.ref b8), .val (.int (1 : Int32)), .unset, .unset, .unset, .unset] [])) _
    refine XS.aload X12.here hx rfl (hb hby at_99) rfl rfl ?_
    show Steps p.tables e below (T12.setTop (mkF m 101 #[.val (.int p1), .val (.int p2), .val (.int p3), .val (.int p4), .val (.int p5), .val (.int v12_s0), .val (.int v27_s0), .val .null, .val (.ref b7), .val (.ref b8), .val (.int (1 : Int32)), .unset, .unset, .unset, .unset] [(.ref b8)])) _
    refine XS.aload X12.here hx rfl (hb hby at_101) rfl rfl ?_
    show Steps p.tables e below (T12.setTop (mkF m 103 #[.val (.int p1), .val (.int p2), .val (.int p3), .val (.int p4), .val (.int p5), .val (.int v12_s0), .val (.int v27_s0), .val .null, .val (.ref b7), .val (.ref b8), .val (.int (1 : Int32)), .unset, .unset, .unset, .unset] [.null, (.ref b8)])) _
    refine XS.iload X12.here hx rfl (hb hby at_103) rfl ?_
    show Steps p.tables e below (T12.setTop (mkF m 105 #[.val (.int p1), .val (.int p2), .val (.int p3), .val (.int p4), .val (.int p5), .val (.int v12_s0), .val (.int v27_s0), .val .null, .val (.ref b7), .val (.ref b8), .val (.int (1 : Int32)), .unset, .unset, .unset, .unset] [(.int v12_s0), .null, (.ref b8)])) _
    refine st13.trans ?_
    show Steps p.tables e below (T13.setTop (mkF m 108 #[.val (.int p1), .val (.int p2), .val (.int p3), .val (.int p4), .val (.int p5), .val (.int v12_s0), .val (.int v27_s0), .val .null, .val (.ref b7), .val (.ref b8), .val (.int (1 : Int32)), .unset, .unset, .unset, .unset] [(.ref b8)])) _
    refine XS.astore X13.here hx rfl (hb hby at_108) rfl rfl (l' := #[.val (.int p1), .val (.int p2), .val (.int p3), .val (.int p4), .val (.int p5), .val (.int v12_s0), .val (.int v27_s0), .val .null, .val (.ref b7), .val (.ref b8), .val (.int (1 : Int32)), .val (.ref b8), .unset, .unset, .unset]) rfl ?_
    show Steps p.tables e below (T13.setTop (mkF m 110 #[.val (.int p1), .val (.int p2), .val (.int p3), .val (.int p4), .val (.int p5), .val (.int v12_s0), .val (.int v27_s0), .val .null, .val (.ref b7), .val (.ref b8), .val (.int (1 : Int32)), .val (.ref b8), .unset, .unset, .unset] [])) _
    refine XS.iload X13.here hx rfl (hb hby at_110) rfl ?_
    show Steps p.tables e below (T13.setTop (mkF m 112 #[.val (.int p1), .val (.int p2), .val (.int p3), .val (.int p4), .val (.int p5), .val (.int v12_s0), .val (.int v27_s0), .val .null, .val (.ref b7), .val (.ref b8), .val (.int (1 : Int32)), .val (.ref b8), .unset, .unset, .unset] [(.int (1 : Int32))])) _
    refine XS.ifNo X13.here hx rfl (hb hby at_112) rfl ((if0 _ _).trans (feq (by decide : ¬ ((1 : Int32) = (0 : Int32)))).1) ?_
    show Steps p.tables e below (T13.setTop (mkF m 115 #[.val (.int p1), .val (.int p2), .val (.int p3), .val (.int p4), .val (.int p5), .val (.int v12_s0), .val (.int v27_s0), .val .null, .val (.ref b7), .val (.ref b8), .val (.int (1 : Int32)), .val (.ref b8), .unset, .unset, .unset] [])) _
    refine XS.aload X13.here hx rfl (hb hby at_115) rfl rfl ?_
    show Steps p.tables e below (T13.setTop (mkF m 117 #[.val (.int p1), .val (.int p2), .val (.int p3), .val (.int p4), .val (.int p5), .val (.int v12_s0), .val (.int v27_s0), .val .null, .val (.ref b7), .val (.ref b8), .val (.int (1 : Int32)), .val (.ref b8), .unset, .unset, .unset] [(.ref b8)])) _
    refine XS.aload X13.here hx rfl (hb hby at_117) rfl rfl ?_
    show Steps p.tables e below (T13.setTop (mkF m 119 #[.val (.int p1), .val (.int p2), .val (.int p3), .val (.int p4), .val (.int p5), .val (.int v12_s0), .val (.int v27_s0), .val .null, .val (.ref b7), .val (.ref b8), .val (.int (1 : Int32)), .val (.ref b8), .unset, .unset, .unset] [(.ref b8), (.ref b8)])) _
    refine Jvm.RoadKit.acmp (g := (mkF m 119 #[.val (.int p1), .val (.int p2), .val (.int p3), .val (.int p4), .val (.int p5), .val (.int v12_s0), .val (.int v27_s0), .val .null, .val (.ref b7), .val (.ref b8), .val (.int (1 : Int32)), .val (.ref b8), .unset, .unset, .unset] [(.ref b8), (.ref b8)])) X13 hx rfl rfl rfl (pc0 := 119) (pc' := 122) (same := true) rfl (hb hby at_119) rfl (decide_eq_true rfl) (by decide) (by decide) ?_
    show Steps p.tables e below (T13.setTop (mkF m 122 #[.val (.int p1), .val (.int p2), .val (.int p3), .val (.int p4), .val (.int p5), .val (.int v12_s0), .val (.int v27_s0), .val .null, .val (.ref b7), .val (.ref b8), .val (.int (1 : Int32)), .val (.ref b8), .unset, .unset, .unset] [])) _
    refine XS.aload X13.here hx rfl (hb hby at_122) rfl rfl ?_
    show Steps p.tables e below (T13.setTop (mkF m 124 #[.val (.int p1), .val (.int p2), .val (.int p3), .val (.int p4), .val (.int p5), .val (.int v12_s0), .val (.int v27_s0), .val .null, .val (.ref b7), .val (.ref b8), .val (.int (1 : Int32)), .val (.ref b8), .unset, .unset, .unset] [(.ref b8)])) _
    refine st14.trans ?_
    show Steps p.tables e below (T14.setTop (mkF m 127 #[.val (.int p1), .val (.int p2), .val (.int p3), .val (.int p4), .val (.int p5), .val (.int v12_s0), .val (.int v27_s0), .val .null, .val (.ref b7), .val (.ref b8), .val (.int (1 : Int32)), .val (.ref b8), .unset, .unset, .unset] [(.int v12_s0)])) _
    refine XS.iload X14.here hx rfl (hb hby at_127) rfl ?_
    show Steps p.tables e below (T14.setTop (mkF m 129 #[.val (.int p1), .val (.int p2), .val (.int p3), .val (.int p4), .val (.int p5), .val (.int v12_s0), .val (.int v27_s0), .val .null, .val (.ref b7), .val (.ref b8), .val (.int (1 : Int32)), .val (.ref b8), .unset, .unset, .unset] [(.int v12_s0), (.int v12_s0)])) _
    refine XS.icmpNo X14.here hx rfl (hb hby at_129) rfl (teq (rfl : v12_s0 = v12_s0)).2 ?_
    show Steps p.tables e below (T14.setTop (mkF m 132 #[.val (.int p1), .val (.int p2), .val (.int p3), .val (.int p4), .val (.int p5), .val (.int v12_s0), .val (.int v27_s0), .val .null, .val (.ref b7), .val (.ref b8), .val (.int (1 : Int32)), .val (.ref b8), .unset, .unset, .unset] [])) _
    refine XS.aload X14.here hx rfl (hb hby at_132) rfl rfl ?_
    show Steps p.tables e below (T14.setTop (mkF m 134 #[.val (.int p1), .val (.int p2), .val (.int p3), .val (.int p4), .val (.int p5), .val (.int v12_s0), .val (.int v27_s0), .val .null, .val (.ref b7), .val (.ref b8), .val (.int (1 : Int32)), .val (.ref b8), .unset, .unset, .unset] [(.ref b8)])) _
    refine st15.trans ?_
    show Steps p.tables e below (T15.setTop (mkF m 137 #[.val (.int p1), .val (.int p2), .val (.int p3), .val (.int p4), .val (.int p5), .val (.int v12_s0), .val (.int v27_s0), .val .null, .val (.ref b7), .val (.ref b8), .val (.int (1 : Int32)), .val (.ref b8), .unset, .unset, .unset] [.null])) _
    refine XS.aload X15.here hx rfl (hb hby at_137) rfl rfl ?_
    show Steps p.tables e below (T15.setTop (mkF m 139 #[.val (.int p1), .val (.int p2), .val (.int p3), .val (.int p4), .val (.int p5), .val (.int v12_s0), .val (.int v27_s0), .val .null, .val (.ref b7), .val (.ref b8), .val (.int (1 : Int32)), .val (.ref b8), .unset, .unset, .unset] [.null, .null])) _
    refine Jvm.RoadKit.acmp (g := (mkF m 139 #[.val (.int p1), .val (.int p2), .val (.int p3), .val (.int p4), .val (.int p5), .val (.int v12_s0), .val (.int v27_s0), .val .null, .val (.ref b7), .val (.ref b8), .val (.int (1 : Int32)), .val (.ref b8), .unset, .unset, .unset] [.null, .null])) X15 hx rfl rfl rfl (pc0 := 139) (pc' := 142) (same := true) rfl (hb hby at_139) rfl (decide_eq_true rfl) (by decide) (by decide) ?_
    show Steps p.tables e below (T15.setTop (mkF m 142 #[.val (.int p1), .val (.int p2), .val (.int p3), .val (.int p4), .val (.int p5), .val (.int v12_s0), .val (.int v27_s0), .val .null, .val (.ref b7), .val (.ref b8), .val (.int (1 : Int32)), .val (.ref b8), .unset, .unset, .unset] [])) _
    refine XS.iconst X15.here hx rfl (hb hby at_142) ?_
    show Steps p.tables e below (T15.setTop (mkF m 143 #[.val (.int p1), .val (.int p2), .val (.int p3), .val (.int p4), .val (.int p5), .val (.int v12_s0), .val (.int v27_s0), .val .null, .val (.ref b7), .val (.ref b8), .val (.int (1 : Int32)), .val (.ref b8), .unset, .unset, .unset] [(.int (1 : Int32))])) _
    refine XS.goto X15.here hx rfl (pc0 := 143) (pc' := 147) rfl (hb hby at_143) (by decide) (by decide) ?_
    show Steps p.tables e below (T15.setTop (mkF m 147 #[.val (.int p1), .val (.int p2), .val (.int p3), .val (.int p4), .val (.int p5), .val (.int v12_s0), .val (.int v27_s0), .val .null, .val (.ref b7), .val (.ref b8), .val (.int (1 : Int32)), .val (.ref b8), .unset, .unset, .unset] [(.int (1 : Int32))])) _
    refine XS.istore X15.here hx rfl (hb hby at_147) rfl (l' := #[.val (.int p1), .val (.int p2), .val (.int p3), .val (.int p4), .val (.int p5), .val (.int v12_s0), .val (.int v27_s0), .val .null, .val (.ref b7), .val (.ref b8), .val (.int (1 : Int32)), .val (.ref b8), .unset, .unset, .unset]) rfl ?_
    show Steps p.tables e below (T15.setTop (mkF m 149 #[.val (.int p1), .val (.int p2), .val (.int p3), .val (.int p4), .val (.int p5), .val (.int v12_s0), .val (.int v27_s0), .val .null, .val (.ref b7), .val (.ref b8), .val (.int (1 : Int32)), .val (.ref b8), .unset, .unset, .unset] [])) _
    refine XS.aload X15.here hx rfl (hb hby at_149) rfl rfl ?_
    show Steps p.tables e below (T15.setTop (mkF m 151 #[.val (.int p1), .val (.int p2), .val (.int p3), .val (.int p4), .val (.int p5), .val (.int v12_s0), .val (.int v27_s0), .val .null, .val (.ref b7), .val (.ref b8), .val (.int (1 : Int32)), .val (.ref b8), .unset, .unset, .unset] [(.ref b8)])) _
    refine XS.aload X15.here hx rfl (hb hby at_151) rfl rfl ?_
    show Steps p.tables e below (T15.setTop (mkF m 153 #[.val (.int p1), .val (.int p2), .val (.int p3), .val (.int p4), .val (.int p5), .val (.int v12_s0), .val (.int v27_s0), .val .null, .val (.ref b7), .val (.ref b8), .val (.int (1 : Int32)), .val (.ref b8), .unset, .unset, .unset] [(.ref b7), (.ref b8)])) _
    refine XS.iload X15.here hx rfl (hb hby at_153) rfl ?_
    show Steps p.tables e below (T15.setTop (mkF m 155 #[.val (.int p1), .val (.int p2), .val (.int p3), .val (.int p4), .val (.int p5), .val (.int v12_s0), .val (.int v27_s0), .val .null, .val (.ref b7), .val (.ref b8), .val (.int (1 : Int32)), .val (.ref b8), .unset, .unset, .unset] [(.int v27_s0), (.ref b7), (.ref b8)])) _
    refine st16.trans ?_
    show Steps p.tables e below (T16.setTop (mkF m 158 #[.val (.int p1), .val (.int p2), .val (.int p3), .val (.int p4), .val (.int p5), .val (.int v12_s0), .val (.int v27_s0), .val .null, .val (.ref b7), .val (.ref b8), .val (.int (1 : Int32)), .val (.ref b8), .unset, .unset, .unset] [(.ref b8)])) _
    refine XS.astore X16.here hx rfl (hb hby at_158) rfl rfl (l' := #[.val (.int p1), .val (.int p2), .val (.int p3), .val (.int p4), .val (.int p5), .val (.int v12_s0), .val (.int v27_s0), .val .null, .val (.ref b7), .val (.ref b8), .val (.int (1 : Int32)), .val (.ref b8), .val (.ref b8), .unset, .unset]) rfl ?_
    show Steps p.tables e below (T16.setTop (mkF m 160 #[.val (.int p1), .val (.int p2), .val (.int p3), .val (.int p4), .val (.int p5), .val (.int v12_s0), .val (.int v27_s0), .val .null, .val (.ref b7), .val (.ref b8), .val (.int (1 : Int32)), .val (.ref b8), .val (.ref b8), .unset, .unset] [])) _
    refine XS.iload X16.here hx rfl (hb hby at_160) rfl ?_
    show Steps p.tables e below (T16.setTop (mkF m 162 #[.val (.int p1), .val (.int p2), .val (.int p3), .val (.int p4), .val (.int p5), .val (.int v12_s0), .val (.int v27_s0), .val .null, .val (.ref b7), .val (.ref b8), .val (.int (1 : Int32)), .val (.ref b8), .val (.ref b8), .unset, .unset] [(.int v12_s0)])) _
    refine XS.ifYes X16.here hx rfl (pc0 := 162) (pc' := 170) rfl (hb hby at_162) rfl ((if0 _ _).trans (feq hc162).2) (by decide) (by decide) ?_
    show Steps p.tables e below (T16.setTop (mkF m 170 #[.val (.int p1), .val (.int p2), .val (.int p3), .val (.int p4), .val (.int p5), .val (.int v12_s0), .val (.int v27_s0), .val .null, .val (.ref b7), .val (.ref b8), .val (.int (1 : Int32)), .val (.ref b8), .val (.ref b8), .unset, .unset] [])) _
    refine XS.iload X16.here hx rfl (hb hby at_170) rfl ?_
    show Steps p.tables e below (T16.setTop (mkF m 172 #[.val (.int p1), .val (.int p2), .val (.int p3), .val (.int p4), .val (.int p5), .val (.int v12_s0), .val (.int v27_s0), .val .null, .val (.ref b7), .val (.ref b8), .val (.int (1 : Int32)), .val (.ref b8), .val (.ref b8), .unset, .unset] [(.int v12_s0)])) _
    refine XS.istore X16.here hx rfl (hb hby at_172) rfl (l' := #[.val (.int p1), .val (.int p2), .val (.int p3), .val (.int p4), .val (.int p5), .val (.int v12_s0), .val (.int v27_s0), .val .null, .val (.ref b7), .val (.ref b8), .val (.int (1 : Int32)), .val (.ref b8), .val (.ref b8), .val (.int v12_s0), .unset]) rfl ?_
    show Steps p.tables e below (T16.setTop (mkF m 174 #[.val (.int p1), .val (.int p2), .val (.int p3), .val (.int p4), .val (.int p5), .val (.int v12_s0), .val (.int v27_s0), .val .null, .val (.ref b7), .val (.ref b8), .val (.int (1 : Int32)), .val (.ref b8), .val (.ref b8), .val (.int v12_s0), .unset] [])) _
    refine XS.iload X16.here hx rfl (hb hby at_174) rfl ?_
    show Steps p.tables e below (T16.setTop (mkF m 176 #[.val (.int p1), .val (.int p2), .val (.int p3), .val (.int p4), .val (.int p5), .val (.int v12_s0), .val (.int v27_s0), .val .null, .val (.ref b7), .val (.ref b8), .val (.int (1 : Int32)), .val (.ref b8), .val (.ref b8), .val (.int v12_s0), .unset] [(.int v12_s0)])) _
    refine XS.ifYes X16.here hx rfl (pc0 := 176) (pc' := 184) rfl (hb hby at_176) rfl ((if0 _ _).trans (feq hc176).2) (by decide) (by decide) ?_
    show Steps p.tables e below (T16.setTop (mkF m 184 #[.val (.int p1), .val (.int p2), .val (.int p3), .val (.int p4), .val (.int p5), .val (.int v12_s0), .val (.int v27_s0), .val .null, .val (.ref b7), .val (.ref b8), .val (.int (1 : Int32)), .val (.ref b8), .val (.ref b8), .val (.int v12_s0), .unset] [])) _
    refine XS.aload X16.here hx rfl (hb hby at_184) rfl rfl ?_
    show Steps p.tables e below (T16.setTop (mkF m 186 #[.val (.int p1), .val (.int p2), .val (.int p3), .val (.int p4), .val (.int p5), .val (.int v12_s0), .val (.int v27_s0), .val .null, .val (.ref b7), .val (.ref b8), .val (.int (1 : Int32)), .val (.ref b8), .val (.ref b8), .val (.int v12_s0), .unset] [.null])) _
    refine XS.astore X16.here hx rfl (hb hby at_186) rfl rfl (l' := #[.val (.int p1), .val (.int p2), .val (.int p3), .val (.int p4), .val (.int p5), .val (.int v12_s0), .val (.int v27_s0), .val .null, .val (.ref b7), .val (.ref b8), .val (.int (1 : Int32)), .val (.ref b8), .val (.ref b8), .val (.int v12_s0), .val .null]) rfl ?_
    show Steps p.tables e below (T16.setTop (mkF m 188 #[.val (.int p1), .val (.int p2), .val (.int p3), .val (.int p4), .val (.int p5), .val (.int v12_s0), .val (.int v27_s0), .val .null, .val (.ref b7), .val (.ref b8), .val (.int (1 : Int32)), .val (.ref b8), .val (.ref b8), .val (.int v12_s0), .val .null] [])) _
    refine XS.iload X16.here hx rfl (hb hby at_188) rfl ?_
    show Steps p.tables e below (T16.setTop (mkF m 190 #[.val (.int p1), .val (.int p2), .val (.int p3), .val (.int p4), .val (.int p5), .val (.int v12_s0), .val (.int v27_s0), .val .null, .val (.ref b7), .val (.ref b8), .val (.int (1 : Int32)), .val (.ref b8), .val (.ref b8), .val (.int v12_s0), .val .null] [(.int (1 : Int32))])) _
    refine XS.ifNo X16.here hx rfl (hb hby at_190) rfl ((if0 _ _).trans (feq (by decide : ¬ ((1 : Int32) = (0 : Int32)))).1) ?_
    show Steps p.tables e below (T16.setTop (mkF m 193 #[.val (.int p1), .val (.int p2), .val (.int p3), .val (.int p4), .val (.int p5), .val (.int v12_s0), .val (.int v27_s0), .val .null, .val (.ref b7), .val (.ref b8), .val (.int (1 : Int32)), .val (.ref b8), .val (.ref b8), .val (.int v12_s0), .val .null] [])) _
    refine XS.aload X16.here hx rfl (hb hby at_193) rfl rfl ?_
    show Steps p.tables e below (T16.setTop (mkF m 195 #[.val (.int p1), .val (.int p2), .val (.int p3), .val (.int p4), .val (.int p5), .val (.int v12_s0), .val (.int v27_s0), .val .null, .val (.ref b7), .val (.ref b8), .val (.int (1 : Int32)), .val (.ref b8), .val (.ref b8), .val (.int v12_s0), .val .null] [(.ref b8)])) _
    refine XS.aload X16.here hx rfl (hb hby at_195) rfl rfl ?_
    show Steps p.tables e below (T16.setTop (mkF m 197 #[.val (.int p1), .val (.int p2), .val (.int p3), .val (.int p4), .val (.int p5), .val (.int v12_s0), .val (.int v27_s0), .val .null, .val (.ref b7), .val (.ref b8), .val (.int (1 : Int32)), .val (.ref b8), .val (.ref b8), .val (.int v12_s0), .val .null] [(.ref b8), (.ref b8)])) _
    refine Jvm.RoadKit.acmp (g := (mkF m 197 #[.val (.int p1), .val (.int p2), .val (.int p3), .val (.int p4), .val (.int p5), .val (.int v12_s0), .val (.int v27_s0), .val .null, .val (.ref b7), .val (.ref b8), .val (.int (1 : Int32)), .val (.ref b8), .val (.ref b8), .val (.int v12_s0), .val .null] [(.ref b8), (.ref b8)])) X16 hx rfl rfl rfl (pc0 := 197) (pc' := 200) (same := true) rfl (hb hby at_197) rfl (decide_eq_true rfl) (by decide) (by decide) ?_
    show Steps p.tables e below (T16.setTop (mkF m 200 #[.val (.int p1), .val (.int p2), .val (.int p3), .val (.int p4), .val (.int p5), .val (.int v12_s0), .val (.int v27_s0), .val .null, .val (.ref b7), .val (.ref b8), .val (.int (1 : Int32)), .val (.ref b8), .val (.ref b8), .val (.int v12_s0), .val .null] [])) _
    refine XS.aload X16.here hx rfl (hb hby at_200) rfl rfl ?_
    show Steps p.tables e below (T16.setTop (mkF m 202 #[.val (.int p1), .val (.int p2), .val (.int p3), .val (.int p4), .val (.int p5), .val (.int v12_s0), .val (.int v27_s0), .val .null, .val (.ref b7), .val (.ref b8), .val (.int (1 : Int32)), .val (.ref b8), .val (.ref b8), .val (.int v12_s0), .val .null] [(.ref b8)])) _
    refine st17.trans ?_
    show Steps p.tables e below (T17.setTop (mkF m 205 #[.val (.int p1), .val (.int p2), .val (.int p3), .val (.int p4), .val (.int p5), .val (.int v12_s0), .val (.int v27_s0), .val .null, .val (.ref b7), .val (.ref b8), .val (.int (1 : Int32)), .val (.ref b8), .val (.ref b8), .val (.int v12_s0), .val .null] [(.int v12_s0)])) _
    refine XS.iload X17.here hx rfl (hb hby at_205) rfl ?_
    show Steps p.tables e below (T17.setTop (mkF m 207 #[.val (.int p1), .val (.int p2), .val (.int p3), .val (.int p4), .val (.int p5), .val (.int v12_s0), .val (.int v27_s0), .val .null, .val (.ref b7), .val (.ref b8), .val (.int (1 : Int32)), .val (.ref b8), .val (.ref b8), .val (.int v12_s0), .val .null] [(.int v12_s0), (.int v12_s0)])) _
    refine XS.icmpNo X17.here hx rfl (hb hby at_207) rfl (teq (rfl : v12_s0 = v12_s0)).2 ?_
    show Steps p.tables e below (T17.setTop (mkF m 210 #[.val (.int p1), .val (.int p2), .val (.int p3), .val (.int p4), .val (.int p5), .val (.int v12_s0), .val (.int v27_s0), .val .null, .val (.ref b7), .val (.ref b8), .val (.int (1 : Int32)), .val (.ref b8), .val (.ref b8), .val (.int v12_s0), .val .null] [])) _
    refine XS.aload X17.here hx rfl (hb hby at_210) rfl rfl ?_
    show Steps p.tables e below (T17.setTop (mkF m 212 #[.val (.int p1), .val (.int p2), .val (.int p3), .val (.int p4), .val (.int p5), .val (.int v12_s0), .val (.int v27_s0), .val .null, .val (.ref b7), .val (.ref b8), .val (.int (1 : Int32)), .val (.ref b8), .val (.ref b8), .val (.int v12_s0), .val .null] [(.ref b8)])) _
    refine st18.trans ?_
    show Steps p.tables e below (T18.setTop (mkF m 215 #[.val (.int p1), .val (.int p2), .val (.int p3), .val (.int p4), .val (.int p5), .val (.int v12_s0), .val (.int v27_s0), .val .null, .val (.ref b7), .val (.ref b8), .val (.int (1 : Int32)), .val (.ref b8), .val (.ref b8), .val (.int v12_s0), .val .null] [.null])) _
    refine XS.aload X18.here hx rfl (hb hby at_215) rfl rfl ?_
    show Steps p.tables e below (T18.setTop (mkF m 217 #[.val (.int p1), .val (.int p2), .val (.int p3), .val (.int p4), .val (.int p5), .val (.int v12_s0), .val (.int v27_s0), .val .null, .val (.ref b7), .val (.ref b8), .val (.int (1 : Int32)), .val (.ref b8), .val (.ref b8), .val (.int v12_s0), .val .null] [.null, .null])) _
    refine Jvm.RoadKit.acmp (g := (mkF m 217 #[.val (.int p1), .val (.int p2), .val (.int p3), .val (.int p4), .val (.int p5), .val (.int v12_s0), .val (.int v27_s0), .val .null, .val (.ref b7), .val (.ref b8), .val (.int (1 : Int32)), .val (.ref b8), .val (.ref b8), .val (.int v12_s0), .val .null] [.null, .null])) X18 hx rfl rfl rfl (pc0 := 217) (pc' := 220) (same := true) rfl (hb hby at_217) rfl (decide_eq_true rfl) (by decide) (by decide) ?_
    show Steps p.tables e below (T18.setTop (mkF m 220 #[.val (.int p1), .val (.int p2), .val (.int p3), .val (.int p4), .val (.int p5), .val (.int v12_s0), .val (.int v27_s0), .val .null, .val (.ref b7), .val (.ref b8), .val (.int (1 : Int32)), .val (.ref b8), .val (.ref b8), .val (.int v12_s0), .val .null] [])) _
    refine XS.iconst X18.here hx rfl (hb hby at_220) ?_
    show Steps p.tables e below (T18.setTop (mkF m 221 #[.val (.int p1), .val (.int p2), .val (.int p3), .val (.int p4), .val (.int p5), .val (.int v12_s0), .val (.int v27_s0), .val .null, .val (.ref b7), .val (.ref b8), .val (.int (1 : Int32)), .val (.ref b8), .val (.ref b8), .val (.int v12_s0), .val .null] [(.int (1 : Int32))])) _
    refine XS.goto X18.here hx rfl (pc0 := 221) (pc' := 225) rfl (hb hby at_221) (by decide) (by decide) ?_
    show Steps p.tables e below (T18.setTop (mkF m 225 #[.val (.int p1), .val (.int p2), .val (.int p3), .val (.int p4), .val (.int p5), .val (.int v12_s0), .val (.int v27_s0), .val .null, .val (.ref b7), .val (.ref b8), .val (.int (1 : Int32)), .val (.ref b8), .val (.ref b8), .val (.int v12_s0), .val .null] [(.int (1 : Int32))])) _
    refine XS.istore X18.here hx rfl (hb hby at_225) rfl (l' := #[.val (.int p1), .val (.int p2), .val (.int p3), .val (.int p4), .val (.int p5), .val (.int v12_s0), .val (.int v27_s0), .val .null, .val (.ref b7), .val (.ref b8), .val (.int (1 : Int32)), .val (.ref b8), .val (.ref b8), .val (.int v12_s0), .val .null]) rfl ?_
    show Steps p.tables e below (T18.setTop (mkF m 227 #[.val (.int p1), .val (.int p2), .val (.int p3), .val (.int p4), .val (.int p5), .val (.int v12_s0), .val (.int v27_s0), .val .null, .val (.ref b7), .val (.ref b8), .val (.int (1 : Int32)), .val (.ref b8), .val (.ref b8), .val (.int v12_s0), .val .null] [])) _
    refine XS.iload X18.here hx rfl (hb hby at_227) rfl ?_
    show Steps p.tables e below (T18.setTop (mkF m 229 #[.val (.int p1), .val (.int p2), .val (.int p3), .val (.int p4), .val (.int p5), .val (.int v12_s0), .val (.int v27_s0), .val .null, .val (.ref b7), .val (.ref b8), .val (.int (1 : Int32)), .val (.ref b8), .val (.ref b8), .val (.int v12_s0), .val .null] [(.int (1 : Int32))])) _
    exact retN X18 hx (t := .boolean) Bd.returns (by simp) (hb hby at_229) hr
  · show Q0nrt Z p1 p2 p3 p4 p5 v12_s0 v27_s0 h0 n0 _ T18.heap _
    rw [e18]
    exact ⟨rfl, N18⟩
def Q0nnz (Z : State) (p1 : Int32) (p2 : Int32) (p3 : Int32) (p4 : Int32) (p5 : Int32) (v12_s0 : Int32) (v27_s0 : Int32) (h0 : Heap) (n0 : Nat) (v : Option Value) (h : Heap) (L : List Loc) : Prop := v = some (.int (1 : Int32)) ∧ Fr n0 L
set_option maxRecDepth 65536 in
set_option maxHeartbeats 40000000 in
theorem rm0nnz (l : Launch) (Z : State) (a0 : Array Value) (hw : ∀ d ∈ tables_1, d.before a0 Z = true) (ws : List Jvm.Cond) (p1 : Int32) (p2 : Int32) (p3 : Int32) (p4 : Int32) (p5 : Int32) (v12_s0 : Int32) (v27_s0 : Int32) (zc : Int32) (h0 : Heap) (n0 : Nat) (Z0 : n0 ≤ h0.size) (hv12_s0 : v12_s0 = (if (p5 &&& (1 : Int32)) = (0 : Int32) then p1 else (0 : Int32))) (hv27_s0 : v27_s0 = (if (p5 &&& (8 : Int32)) = (0 : Int32) then p2 else (0 : Int32))) (O0 : Old Z n0 h0) (hc34 : ¬ ((p5 &&& (2 : Int32)) = (0 : Int32))) (hc52 : ¬ ((p5 &&& (4 : Int32)) = (0 : Int32))) (hc162 : v12_s0 = (0 : Int32)) (hc176 : v12_s0 = (0 : Int32)) (hlT : l.stackTraces = true) (S0 : own_St Z Z.heap) (S_cs : Sta Z Z.heap "java/lang/String" "COMPACT_STRINGS" "Z" (.int zc)) (hcs : ¬ (zc = (0 : Int32))) (wS : ∀ a ∈ Bundle.stringAtoms, a.before a0 Z = true) (hz0 : h0 = Z.heap) :
    MetFree l x (head1 (Jvm.Cond.code x code maxLocals ret :: ws) room_1) (fun a U => a = #[(.int p1), (.int p2), (.int p3), (.int p4), (.int p5)] ∧ U.vm = Z.vm ∧ U.heap = h0) (fun _ _ B U _ => U.vm.MethodsKnown ∧ U.vm.FramesKnown B) (fun _ U o U' => ∃ v L, o = .returned v ∧ Q0nnz Z p1 p2 p3 p4 p5 v12_s0 v27_s0 h0 n0 v U'.heap L ∧ ReturnedEndW U o U' L room_1.cells room_1.slots) := by
  refine MetFree.of_bodySF (plainFor_of_name pn_0) hisR ?_
  intro p e s m args below meth c s₁ Bd hml0 hP hK
  obtain ⟨rfl, hU, hh⟩ := hP
  obtain ⟨hTK, hBK⟩ := hK
  rw [hU] at hTK hBK
  have hZ : Z.Warmed39 (s.setVm s.vm).vm := by
    show Z.Warmed39 s.vm
    rw [hU]; exact State.Warmed39.refl Z
  have hx := Bd.exec
  have hby := Bd.bytes
  have hml : c.maxLocals = 15 := hml0
  have hown : (s.setVm s.vm).vm.findClass "nephrite/EvaluationExceptionOnPinLaw" = some m.cls := findClass_of_methodNamed Bd.named
  have hnm := (name_of_methodNamed Bd.named Bd.method).1
  have X0 : Stand p l e room_1 (s.setVm s.vm) m #[(.int p1), (.int p2), (.int p3), (.int p4), (.int p5)] below meth c s₁ [] 0 0 := Stand.of_body Bd
  have e0 : s₁.heap = h0 := by rw [← hh, Bd.state]; rfl
  have N0 := Fr.nil n0
  have hS : s.Since s.vm h0.size := (State.WarmedH.refl s).since _
  have hk : h0.size ≤ h0.size := Nat.le_refl _
  have pre0 : ∀ t, Steps p.tables e below (s₁.setTop (mkF m 0 #[.val (.int p1), .val (.int p2), .val (.int p3), .val (.int p4), .val (.int p5), .unset, .unset, .unset, .unset, .unset, .unset, .unset, .unset, .unset, .unset] [])) t → Steps p.tables e below (s₁.setTop (entryFrame m #[(.int p1), (.int p2), (.int p3), (.int p4), (.int p5)] maxLocals)) t := fun t k => castTop (ef_0 m p1 p2 p3 p4 p5) k
  have sg4 : ∀ t, Steps p.tables e below (s₁.setTop (mkF m 12 #[.val (.int p1), .val (.int p2), .val (.int p3), .val (.int p4), .val (.int p5), .unset, .unset, .unset, .unset, .unset, .unset, .unset, .unset, .unset, .unset] [(.int v12_s0)])) t → Steps p.tables e below (s₁.setTop (mkF m 4 #[.val (.int p1), .val (.int p2), .val (.int p3), .val (.int p4), .val (.int p5), .unset, .unset, .unset, .unset, .unset, .unset, .unset, .unset, .unset, .unset] [(.int (p5 &&& (1 : Int32)))])) t := by
    intro t kt
    show Steps p.tables e below (s₁.setTop (mkF m 4 #[.val (.int p1), .val (.int p2), .val (.int p3), .val (.int p4), .val (.int p5), .unset, .unset, .unset, .unset, .unset, .unset, .unset, .unset, .unset, .unset] [(.int (p5 &&& (1 : Int32)))])) _
    by_cases hm4 : (p5 &&& (1 : Int32)) = (0 : Int32)
    · rw [show v12_s0 = p1 by rw [hv12_s0, if_pos hm4]] at kt
      refine XS.ifYes X0.here hx rfl (pc0 := 4) (pc' := 11) rfl (hb hby at_4) rfl ((if0 _ _).trans (teq hm4).1) (by decide) (by decide) ?_
      show Steps p.tables e below (s₁.setTop (mkF m 11 #[.val (.int p1), .val (.int p2), .val (.int p3), .val (.int p4), .val (.int p5), .unset, .unset, .unset, .unset, .unset, .unset, .unset, .unset, .unset, .unset] [])) _
      refine XS.iloadN X0.here hx rfl (hb hby at_11) rfl ?_
      exact kt
    · rw [show v12_s0 = (0 : Int32) by rw [hv12_s0, if_neg hm4]] at kt
      refine XS.ifNo X0.here hx rfl (hb hby at_4) rfl ((if0 _ _).trans (feq hm4).1) ?_
      show Steps p.tables e below (s₁.setTop (mkF m 7 #[.val (.int p1), .val (.int p2), .val (.int p3), .val (.int p4), .val (.int p5), .unset, .unset, .unset, .unset, .unset, .unset, .unset, .unset, .unset, .unset] [])) _
      refine XS.iconst X0.here hx rfl (hb hby at_7) ?_
      show Steps p.tables e below (s₁.setTop (mkF m 8 #[.val (.int p1), .val (.int p2), .val (.int p3), .val (.int p4), .val (.int p5), .unset, .unset, .unset, .unset, .unset, .unset, .unset, .unset, .unset, .unset] [(.int (0 : Int32))])) _
      refine XS.goto X0.here hx rfl (pc0 := 8) (pc' := 12) rfl (hb hby at_8) (by decide) (by decide) ?_
      exact kt
  have sg19 : ∀ t, Steps p.tables e below (s₁.setTop (mkF m 27 #[.val (.int p1), .val (.int p2), .val (.int p3), .val (.int p4), .val (.int p5), .val (.int v12_s0), .unset, .unset, .unset, .unset, .unset, .unset, .unset, .unset, .unset] [(.int v27_s0)])) t → Steps p.tables e below (s₁.setTop (mkF m 19 #[.val (.int p1), .val (.int p2), .val (.int p3), .val (.int p4), .val (.int p5), .val (.int v12_s0), .unset, .unset, .unset, .unset, .unset, .unset, .unset, .unset, .unset] [(.int (p5 &&& (8 : Int32)))])) t := by
    intro t kt
    show Steps p.tables e below (s₁.setTop (mkF m 19 #[.val (.int p1), .val (.int p2), .val (.int p3), .val (.int p4), .val (.int p5), .val (.int v12_s0), .unset, .unset, .unset, .unset, .unset, .unset, .unset, .unset, .unset] [(.int (p5 &&& (8 : Int32)))])) _
    by_cases hm19 : (p5 &&& (8 : Int32)) = (0 : Int32)
    · rw [show v27_s0 = p2 by rw [hv27_s0, if_pos hm19]] at kt
      refine XS.ifYes X0.here hx rfl (pc0 := 19) (pc' := 26) rfl (hb hby at_19) rfl ((if0 _ _).trans (teq hm19).1) (by decide) (by decide) ?_
      show Steps p.tables e below (s₁.setTop (mkF m 26 #[.val (.int p1), .val (.int p2), .val (.int p3), .val (.int p4), .val (.int p5), .val (.int v12_s0), .unset, .unset, .unset, .unset, .unset, .unset, .unset, .unset, .unset] [])) _
      refine XS.iloadN X0.here hx rfl (hb hby at_26) rfl ?_
      exact kt
    · rw [show v27_s0 = (0 : Int32) by rw [hv27_s0, if_neg hm19]] at kt
      refine XS.ifNo X0.here hx rfl (hb hby at_19) rfl ((if0 _ _).trans (feq hm19).1) ?_
      show Steps p.tables e below (s₁.setTop (mkF m 22 #[.val (.int p1), .val (.int p2), .val (.int p3), .val (.int p4), .val (.int p5), .val (.int v12_s0), .unset, .unset, .unset, .unset, .unset, .unset, .unset, .unset, .unset] [])) _
      refine XS.iconst X0.here hx rfl (hb hby at_22) ?_
      show Steps p.tables e below (s₁.setTop (mkF m 23 #[.val (.int p1), .val (.int p2), .val (.int p3), .val (.int p4), .val (.int p5), .val (.int v12_s0), .unset, .unset, .unset, .unset, .unset, .unset, .unset, .unset, .unset] [(.int (0 : Int32))])) _
      refine XS.goto X0.here hx rfl (pc0 := 23) (pc' := 27) rfl (hb hby at_23) (by decide) (by decide) ?_
      exact kt
  obtain ⟨_, _, ⟨T6, L6, k6, n6⟩, -, X6, ⟨Lc6, hQ6, l6, y6, z6⟩, st6⟩ := Jvm.LawKit.callS X0 hx (y := (⟨"nephrite/EvaluationExceptionOnPinLaw", "name", "(IZ)Ljava/lang/String;"⟩ : MethodName)) hown (mvT hZ (hw _ (List.mem_of_getElem? (i := 0) rfl))) (mvT hZ (hw _ (List.mem_of_getElem? (i := 1) rfl))) (mvT hZ (hw _ (List.mem_of_getElem? (i := 2) rfl))) (mvT hZ (hw _ (List.mem_of_getElem? (i := 3) rfl))) (by decide) (backOf (W := 0) (rm1n l Z a0 hw [] p3 (1 : Int32)  h0 n0 Z0 (by decide)) hZ (hw _ (List.mem_of_getElem? (i := 3) rfl)) (hw _ (List.mem_of_getElem? (i := 2) rfl)) (by decide) (by decide)) (g := (mkF m 42 #[.val (.int p1), .val (.int p2), .val (.int p3), .val (.int p4), .val (.int p5), .val (.int v12_s0), .val (.int v27_s0), .unset, .unset, .unset, .unset, .unset, .unset, .unset, .unset] [(.int (1 : Int32)), (.int p3)])) rfl (by rw [hml]; rfl) (argsL := [(.int p3), (.int (1 : Int32))]) (rest := []) (lenOf pd_0_0 rfl) rfl (by show 2 * 0 + _ ≤ _; exact Nat.le_of_eq rfl) (hb hby at_42) (fun _ _ => ⟨rfl, e0, (by decide : 0 + 0 ≤ _), (by decide : 0 + 0 ≤ _)⟩)
  dsimp only [Pt.U, Pt.locs, Pt.cells, Pt.slots] at X6 l6 y6 z6 st6 hQ6
  subst l6 y6 z6
  obtain ⟨rfl, N6q, e6⟩ := hQ6
  have N6 := Fr.app N0 N6q
  obtain ⟨_, _, ⟨T7, L7, k7, n7⟩, -, X7, ⟨Lc7, hQ7, l7, y7, z7⟩, st7⟩ := Jvm.LawKit.callS X6 hx (y := (⟨"nephrite/EvaluationExceptionOnPinLaw", "name", "(IZ)Ljava/lang/String;"⟩ : MethodName)) hown (mvT hZ (hw _ (List.mem_of_getElem? (i := 0) rfl))) (mvT hZ (hw _ (List.mem_of_getElem? (i := 1) rfl))) (mvT hZ (hw _ (List.mem_of_getElem? (i := 2) rfl))) (mvT hZ (hw _ (List.mem_of_getElem? (i := 3) rfl))) (by decide) (backOf (W := 0) (rm1n l Z a0 hw [] p4 (1 : Int32)  h0 n0 Z0 (by decide)) hZ (hw _ (List.mem_of_getElem? (i := 3) rfl)) (hw _ (List.mem_of_getElem? (i := 2) rfl)) (by decide) (by decide)) (g := (mkF m 60 #[.val (.int p1), .val (.int p2), .val (.int p3), .val (.int p4), .val (.int p5), .val (.int v12_s0), .val (.int v27_s0), .val .null, .unset, .unset, .unset, .unset, .unset, .unset, .unset] [(.int (1 : Int32)), (.int p4)])) rfl (by rw [hml]; rfl) (argsL := [(.int p4), (.int (1 : Int32))]) (rest := []) (lenOf pd_0_0 rfl) rfl (by show 2 * 0 + _ ≤ _; exact Nat.le_of_eq rfl) (hb hby at_60) (fun _ _ => ⟨rfl, e6, (by decide : 0 + 0 ≤ _), (by decide : 0 + 0 ≤ _)⟩)
  dsimp only [Pt.U, Pt.locs, Pt.cells, Pt.slots] at X7 l7 y7 z7 st7 hQ7
  subst l7 y7 z7
  obtain ⟨rfl, N7q, e7⟩ := hQ7
  have N7 := Fr.app N6 N7q
  obtain ⟨T8, h8, X8, e8, E8, A8, D8, U8, st8⟩ := newO X7 hx hZ hown (hw _ (List.mem_of_getElem? (i := 34) rfl)) (hw _ (List.mem_of_getElem? (i := 35) rfl)) (hw _ (List.mem_of_getElem? (i := 36) rfl)) e7 (g := (mkF m 65 #[.val (.int p1), .val (.int p2), .val (.int p3), .val (.int p4), .val (.int p5), .val (.int v12_s0), .val (.int v27_s0), .val .null, .val .null, .unset, .unset, .unset, .unset, .unset, .unset] [])) rfl (hb hby at_65) (by decide) (by decide)
  obtain ⟨b8, g8⟩ : ∃ z, z = h0.size := ⟨_, rfl⟩
  rw [← g8] at A8 D8 st8
  have F_cause_b8 : Fld Z h8 b8 "java/lang/Throwable" "cause" "Ljava/lang/Throwable;" .null := D8 (Or.inl (hw _ (List.mem_of_getElem? (i := 62) rfl))) (ty := (.object "java/lang/Throwable")) (by decide)
  have F_stackTrace_b8 : Fld Z h8 b8 "java/lang/Throwable" "stackTrace" "[Ljava/lang/StackTraceElement;" .null := D8 (Or.inl (hw _ (List.mem_of_getElem? (i := 65) rfl))) (ty := (.array (.object "java/lang/StackTraceElement"))) (by decide)
  have F_suppressedExceptions_b8 : Fld Z h8 b8 "java/lang/Throwable" "suppressedExceptions" "Ljava/util/List;" .null := D8 (Or.inl (hw _ (List.mem_of_getElem? (i := 68) rfl))) (ty := (.object "java/util/List")) (by decide)
  have F_detailMessage_b8 : Fld Z h8 b8 "java/lang/Throwable" "detailMessage" "Ljava/lang/String;" .null := D8 (Or.inl (hw _ (List.mem_of_getElem? (i := 92) rfl))) (ty := (.object "java/lang/String")) (by decide)
  have F_backtrace_b8 : Fld Z h8 b8 "java/lang/Throwable" "backtrace" "Ljava/lang/Object;" .null := D8 (Or.inl (hw _ (List.mem_of_getElem? (i := 93) rfl))) (ty := (.object "java/lang/Object")) (by decide)
  have F_depth_b8 : Fld Z h8 b8 "java/lang/Throwable" "depth" "I" (.int (0 : Int32)) := D8 (Or.inl (hw _ (List.mem_of_getElem? (i := 94) rfl))) (ty := .int) (by decide)
  have F_line_b8 : Fld Z h8 b8 "nephrite/EvaluationException" "line" "I" (.int (0 : Int32)) := D8 (Or.inl (hw _ (List.mem_of_getElem? (i := 103) rfl))) (ty := .int) (by decide)
  have F_templateName_b8 : Fld Z h8 b8 "nephrite/EvaluationException" "templateName" "Ljava/lang/String;" .null := D8 (Or.inl (hw _ (List.mem_of_getElem? (i := 110) rfl))) (ty := (.object "java/lang/String")) (by decide)
  have U_b8 : Unt h8 b8 := by rw [g8]; exact U8
  have E_b8 := A8
  have g_b8 : n0 ≤ b8 := Nat.le_trans Z0 (Nat.le_of_eq g8.symm)
  have sz_b8 : h0.size ≤ b8 := (Nat.le_trans (Keep.refl h0 []).1 (Nat.le_of_eq g8.symm))
  have K8 : Keep h0 h8 [] := (Keep.refl h0 []).ext E8
  obtain ⟨b9, T9, h9, q9, X9, e9, E9, hS, hk, hZ, hown, hC9, -, st9⟩ := ldcOH X8 hx hZ hown (hw _ (List.mem_of_getElem? (i := 37) rfl)) wS e8 hS (Nat.le_trans hk K8.1) (EW.nil : EW Z a0 []) (fun _ q => by cases q) (g := (mkF m 69 #[.val (.int p1), .val (.int p2), .val (.int p3), .val (.int p4), .val (.int p5), .val (.int v12_s0), .val (.int v27_s0), .val .null, .val .null, .unset, .unset, .unset, .unset, .unset, .unset] [(.ref b8), (.ref b8)])) rfl (hb hby at_69) (n := 4) (by decide) (by decide) (by decide) (by decide)
  have H := hC9.1
  have K9 : Keep h0 h9 [] := K8.ext E9
  obtain ⟨_, _, ⟨T10, L10, k10, n10⟩, -, X10, ⟨Lc10, hQ10, l10, y10, z10⟩, st10⟩ := X9.specialBack hx (y := (⟨"nephrite/EvaluationException", "<init>", "(Ljava/lang/String;)V"⟩ : MethodName)) rfl hown (mvT hZ (hw _ (List.mem_of_getElem? (i := 40) rfl))) (mvT hZ (hw _ (List.mem_of_getElem? (i := 41) rfl))) (mvT hZ (hw _ (List.mem_of_getElem? (i := 42) rfl))) (by decide) (own_backK (W := 1) (rm8 l Z a0 hw [] b8 b9  h9 n0 (Nat.le_trans (Nat.le_trans Z0 E8.1) E9.1) g_b8 hlT ⟨(E_b8.ext E9), (U_b8.ext E9), ⟨_, (F_cause_b8.ext E9)⟩, ⟨_, (F_stackTrace_b8.ext E9)⟩, ⟨_, (F_suppressedExceptions_b8.ext E9)⟩, (F_backtrace_b8.ext E9), _, (F_detailMessage_b8.ext E9)⟩ (own_St_old S0 (O0.keep K9 all0))) hZ (hw _ (List.mem_of_getElem? (i := 42) rfl)) (hw _ (List.mem_of_getElem? (i := 36) rfl)) (Vm.MethodsKnown.alikeC hZ.alike hTK) (Vm.FramesKnown.alikeC hZ.alike hBK) (by decide) (by decide)) (g := (mkF m 71 #[.val (.int p1), .val (.int p2), .val (.int p3), .val (.int p4), .val (.int p5), .val (.int v12_s0), .val (.int v27_s0), .val .null, .val .null, .unset, .unset, .unset, .unset, .unset, .unset] [(.ref b9), (.ref b8), (.ref b8)])) rfl (by rw [hml]; rfl) (Steps.refl _) (a := b8) (argsL := [(.ref b9)]) (rest := [(.ref b8)]) (lenOf pd_0_7 rfl) rfl (by show 2 * 0 + _ ≤ _; exact Nat.le_of_eq rfl) (hb hby at_71) (fun _ _ => ⟨rfl, e9, (by decide : 3 + 1 ≤ _), (by decide : 16 + 2752 ≤ _)⟩)
  dsimp only [Pt.U, Pt.locs, Pt.cells, Pt.slots] at X10 l10 y10 z10 st10 hQ10
  subst l10 y10 z10
  obtain ⟨rfl, N10q, Kp10⟩ := hQ10
  have N10 := Fr.app N7 N10q
  have K10c := keep_of_kp Kp10
  have K10 : Keep h0 T10.heap [] := K9.trans K10c (allS (Or.inr sz_b8) all0)
  have Ec10 := (E_b8.ext E9).kp Kp10
  have Fk10_line := Fld.kp Kp10 (F_line_b8.ext E9) (Or.inr (own_six_ne hw (Or.inl (hw _ (List.mem_of_getElem? (i := 103) rfl))) (ty := .int) (by decide) (by decide)))
  have Fk10_templateName := Fld.kp Kp10 (F_templateName_b8.ext E9) (Or.inr (own_six_ne hw (Or.inl (hw _ (List.mem_of_getElem? (i := 110) rfl))) (ty := (.object "java/lang/String")) (by decide) (by decide)))
  obtain ⟨cq11, kq11, q11a, q11b, q11c⟩ := isOf hZ rfl Ec10
  obtain ⟨_, _, ⟨T11, L11, k11, n11⟩, -, X11, ⟨Lc11, hQ11, l11, y11, z11⟩, st11⟩ := X10.virtualBack hx (y := (⟨"nephrite/EvaluationException", "line", "()I"⟩ : MethodName)) (z := (⟨"nephrite/EvaluationException", "line", "()I"⟩ : MethodName)) hown (mvT hZ (hw _ (List.mem_of_getElem? (i := 97) rfl))) (mvT hZ (hw _ (List.mem_of_getElem? (i := 98) rfl))) (notFace_of_selects (args := #[]) (mvT hZ (hw _ (List.mem_of_getElem? (i := 100) rfl)))) (mvT hZ (hw _ (List.mem_of_getElem? (i := 100) rfl))) (mvT hZ (hw _ (List.mem_of_getElem? (i := 99) rfl))) (by decide) (backOf (W := 0) (rm14 l Z a0 hw [] b8 (0 : Int32) T10.heap n0 (Nat.le_trans (Nat.le_trans (Nat.le_trans Z0 E8.1) E9.1) K10c.1) Fk10_line) hZ (hw _ (List.mem_of_getElem? (i := 101) rfl)) (hw _ (List.mem_of_getElem? (i := 36) rfl)) (by decide) (by decide)) q11a q11c (g := (mkF m 78 #[.val (.int p1), .val (.int p2), .val (.int p3), .val (.int p4), .val (.int p5), .val (.int v12_s0), .val (.int v27_s0), .val .null, .val .null, .val (.ref b8), .unset, .unset, .unset, .unset, .unset] [(.ref b8)])) rfl (by rw [hml]; rfl) (Steps.refl _) (argsL := []) (rest := []) (lenOf pd_0_10 rfl) rfl (by show 2 * 0 + _ ≤ _; exact Nat.le_of_eq rfl) (hb hby at_78) (fun _ _ => ⟨rfl, rfl, (by decide : 4 + 0 ≤ _), (by decide : 2768 + 0 ≤ _)⟩)
  dsimp only [Pt.U, Pt.locs, Pt.cells, Pt.slots] at X11 l11 y11 z11 st11 hQ11
  subst l11 y11 z11
  obtain ⟨rfl, N11q, e11⟩ := hQ11
  have N11 := Fr.app N10 N11q
  obtain ⟨cq12, kq12, q12a, q12b, q12c⟩ := isOf hZ e11 Ec10
  obtain ⟨_, _, ⟨T12, L12, k12, n12⟩, -, X12, ⟨Lc12, hQ12, l12, y12, z12⟩, st12⟩ := X11.virtualBack hx (y := (⟨"nephrite/EvaluationException", "templateName", "()Ljava/lang/String;"⟩ : MethodName)) (z := (⟨"nephrite/EvaluationException", "templateName", "()Ljava/lang/String;"⟩ : MethodName)) hown (mvT hZ (hw _ (List.mem_of_getElem? (i := 104) rfl))) (mvT hZ (hw _ (List.mem_of_getElem? (i := 105) rfl))) (notFace_of_selects (args := #[]) (mvT hZ (hw _ (List.mem_of_getElem? (i := 107) rfl)))) (mvT hZ (hw _ (List.mem_of_getElem? (i := 107) rfl))) (mvT hZ (hw _ (List.mem_of_getElem? (i := 106) rfl))) (by decide) (backOf (W := 0) (rm15n l Z a0 hw [] b8  T10.heap n0 (Nat.le_trans (Nat.le_trans (Nat.le_trans Z0 E8.1) E9.1) K10c.1) Fk10_templateName) hZ (hw _ (List.mem_of_getElem? (i := 108) rfl)) (hw _ (List.mem_of_getElem? (i := 36) rfl)) (by decide) (by decide)) q12a q12c (g := (mkF m 86 #[.val (.int p1), .val (.int p2), .val (.int p3), .val (.int p4), .val (.int p5), .val (.int v12_s0), .val (.int v27_s0), .val .null, .val .null, .val (.ref b8), .unset, .unset, .unset, .unset, .unset] [(.ref b8)])) rfl (by rw [hml]; rfl) (Steps.refl _) (argsL := []) (rest := []) (lenOf pd_0_11 rfl) rfl (by show 2 * 0 + _ ≤ _; exact Nat.le_of_eq rfl) (hb hby at_86) (fun _ _ => ⟨rfl, e11, (by decide : 4 + 0 ≤ _), (by decide : 2768 + 0 ≤ _)⟩)
  dsimp only [Pt.U, Pt.locs, Pt.cells, Pt.slots] at X12 l12 y12 z12 st12 hQ12
  subst l12 y12 z12
  obtain ⟨rfl, N12q, e12⟩ := hQ12
  have N12 := Fr.app N11 N12q
  obtain ⟨cq13, kq13, q13a, q13b, q13c⟩ := isOf hZ e12 Ec10
  obtain ⟨_, _, ⟨T13, L13, k13, n13⟩, -, X13, ⟨Lc13, hQ13, l13, y13, z13⟩, st13⟩ := X12.virtualBack hx (y := (⟨"nephrite/EvaluationException", "on", "(Ljava/lang/String;I)Lnephrite/EvaluationException;"⟩ : MethodName)) (z := (⟨"nephrite/EvaluationException", "on", "(Ljava/lang/String;I)Lnephrite/EvaluationException;"⟩ : MethodName)) hown (mvT hZ (hw _ (List.mem_of_getElem? (i := 111) rfl))) (mvT hZ (hw _ (List.mem_of_getElem? (i := 112) rfl))) (notFace_of_selects (args := #[]) (mvT hZ (hw _ (List.mem_of_getElem? (i := 114) rfl)))) (mvT hZ (hw _ (List.mem_of_getElem? (i := 114) rfl))) (mvT hZ (hw _ (List.mem_of_getElem? (i := 113) rfl))) (by decide) (backOf (W := 0) (rm16fn l Z a0 hw [] b8 v12_s0 _ _ T10.heap n0 (Nat.le_trans (Nat.le_trans (Nat.le_trans Z0 E8.1) E9.1) K10c.1) Fk10_line Ec10 Fk10_templateName g_b8 rfl) hZ (hw _ (List.mem_of_getElem? (i := 115) rfl)) (hw _ (List.mem_of_getElem? (i := 36) rfl)) (by decide) (by decide)) q13a q13c (g := (mkF m 105 #[.val (.int p1), .val (.int p2), .val (.int p3), .val (.int p4), .val (.int p5), .val (.int v12_s0), .val (.int v27_s0), .val .null, .val .null, .val (.ref b8), .val (.int (1 : Int32)), .unset, .unset, .unset, .unset] [(.int v12_s0), .null, (.ref b8)])) rfl (by rw [hml]; rfl) (Steps.refl _) (argsL := [.null, (.int v12_s0)]) (rest := []) (lenOf pd_0_12 rfl) rfl (by show 2 * 0 + _ ≤ _; exact Nat.le_of_eq rfl) (hb hby at_105) (fun _ _ => ⟨rfl, e12, (by decide : 4 + 0 ≤ _), (by decide : 2768 + 0 ≤ _)⟩)
  dsimp only [Pt.U, Pt.locs, Pt.cells, Pt.slots] at X13 l13 y13 z13 st13 hQ13
  subst l13 y13 z13
  obtain ⟨rfl, N13q, K13c, Ec13, Fc13_0, Fc13_1⟩ := hQ13
  have N13 := Fr.app N12 N13q
  have K13 : Keep h0 T13.heap [] := K10.trans K13c (allS (Or.inr sz_b8) all0)
  obtain ⟨cq14, kq14, q14a, q14b, q14c⟩ := isOf hZ rfl Ec13
  obtain ⟨_, _, ⟨T14, L14, k14, n14⟩, -, X14, ⟨Lc14, hQ14, l14, y14, z14⟩, st14⟩ := X13.virtualBack hx (y := (⟨"nephrite/EvaluationException", "line", "()I"⟩ : MethodName)) (z := (⟨"nephrite/EvaluationException", "line", "()I"⟩ : MethodName)) hown (mvT hZ (hw _ (List.mem_of_getElem? (i := 97) rfl))) (mvT hZ (hw _ (List.mem_of_getElem? (i := 98) rfl))) (notFace_of_selects (args := #[]) (mvT hZ (hw _ (List.mem_of_getElem? (i := 100) rfl)))) (mvT hZ (hw _ (List.mem_of_getElem? (i := 100) rfl))) (mvT hZ (hw _ (List.mem_of_getElem? (i := 99) rfl))) (by decide) (backOf (W := 0) (rm14 l Z a0 hw [] b8 v12_s0 T13.heap n0 (Nat.le_trans (Nat.le_trans (Nat.le_trans (Nat.le_trans Z0 E8.1) E9.1) K10c.1) K13c.1) Fc13_0) hZ (hw _ (List.mem_of_getElem? (i := 101) rfl)) (hw _ (List.mem_of_getElem? (i := 36) rfl)) (by decide) (by decide)) q14a q14c (g := (mkF m 124 #[.val (.int p1), .val (.int p2), .val (.int p3), .val (.int p4), .val (.int p5), .val (.int v12_s0), .val (.int v27_s0), .val .null, .val .null, .val (.ref b8), .val (.int (1 : Int32)), .val (.ref b8), .unset, .unset, .unset] [(.ref b8)])) rfl (by rw [hml]; rfl) (Steps.refl _) (argsL := []) (rest := []) (lenOf pd_0_10 rfl) rfl (by show 2 * 0 + _ ≤ _; exact Nat.le_of_eq rfl) (hb hby at_124) (fun _ _ => ⟨rfl, rfl, (by decide : 4 + 0 ≤ _), (by decide : 2768 + 0 ≤ _)⟩)
  dsimp only [Pt.U, Pt.locs, Pt.cells, Pt.slots] at X14 l14 y14 z14 st14 hQ14
  subst l14 y14 z14
  obtain ⟨rfl, N14q, e14⟩ := hQ14
  have N14 := Fr.app N13 N14q
  obtain ⟨cq15, kq15, q15a, q15b, q15c⟩ := isOf hZ e14 Ec13
  obtain ⟨_, _, ⟨T15, L15, k15, n15⟩, -, X15, ⟨Lc15, hQ15, l15, y15, z15⟩, st15⟩ := X14.virtualBack hx (y := (⟨"nephrite/EvaluationException", "templateName", "()Ljava/lang/String;"⟩ : MethodName)) (z := (⟨"nephrite/EvaluationException", "templateName", "()Ljava/lang/String;"⟩ : MethodName)) hown (mvT hZ (hw _ (List.mem_of_getElem? (i := 104) rfl))) (mvT hZ (hw _ (List.mem_of_getElem? (i := 105) rfl))) (notFace_of_selects (args := #[]) (mvT hZ (hw _ (List.mem_of_getElem? (i := 107) rfl)))) (mvT hZ (hw _ (List.mem_of_getElem? (i := 107) rfl))) (mvT hZ (hw _ (List.mem_of_getElem? (i := 106) rfl))) (by decide) (backOf (W := 0) (rm15n l Z a0 hw [] b8  T13.heap n0 (Nat.le_trans (Nat.le_trans (Nat.le_trans (Nat.le_trans Z0 E8.1) E9.1) K10c.1) K13c.1) Fc13_1) hZ (hw _ (List.mem_of_getElem? (i := 108) rfl)) (hw _ (List.mem_of_getElem? (i := 36) rfl)) (by decide) (by decide)) q15a q15c (g := (mkF m 134 #[.val (.int p1), .val (.int p2), .val (.int p3), .val (.int p4), .val (.int p5), .val (.int v12_s0), .val (.int v27_s0), .val .null, .val .null, .val (.ref b8), .val (.int (1 : Int32)), .val (.ref b8), .unset, .unset, .unset] [(.ref b8)])) rfl (by rw [hml]; rfl) (Steps.refl _) (argsL := []) (rest := []) (lenOf pd_0_11 rfl) rfl (by show 2 * 0 + _ ≤ _; exact Nat.le_of_eq rfl) (hb hby at_134) (fun _ _ => ⟨rfl, e14, (by decide : 4 + 0 ≤ _), (by decide : 2768 + 0 ≤ _)⟩)
  dsimp only [Pt.U, Pt.locs, Pt.cells, Pt.slots] at X15 l15 y15 z15 st15 hQ15
  subst l15 y15 z15
  obtain ⟨rfl, N15q, e15⟩ := hQ15
  have N15 := Fr.app N14 N15q
  obtain ⟨cq16, kq16, q16a, q16b, q16c⟩ := isOf hZ e15 Ec13
  obtain ⟨_, _, ⟨T16, L16, k16, n16⟩, -, X16, ⟨Lc16, hQ16, l16, y16, z16⟩, st16⟩ := X15.virtualBack hx (y := (⟨"nephrite/EvaluationException", "on", "(Ljava/lang/String;I)Lnephrite/EvaluationException;"⟩ : MethodName)) (z := (⟨"nephrite/EvaluationException", "on", "(Ljava/lang/String;I)Lnephrite/EvaluationException;"⟩ : MethodName)) hown (mvT hZ (hw _ (List.mem_of_getElem? (i := 111) rfl))) (mvT hZ (hw _ (List.mem_of_getElem? (i := 112) rfl))) (notFace_of_selects (args := #[]) (mvT hZ (hw _ (List.mem_of_getElem? (i := 114) rfl)))) (mvT hZ (hw _ (List.mem_of_getElem? (i := 114) rfl))) (mvT hZ (hw _ (List.mem_of_getElem? (i := 113) rfl))) (by decide) (backOf (W := 0) (rm16fn l Z a0 hw [] b8 v27_s0 _ _ T13.heap n0 (Nat.le_trans (Nat.le_trans (Nat.le_trans (Nat.le_trans Z0 E8.1) E9.1) K10c.1) K13c.1) Fc13_0 Ec13 Fc13_1 g_b8 hc162) hZ (hw _ (List.mem_of_getElem? (i := 115) rfl)) (hw _ (List.mem_of_getElem? (i := 36) rfl)) (by decide) (by decide)) q16a q16c (g := (mkF m 155 #[.val (.int p1), .val (.int p2), .val (.int p3), .val (.int p4), .val (.int p5), .val (.int v12_s0), .val (.int v27_s0), .val .null, .val .null, .val (.ref b8), .val (.int (1 : Int32)), .val (.ref b8), .unset, .unset, .unset] [(.int v27_s0), .null, (.ref b8)])) rfl (by rw [hml]; rfl) (Steps.refl _) (argsL := [.null, (.int v27_s0)]) (rest := []) (lenOf pd_0_12 rfl) rfl (by show 2 * 0 + _ ≤ _; exact Nat.le_of_eq rfl) (hb hby at_155) (fun _ _ => ⟨rfl, e15, (by decide : 4 + 0 ≤ _), (by decide : 2768 + 0 ≤ _)⟩)
  dsimp only [Pt.U, Pt.locs, Pt.cells, Pt.slots] at X16 l16 y16 z16 st16 hQ16
  subst l16 y16 z16
  obtain ⟨rfl, N16q, K16c, Ec16, Fc16_0, Fc16_1⟩ := hQ16
  have N16 := Fr.app N15 N16q
  have K16 : Keep h0 T16.heap [] := K13.trans K16c (allS (Or.inr sz_b8) all0)
  obtain ⟨cq17, kq17, q17a, q17b, q17c⟩ := isOf hZ rfl Ec16
  obtain ⟨_, _, ⟨T17, L17, k17, n17⟩, -, X17, ⟨Lc17, hQ17, l17, y17, z17⟩, st17⟩ := X16.virtualBack hx (y := (⟨"nephrite/EvaluationException", "line", "()I"⟩ : MethodName)) (z := (⟨"nephrite/EvaluationException", "line", "()I"⟩ : MethodName)) hown (mvT hZ (hw _ (List.mem_of_getElem? (i := 97) rfl))) (mvT hZ (hw _ (List.mem_of_getElem? (i := 98) rfl))) (notFace_of_selects (args := #[]) (mvT hZ (hw _ (List.mem_of_getElem? (i := 100) rfl)))) (mvT hZ (hw _ (List.mem_of_getElem? (i := 100) rfl))) (mvT hZ (hw _ (List.mem_of_getElem? (i := 99) rfl))) (by decide) (backOf (W := 0) (rm14 l Z a0 hw [] b8 v27_s0 T16.heap n0 (Nat.le_trans (Nat.le_trans (Nat.le_trans (Nat.le_trans (Nat.le_trans Z0 E8.1) E9.1) K10c.1) K13c.1) K16c.1) Fc16_0) hZ (hw _ (List.mem_of_getElem? (i := 101) rfl)) (hw _ (List.mem_of_getElem? (i := 36) rfl)) (by decide) (by decide)) q17a q17c (g := (mkF m 202 #[.val (.int p1), .val (.int p2), .val (.int p3), .val (.int p4), .val (.int p5), .val (.int v12_s0), .val (.int v27_s0), .val .null, .val .null, .val (.ref b8), .val (.int (1 : Int32)), .val (.ref b8), .val (.ref b8), .val (.int v27_s0), .val .null] [(.ref b8)])) rfl (by rw [hml]; rfl) (Steps.refl _) (argsL := []) (rest := []) (lenOf pd_0_10 rfl) rfl (by show 2 * 0 + _ ≤ _; exact Nat.le_of_eq rfl) (hb hby at_202) (fun _ _ => ⟨rfl, rfl, (by decide : 4 + 0 ≤ _), (by decide : 2768 + 0 ≤ _)⟩)
  dsimp only [Pt.U, Pt.locs, Pt.cells, Pt.slots] at X17 l17 y17 z17 st17 hQ17
  subst l17 y17 z17
  obtain ⟨rfl, N17q, e17⟩ := hQ17
  have N17 := Fr.app N16 N17q
  obtain ⟨cq18, kq18, q18a, q18b, q18c⟩ := isOf hZ e17 Ec16
  obtain ⟨_, _, ⟨T18, L18, k18, n18⟩, -, X18, ⟨Lc18, hQ18, l18, y18, z18⟩, st18⟩ := X17.virtualBack hx (y := (⟨"nephrite/EvaluationException", "templateName", "()Ljava/lang/String;"⟩ : MethodName)) (z := (⟨"nephrite/EvaluationException", "templateName", "()Ljava/lang/String;"⟩ : MethodName)) hown (mvT hZ (hw _ (List.mem_of_getElem? (i := 104) rfl))) (mvT hZ (hw _ (List.mem_of_getElem? (i := 105) rfl))) (notFace_of_selects (args := #[]) (mvT hZ (hw _ (List.mem_of_getElem? (i := 107) rfl)))) (mvT hZ (hw _ (List.mem_of_getElem? (i := 107) rfl))) (mvT hZ (hw _ (List.mem_of_getElem? (i := 106) rfl))) (by decide) (backOf (W := 0) (rm15n l Z a0 hw [] b8  T16.heap n0 (Nat.le_trans (Nat.le_trans (Nat.le_trans (Nat.le_trans (Nat.le_trans Z0 E8.1) E9.1) K10c.1) K13c.1) K16c.1) Fc16_1) hZ (hw _ (List.mem_of_getElem? (i := 108) rfl)) (hw _ (List.mem_of_getElem? (i := 36) rfl)) (by decide) (by decide)) q18a q18c (g := (mkF m 212 #[.val (.int p1), .val (.int p2), .val (.int p3), .val (.int p4), .val (.int p5), .val (.int v12_s0), .val (.int v27_s0), .val .null, .val .null, .val (.ref b8), .val (.int (1 : Int32)), .val (.ref b8), .val (.ref b8), .val (.int v27_s0), .val .null] [(.ref b8)])) rfl (by rw [hml]; rfl) (Steps.refl _) (argsL := []) (rest := []) (lenOf pd_0_11 rfl) rfl (by show 2 * 0 + _ ≤ _; exact Nat.le_of_eq rfl) (hb hby at_212) (fun _ _ => ⟨rfl, e17, (by decide : 4 + 0 ≤ _), (by decide : 2768 + 0 ≤ _)⟩)
  dsimp only [Pt.U, Pt.locs, Pt.cells, Pt.slots] at X18 l18 y18 z18 st18 hQ18
  subst l18 y18 z18
  obtain ⟨rfl, N18q, e18⟩ := hQ18
  have N18 := Fr.app N17 N18q
  obtain ⟨fs, hr, hrun, hended, hRE⟩ := X18.leaveW hS (by rw [e18]; exact (Nat.le_trans (Nat.le_trans (Nat.le_trans hk K10c.1) K13c.1) K16c.1)) (v := some (.int (1 : Int32))) (fun h => by rw [Bd.returns] at h; cases h)
  refine ⟨_, _, pre0 _ ?_, hrun, hended, _, _, rfl, ?_, hRE.1, hRE.2.1, hRE.2.2.1, hRE.2.2.2.mono (by decide) (by decide)⟩
  · show Steps p.tables e below (s₁.setTop (mkF m 0 #[.val (.int p1), .val (.int p2), .val (.int p3), .val (.int p4), .val (.int p5), .unset, .unset, .unset, .unset, .unset, .unset, .unset, .unset, .unset, .unset] [])) _
    refine XS.iload X0.here hx rfl (hb hby at_0) rfl ?_
    show Steps p.tables e below (s₁.setTop (mkF m 2 #[.val (.int p1), .val (.int p2), .val (.int p3), .val (.int p4), .val (.int p5), .unset, .unset, .unset, .unset, .unset, .unset, .unset, .unset, .unset, .unset] [(.int p5)])) _
    refine XS.iconst X0.here hx rfl (hb hby at_2) ?_
    show Steps p.tables e below (s₁.setTop (mkF m 3 #[.val (.int p1), .val (.int p2), .val (.int p3), .val (.int p4), .val (.int p5), .unset, .unset, .unset, .unset, .unset, .unset, .unset, .unset, .unset, .unset] [(.int (1 : Int32)), (.int p5)])) _
    refine XS.iand X0.here hx rfl (hb hby at_3) rfl ?_
    refine sg4 _ ?_
    show Steps p.tables e below (s₁.setTop (mkF m 12 #[.val (.int p1), .val (.int p2), .val (.int p3), .val (.int p4), .val (.int p5), .unset, .unset, .unset, .unset, .unset, .unset, .unset, .unset, .unset, .unset] [(.int v12_s0)])) _
    refine XS.istore X0.here hx rfl (hb hby at_12) rfl (l' := #[.val (.int p1), .val (.int p2), .val (.int p3), .val (.int p4), .val (.int p5), .val (.int v12_s0), .unset, .unset, .unset, .unset, .unset, .unset, .unset, .unset, .unset]) rfl ?_
    show Steps p.tables e below (s₁.setTop (mkF m 14 #[.val (.int p1), .val (.int p2), .val (.int p3), .val (.int p4), .val (.int p5), .val (.int v12_s0), .unset, .unset, .unset, .unset, .unset, .unset, .unset, .unset, .unset] [])) _
    refine XS.iload X0.here hx rfl (hb hby at_14) rfl ?_
    show Steps p.tables e below (s₁.setTop (mkF m 16 #[.val (.int p1), .val (.int p2), .val (.int p3), .val (.int p4), .val (.int p5), .val (.int v12_s0), .unset, .unset, .unset, .unset, .unset, .unset, .unset, .unset, .unset] [(.int p5)])) _
    refine XS.bipush X0.here hx rfl (hb hby at_16) ?_
    show Steps p.tables e below (s₁.setTop (mkF m 18 #[.val (.int p1), .val (.int p2), .val (.int p3), .val (.int p4), .val (.int p5), .val (.int v12_s0), .unset, .unset, .unset, .unset, .unset, .unset, .unset, .unset, .unset] [(.int (8 : Int32)), (.int p5)])) _
    refine XS.iand X0.here hx rfl (hb hby at_18) rfl ?_
    refine sg19 _ ?_
    show Steps p.tables e below (s₁.setTop (mkF m 27 #[.val (.int p1), .val (.int p2), .val (.int p3), .val (.int p4), .val (.int p5), .val (.int v12_s0), .unset, .unset, .unset, .unset, .unset, .unset, .unset, .unset, .unset] [(.int v27_s0)])) _
    refine XS.istore X0.here hx rfl (hb hby at_27) rfl (l' := #[.val (.int p1), .val (.int p2), .val (.int p3), .val (.int p4), .val (.int p5), .val (.int v12_s0), .val (.int v27_s0), .unset, .unset, .unset, .unset, .unset, .unset, .unset, .unset]) rfl ?_
    show Steps p.tables e below (s₁.setTop (mkF m 29 #[.val (.int p1), .val (.int p2), .val (.int p3), .val (.int p4), .val (.int p5), .val (.int v12_s0), .val (.int v27_s0), .unset, .unset, .unset, .unset, .unset, .unset, .unset, .unset] [])) _
    refine XS.iloadN X0.here hx rfl (hb hby at_29) rfl ?_
    show Steps p.tables e below (s₁.setTop (mkF m 30 #[.val (.int p1), .val (.int p2), .val (.int p3), .val (.int p4), .val (.int p5), .val (.int v12_s0), .val (.int v27_s0), .unset, .unset, .unset, .unset, .unset, .unset, .unset, .unset] [(.int p3)])) _
    refine XS.iload X0.here hx rfl (hb hby at_30) rfl ?_
    show Steps p.tables e below (s₁.setTop (mkF m 32 #[.val (.int p1), .val (.int p2), .val (.int p3), .val (.int p4), .val (.int p5), .val (.int v12_s0), .val (.int v27_s0), .unset, .unset, .unset, .unset, .unset, .unset, .unset, .unset] [(.int p5), (.int p3)])) _
    refine XS.iconst X0.here hx rfl (hb hby at_32) ?_
    show Steps p.tables e below (s₁.setTop (mkF m 33 #[.val (.int p1), .val (.int p2), .val (.int p3), .val (.int p4), .val (.int p5), .val (.int v12_s0), .val (.int v27_s0), .unset, .unset, .unset, .unset, .unset, .unset, .unset, .unset] [(.int (2 : Int32)), (.int p5), (.int p3)])) _
    refine XS.iand X0.here hx rfl (hb hby at_33) rfl ?_
    show Steps p.tables e below (s₁.setTop (mkF m 34 #[.val (.int p1), .val (.int p2), .val (.int p3), .val (.int p4), .val (.int p5), .val (.int v12_s0), .val (.int v27_s0), .unset, .unset, .unset, .unset, .unset, .unset, .unset, .unset] [(.int (p5 &&& (2 : Int32))), (.int p3)])) _
    refine XS.ifNo X0.here hx rfl (hb hby at_34) rfl ((if0 _ _).trans (feq hc34).1) ?_
    show Steps p.tables e below (s₁.setTop (mkF m 37 #[.val (.int p1), .val (.int p2), .val (.int p3), .val (.int p4), .val (.int p5), .val (.int v12_s0), .val (.int v27_s0), .unset, .unset, .unset, .unset, .unset, .unset, .unset, .unset] [(.int p3)])) _
    refine XS.iconst X0.here hx rfl (hb hby at_37) ?_
    show Steps p.tables e below (s₁.setTop (mkF m 38 #[.val (.int p1), .val (.int p2), .val (.int p3), .val (.int p4), .val (.int p5), .val (.int v12_s0), .val (.int v27_s0), .unset, .unset, .unset, .unset, .unset, .unset, .unset, .unset] [(.int (1 : Int32)), (.int p3)])) _
    refine XS.goto X0.here hx rfl (pc0 := 38) (pc' := 42) rfl (hb hby at_38) (by decide) (by decide) ?_
    show Steps p.tables e below (s₁.setTop (mkF m 42 #[.val (.int p1), .val (.int p2), .val (.int p3), .val (.int p4), .val (.int p5), .val (.int v12_s0), .val (.int v27_s0), .unset, .unset, .unset, .unset, .unset, .unset, .unset, .unset] [(.int (1 : Int32)), (.int p3)])) _
    refine st6 _ ?_
    show Steps p.tables e below (T6.setTop (mkF m 45 #[.val (.int p1), .val (.int p2), .val (.int p3), .val (.int p4), .val (.int p5), .val (.int v12_s0), .val (.int v27_s0), .unset, .unset, .unset, .unset, .unset, .unset, .unset, .unset] [.null])) _
    refine XS.astore X6.here hx rfl (hb hby at_45) rfl rfl (l' := #[.val (.int p1), .val (.int p2), .val (.int p3), .val (.int p4), .val (.int p5), .val (.int v12_s0), .val (.int v27_s0), .val .null, .unset, .unset, .unset, .unset, .unset, .unset, .unset]) rfl ?_
    show Steps p.tables e below (T6.setTop (mkF m 47 #[.val (.int p1), .val (.int p2), .val (.int p3), .val (.int p4), .val (.int p5), .val (.int v12_s0), .val (.int v27_s0), .val .null, .unset, .unset, .unset, .unset, .unset, .unset, .unset] [])) _
    refine XS.iloadN X6.here hx rfl (hb hby at_47) rfl ?_
    show Steps p.tables e below (T6.setTop (mkF m 48 #[.val (.int p1), .val (.int p2), .val (.int p3), .val (.int p4), .val (.int p5), .val (.int v12_s0), .val (.int v27_s0), .val .null, .unset, .unset, .unset, .unset, .unset, .unset, .unset] [(.int p4)])) _
    refine XS.iload X6.here hx rfl (hb hby at_48) rfl ?_
    show Steps p.tables e below (T6.setTop (mkF m 50 #[.val (.int p1), .val (.int p2), .val (.int p3), .val (.int p4), .val (.int p5), .val (.int v12_s0), .val (.int v27_s0), .val .null, .unset, .unset, .unset, .unset, .unset, .unset, .unset] [(.int p5), (.int p4)])) _
    refine XS.iconst X6.here hx rfl (hb hby at_50) ?_
    show Steps p.tables e below (T6.setTop (mkF m 51 #[.val (.int p1), .val (.int p2), .val (.int p3), .val (.int p4), .val (.int p5), .val (.int v12_s0), .val (.int v27_s0), .val .null, .unset, .unset, .unset, .unset, .unset, .unset, .unset] [(.int (4 : Int32)), (.int p5), (.int p4)])) _
    refine XS.iand X6.here hx rfl (hb hby at_51) rfl ?_
    show Steps p.tables e below (T6.setTop (mkF m 52 #[.val (.int p1), .val (.int p2), .val (.int p3), .val (.int p4), .val (.int p5), .val (.int v12_s0), .val (.int v27_s0), .val .null, .unset, .unset, .unset, .unset, .unset, .unset, .unset] [(.int (p5 &&& (4 : Int32))), (.int p4)])) _
    refine XS.ifNo X6.here hx rfl (hb hby at_52) rfl ((if0 _ _).trans (feq hc52).1) ?_
    show Steps p.tables e below (T6.setTop (mkF m 55 #[.val (.int p1), .val (.int p2), .val (.int p3), .val (.int p4), .val (.int p5), .val (.int v12_s0), .val (.int v27_s0), .val .null, .unset, .unset, .unset, .unset, .unset, .unset, .unset] [(.int p4)])) _
    refine XS.iconst X6.here hx rfl (hb hby at_55) ?_
    show Steps p.tables e below (T6.setTop (mkF m 56 #[.val (.int p1), .val (.int p2), .val (.int p3), .val (.int p4), .val (.int p5), .val (.int v12_s0), .val (.int v27_s0), .val .null, .unset, .unset, .unset, .unset, .unset, .unset, .unset] [(.int (1 : Int32)), (.int p4)])) _
    refine XS.goto X6.here hx rfl (pc0 := 56) (pc' := 60) rfl (hb hby at_56) (by decide) (by decide) ?_
    show Steps p.tables e below (T6.setTop (mkF m 60 #[.val (.int p1), .val (.int p2), .val (.int p3), .val (.int p4), .val (.int p5), .val (.int v12_s0), .val (.int v27_s0), .val .null, .unset, .unset, .unset, .unset, .unset, .unset, .unset] [(.int (1 : Int32)), (.int p4)])) _
    refine st7 _ ?_
    show Steps p.tables e below (T7.setTop (mkF m 63 #[.val (.int p1), .val (.int p2), .val (.int p3), .val (.int p4), .val (.int p5), .val (.int v12_s0), .val (.int v27_s0), .val .null, .unset, .unset, .unset, .unset, .unset, .unset, .unset] [.null])) _
    refine XS.astore X7.here hx rfl (hb hby at_63) rfl rfl (l' := #[.val (.int p1), .val (.int p2), .val (.int p3), .val (.int p4), .val (.int p5), .val (.int v12_s0), .val (.int v27_s0), .val .null, .val .null, .unset, .unset, .unset, .unset, .unset, .unset]) rfl ?_
    show Steps p.tables e below (T7.setTop (mkF m 65 #[.val (.int p1), .val (.int p2), .val (.int p3), .val (.int p4), .val (.int p5), .val (.int v12_s0), .val (.int v27_s0), .val .null, .val .null, .unset, .unset, .unset, .unset, .unset, .unset] [])) _
    refine st8 _ ?_
    show Steps p.tables e below (T8.setTop (mkF m 68 #[.val (.int p1), .val (.int p2), .val (.int p3), .val (.int p4), .val (.int p5), .val (.int v12_s0), .val (.int v27_s0), .val .null, .val .null, .unset, .unset, .unset, .unset, .unset, .unset] [(.ref b8)])) _
    refine XS.dup X8.here hx rfl (hb hby at_68) rfl rfl ?_
    show Steps p.tables e below (T8.setTop (mkF m 69 #[.val (.int p1), .val (.int p2), .val (.int p3), .val (.int p4), .val (.int p5), .val (.int v12_s0), .val (.int v27_s0), .val .null, .val .null, .unset, .unset, .unset, .unset, .unset, .unset] [(.ref b8), (.ref b8)])) _
    refine st9 _ ?_
    show Steps p.tables e below (T9.setTop (mkF m 71 #[.val (.int p1), .val (.int p2), .val (.int p3), .val (.int p4), .val (.int p5), .val (.int v12_s0), .val (.int v27_s0), .val .null, .val .null, .unset, .unset, .unset, .unset, .unset, .unset] [(.ref b9), (.ref b8), (.ref b8)])) _
    refine st10.trans ?_
    show Steps p.tables e below (T10.setTop (mkF m 74 #[.val (.int p1), .val (.int p2), .val (.int p3), .val (.int p4), .val (.int p5), .val (.int v12_s0), .val (.int v27_s0), .val .null, .val .null, .unset, .unset, .unset, .unset, .unset, .unset] [(.ref b8)])) _
    refine XS.astore X10.here hx rfl (hb hby at_74) rfl rfl (l' := #[.val (.int p1), .val (.int p2), .val (.int p3), .val (.int p4), .val (.int p5), .val (.int v12_s0), .val (.int v27_s0), .val .null, .val .null, .val (.ref b8), .unset, .unset, .unset, .unset, .unset]) rfl ?_
    show Steps p.tables e below (T10.setTop (mkF m 76 #[.val (.int p1), .val (.int p2), .val (.int p3), .val (.int p4), .val (.int p5), .val (.int v12_s0), .val (.int v27_s0), .val .null, .val .null, .val (.ref b8), .unset, .unset, .unset, .unset, .unset] [])) _
    refine XS.aload X10.here hx rfl (hb hby at_76) rfl rfl ?_
    show Steps p.tables e below (T10.setTop (mkF m 78 #[.val (.int p1), .val (.int p2), .val (.int p3), .val (.int p4), .val (.int p5), .val (.int v12_s0), .val (.int v27_s0), .val .null, .val .null, .val (.ref b8), .unset, .unset, .unset, .unset, .unset] [(.ref b8)])) _
    refine st11.trans ?_
    show Steps p.tables e below (T11.setTop (mkF m 81 #[.val (.int p1), .val (.int p2), .val (.int p3), .val (.int p4), .val (.int p5), .val (.int v12_s0), .val (.int v27_s0), .val .null, .val .null, .val (.ref b8), .unset, .unset, .unset, .unset, .unset] [(.int (0 : Int32))])) _
    refine XS.ifNo X11.here hx rfl (hb hby at_81) rfl ((if0 _ _).trans (teq (rfl : (0 : Int32) = (0 : Int32))).2) ?_
    show Steps p.tables e below (T11.setTop (mkF m 84 #[.val (.int p1), .val (.int p2), .val (.int p3), .val (.int p4), .val (.int p5), .val (.int v12_s0), .val (.int v27_s0), .val .null, .val .null, .val (.ref b8), .unset, .unset, .unset, .unset, .unset] [])) _
    refine XS.aload X11.here hx rfl (hb hby at_84) rfl rfl ?_
    show Steps p.tables e below (T11.setTop (mkF m 86 #[.val (.int p1), .val (.int p2), .val (.int p3), .val (.int p4), .val (.int p5), .val (.int v12_s0), .val (.int v27_s0), .val .null, .val .null, .val (.ref b8), .unset, .unset, .unset, .unset, .unset] [(.ref b8)])) _
    refine st12.trans ?_
    show Steps p.tables e below (T12.setTop (mkF m 89 #[.val (.int p1), .val (.int p2), .val (.int p3), .val (.int p4), .val (.int p5), .val (.int v12_s0), .val (.int v27_s0), .val .null, .val .null, .val (.ref b8), .unset, .unset, .unset, .unset, .unset] [.null])) _
    refine XS.ifnonnullNo X12.here hx rfl (hb hby at_89) rfl ?_
    show Steps p.tables e below (T12.setTop (mkF m 92 #[.val (.int p1), .val (.int p2), .val (.int p3), .val (.int p4), .val (.int p5), .val (.int v12_s0), .val (.int v27_s0), .val .null, .val .null, .val (.ref b8), .unset, .unset, .unset, .unset, .unset] [])) _
    refine XS.iconst X12.here hx rfl (hb hby at_92) ?_
    show Steps p.tables e below (T12.setTop (mkF m 93 #[.val (.int p1), .val (.int p2), .val (.int p3), .val (.int p4), .val (.int p5), .val (.int v12_s0), .val (.int v27_s0), .val .null, .val .null, .val (.ref b8), .unset, .unset, .unset, .unset, .unset] [(.int (1 : Int32))])) _
    refine XS.goto X12.here hx rfl (pc0 := 93) (pc' := 97) rfl (hb hby at_93) (by decide) (by decide) ?_
    show Steps p.tables e below (T12.setTop (mkF m 97 #[.val (.int p1), .val (.int p2), .val (.int p3), .val (.int p4), .val (.int p5), .val (.int v12_s0), .val (.int v27_s0), .val .null, .val .null, .val (.ref b8), .unset, .unset, .unset, .unset, .unset] [(.int (1 : Int32))])) _
    refine XS.istore X12.here hx rfl (hb hby at_97) rfl (l' := #[.val (.int p1), .val (.int p2), .val (.int p3), .val (.int p4), .val (.int p5), .val (.int v12_s0), .val (.int v27_s0), .val .null, .val .null, .val (.ref b8), .val (.int (1 : Int32)), .unset, .unset, .unset, .unset]) rfl ?_
    show Steps p.tables e below (T12.setTop (mkF m 99 #[.val (.int p1), .val (.int p2), .val (.int p3), .val (.int p4), .val (.int p5), .val (.int v12_s0), .val (.int v27_s0), .val .null, .val .null, .val (.ref b8), .val (.int (1 : Int32)), .unset, .unset, .unset, .unset] [])) _
    refine XS.aload X12.here hx rfl (hb hby at_99) rfl rfl ?_
    show Steps p.tables e below (T12.setTop (mkF m 101 #[.val (.int p1), .val (.int p2), .val (.int p3), .val (.int p4), .val (.int p5), .val (.int v12_s0), .val (.int v27_s0), .val .null, .val .null, .val (.ref b8), .val (.int (1 : Int32)), .unset, .unset, .unset, .unset] [(.ref b8)])) _
    refine XS.aload X12.here hx rfl (hb hby at_101) rfl rfl ?_
    show Steps p.tables e below (T12.setTop (mkF m 103 #[.val (.int p1), .val (.int p2), .val (.int p3), .val (.int p4), .val (.int p5), .val (.int v12_s0), .val (.int v27_s0), .val .null, .val .null, .val (.ref b8), .val (.int (1 : Int32)), .unset, .unset, .unset, .unset] [.null, (.ref b8)])) _
    refine XS.iload X12.here hx rfl (hb hby at_103) rfl ?_
    show Steps p.tables e below (T12.setTop (mkF m 105 #[.val (.int p1), .val (.int p2), .val (.int p3), .val (.int p4), .val (.int p5), .val (.int v12_s0), .val (.int v27_s0), .val .null, .val .null, .val (.ref b8), .val (.int (1 : Int32)), .unset, .unset, .unset, .unset] [(.int v12_s0), .null, (.ref b8)])) _
    refine st13.trans ?_
    show Steps p.tables e below (T13.setTop (mkF m 108 #[.val (.int p1), .val (.int p2), .val (.int p3), .val (.int p4), .val (.int p5), .val (.int v12_s0), .val (.int v27_s0), .val .null, .val .null, .val (.ref b8), .val (.int (1 : Int32)), .unset, .unset, .unset, .unset] [(.ref b8)])) _
    refine XS.astore X13.here hx rfl (hb hby at_108) rfl rfl (l' := #[.val (.int p1), .val (.int p2), .val (.int p3), .val (.int p4), .val (.int p5), .val (.int v12_s0), .val (.int v27_s0), .val .null, .val .null, .val (.ref b8), .val (.int (1 : Int32)), .val (.ref b8), .unset, .unset, .unset]) rfl ?_
    show Steps p.tables e below (T13.setTop (mkF m 110 #[.val (.int p1), .val (.int p2), .val (.int p3), .val (.int p4), .val (.int p5), .val (.int v12_s0), .val (.int v27_s0), .val .null, .val .null, .val (.ref b8), .val (.int (1 : Int32)), .val (.ref b8), .unset, .unset, .unset] [])) _
    refine XS.iload X13.here hx rfl (hb hby at_110) rfl ?_
    show Steps p.tables e below (T13.setTop (mkF m 112 #[.val (.int p1), .val (.int p2), .val (.int p3), .val (.int p4), .val (.int p5), .val (.int v12_s0), .val (.int v27_s0), .val .null, .val .null, .val (.ref b8), .val (.int (1 : Int32)), .val (.ref b8), .unset, .unset, .unset] [(.int (1 : Int32))])) _
    refine XS.ifNo X13.here hx rfl (hb hby at_112) rfl ((if0 _ _).trans (feq (by decide : ¬ ((1 : Int32) = (0 : Int32)))).1) ?_
    show Steps p.tables e below (T13.setTop (mkF m 115 #[.val (.int p1), .val (.int p2), .val (.int p3), .val (.int p4), .val (.int p5), .val (.int v12_s0), .val (.int v27_s0), .val .null, .val .null, .val (.ref b8), .val (.int (1 : Int32)), .val (.ref b8), .unset, .unset, .unset] [])) _
    refine XS.aload X13.here hx rfl (hb hby at_115) rfl rfl ?_
    show Steps p.tables e below (T13.setTop (mkF m 117 #[.val (.int p1), .val (.int p2), .val (.int p3), .val (.int p4), .val (.int p5), .val (.int v12_s0), .val (.int v27_s0), .val .null, .val .null, .val (.ref b8), .val (.int (1 : Int32)), .val (.ref b8), .unset, .unset, .unset] [(.ref b8)])) _
    refine XS.aload X13.here hx rfl (hb hby at_117) rfl rfl ?_
    show Steps p.tables e below (T13.setTop (mkF m 119 #[.val (.int p1), .val (.int p2), .val (.int p3), .val (.int p4), .val (.int p5), .val (.int v12_s0), .val (.int v27_s0), .val .null, .val .null, .val (.ref b8), .val (.int (1 : Int32)), .val (.ref b8), .unset, .unset, .unset] [(.ref b8), (.ref b8)])) _
    refine Jvm.RoadKit.acmp (g := (mkF m 119 #[.val (.int p1), .val (.int p2), .val (.int p3), .val (.int p4), .val (.int p5), .val (.int v12_s0), .val (.int v27_s0), .val .null, .val .null, .val (.ref b8), .val (.int (1 : Int32)), .val (.ref b8), .unset, .unset, .unset] [(.ref b8), (.ref b8)])) X13 hx rfl rfl rfl (pc0 := 119) (pc' := 122) (same := true) rfl (hb hby at_119) rfl (decide_eq_true rfl) (by decide) (by decide) ?_
    show Steps p.tables e below (T13.setTop (mkF m 122 #[.val (.int p1), .val (.int p2), .val (.int p3), .val (.int p4), .val (.int p5), .val (.int v12_s0), .val (.int v27_s0), .val .null, .val .null, .val (.ref b8), .val (.int (1 : Int32)), .val (.ref b8), .unset, .unset, .unset] [])) _
    refine XS.aload X13.here hx rfl (hb hby at_122) rfl rfl ?_
    show Steps p.tables e below (T13.setTop (mkF m 124 #[.val (.int p1), .val (.int p2), .val (.int p3), .val (.int p4), .val (.int p5), .val (.int v12_s0), .val (.int v27_s0), .val .null, .val .null, .val (.ref b8), .val (.int (1 : Int32)), .val (.ref b8), .unset, .unset, .unset] [(.ref b8)])) _
    refine st14.trans ?_
    show Steps p.tables e below (T14.setTop (mkF m 127 #[.val (.int p1), .val (.int p2), .val (.int p3), .val (.int p4), .val (.int p5), .val (.int v12_s0), .val (.int v27_s0), .val .null, .val .null, .val (.ref b8), .val (.int (1 : Int32)), .val (.ref b8), .unset, .unset, .unset] [(.int v12_s0)])) _
    refine XS.iload X14.here hx rfl (hb hby at_127) rfl ?_
    show Steps p.tables e below (T14.setTop (mkF m 129 #[.val (.int p1), .val (.int p2), .val (.int p3), .val (.int p4), .val (.int p5), .val (.int v12_s0), .val (.int v27_s0), .val .null, .val .null, .val (.ref b8), .val (.int (1 : Int32)), .val (.ref b8), .unset, .unset, .unset] [(.int v12_s0), (.int v12_s0)])) _
    refine XS.icmpNo X14.here hx rfl (hb hby at_129) rfl (teq (rfl : v12_s0 = v12_s0)).2 ?_
    show Steps p.tables e below (T14.setTop (mkF m 132 #[.val (.int p1), .val (.int p2), .val (.int p3), .val (.int p4), .val (.int p5), .val (.int v12_s0), .val (.int v27_s0), .val .null, .val .null, .val (.ref b8), .val (.int (1 : Int32)), .val (.ref b8), .unset, .unset, .unset] [])) _
    refine XS.aload X14.here hx rfl (hb hby at_132) rfl rfl ?_
    show Steps p.tables e below (T14.setTop (mkF m 134 #[.val (.int p1), .val (.int p2), .val (.int p3), .val (.int p4), .val (.int p5), .val (.int v12_s0), .val (.int v27_s0), .val .null, .val .null, .val (.ref b8), .val (.int (1 : Int32)), .val (.ref b8), .unset, .unset, .unset] [(.ref b8)])) _
    refine st15.trans ?_
    show Steps p.tables e below (T15.setTop (mkF m 137 #[.val (.int p1), .val (.int p2), .val (.int p3), .val (.int p4), .val (.int p5), .val (.int v12_s0), .val (.int v27_s0), .val .null, .val .null, .val (.ref b8), .val (.int (1 : Int32)), .val (.ref b8), .unset, .unset, .unset] [.null])) _
    refine XS.aload X15.here hx rfl (hb hby at_137) rfl rfl ?_
    show Steps p.tables e below (T15.setTop (mkF m 139 #[.val (.int p1), .val (.int p2), .val (.int p3), .val (.int p4), .val (.int p5), .val (.int v12_s0), .val (.int v27_s0), .val .null, .val .null, .val (.ref b8), .val (.int (1 : Int32)), .val (.ref b8), .unset, .unset, .unset] [.null, .null])) _
    refine Jvm.RoadKit.acmp (g := (mkF m 139 #[.val (.int p1), .val (.int p2), .val (.int p3), .val (.int p4), .val (.int p5), .val (.int v12_s0), .val (.int v27_s0), .val .null, .val .null, .val (.ref b8), .val (.int (1 : Int32)), .val (.ref b8), .unset, .unset, .unset] [.null, .null])) X15 hx rfl rfl rfl (pc0 := 139) (pc' := 142) (same := true) rfl (hb hby at_139) rfl (decide_eq_true rfl) (by decide) (by decide) ?_
    show Steps p.tables e below (T15.setTop (mkF m 142 #[.val (.int p1), .val (.int p2), .val (.int p3), .val (.int p4), .val (.int p5), .val (.int v12_s0), .val (.int v27_s0), .val .null, .val .null, .val (.ref b8), .val (.int (1 : Int32)), .val (.ref b8), .unset, .unset, .unset] [])) _
    refine XS.iconst X15.here hx rfl (hb hby at_142) ?_
    show Steps p.tables e below (T15.setTop (mkF m 143 #[.val (.int p1), .val (.int p2), .val (.int p3), .val (.int p4), .val (.int p5), .val (.int v12_s0), .val (.int v27_s0), .val .null, .val .null, .val (.ref b8), .val (.int (1 : Int32)), .val (.ref b8), .unset, .unset, .unset] [(.int (1 : Int32))])) _
    refine XS.goto X15.here hx rfl (pc0 := 143) (pc' := 147) rfl (hb hby at_143) (by decide) (by decide) ?_
    show Steps p.tables e below (T15.setTop (mkF m 147 #[.val (.int p1), .val (.int p2), .val (.int p3), .val (.int p4), .val (.int p5), .val (.int v12_s0), .val (.int v27_s0), .val .null, .val .null, .val (.ref b8), .val (.int (1 : Int32)), .val (.ref b8), .unset, .unset, .unset] [(.int (1 : Int32))])) _
    refine XS.istore X15.here hx rfl (hb hby at_147) rfl (l' := #[.val (.int p1), .val (.int p2), .val (.int p3), .val (.int p4), .val (.int p5), .val (.int v12_s0), .val (.int v27_s0), .val .null, .val .null, .val (.ref b8), .val (.int (1 : Int32)), .val (.ref b8), .unset, .unset, .unset]) rfl ?_
    show Steps p.tables e below (T15.setTop (mkF m 149 #[.val (.int p1), .val (.int p2), .val (.int p3), .val (.int p4), .val (.int p5), .val (.int v12_s0), .val (.int v27_s0), .val .null, .val .null, .val (.ref b8), .val (.int (1 : Int32)), .val (.ref b8), .unset, .unset, .unset] [])) _
    refine XS.aload X15.here hx rfl (hb hby at_149) rfl rfl ?_
    show Steps p.tables e below (T15.setTop (mkF m 151 #[.val (.int p1), .val (.int p2), .val (.int p3), .val (.int p4), .val (.int p5), .val (.int v12_s0), .val (.int v27_s0), .val .null, .val .null, .val (.ref b8), .val (.int (1 : Int32)), .val (.ref b8), .unset, .unset, .unset] [(.ref b8)])) _
    refine XS.aload X15.here hx rfl (hb hby at_151) rfl rfl ?_
    show Steps p.tables e below (T15.setTop (mkF m 153 #[.val (.int p1), .val (.int p2), .val (.int p3), .val (.int p4), .val (.int p5), .val (.int v12_s0), .val (.int v27_s0), .val .null, .val .null, .val (.ref b8), .val (.int (1 : Int32)), .val (.ref b8), .unset, .unset, .unset] [.null, (.ref b8)])) _
    refine XS.iload X15.here hx rfl (hb hby at_153) rfl ?_
    show Steps p.tables e below (T15.setTop (mkF m 155 #[.val (.int p1), .val (.int p2), .val (.int p3), .val (.int p4), .val (.int p5), .val (.int v12_s0), .val (.int v27_s0), .val .null, .val .null, .val (.ref b8), .val (.int (1 : Int32)), .val (.ref b8), .unset, .unset, .unset] [(.int v27_s0), .null, (.ref b8)])) _
    refine st16.trans ?_
    show Steps p.tables e below (T16.setTop (mkF m 158 #[.val (.int p1), .val (.int p2), .val (.int p3), .val (.int p4), .val (.int p5), .val (.int v12_s0), .val (.int v27_s0), .val .null, .val .null, .val (.ref b8), .val (.int (1 : Int32)), .val (.ref b8), .unset, .unset, .unset] [(.ref b8)])) _
    refine XS.astore X16.here hx rfl (hb hby at_158) rfl rfl (l' := #[.val (.int p1), .val (.int p2), .val (.int p3), .val (.int p4), .val (.int p5), .val (.int v12_s0), .val (.int v27_s0), .val .null, .val .null, .val (.ref b8), .val (.int (1 : Int32)), .val (.ref b8), .val (.ref b8), .unset, .unset]) rfl ?_
    show Steps p.tables e below (T16.setTop (mkF m 160 #[.val (.int p1), .val (.int p2), .val (.int p3), .val (.int p4), .val (.int p5), .val (.int v12_s0), .val (.int v27_s0), .val .null, .val .null, .val (.ref b8), .val (.int (1 : Int32)), .val (.ref b8), .val (.ref b8), .unset, .unset] [])) _
    refine XS.iload X16.here hx rfl (hb hby at_160) rfl ?_
    show Steps p.tables e below (T16.setTop (mkF m 162 #[.val (.int p1), .val (.int p2), .val (.int p3), .val (.int p4), .val (.int p5), .val (.int v12_s0), .val (.int v27_s0), .val .null, .val .null, .val (.ref b8), .val (.int (1 : Int32)), .val (.ref b8), .val (.ref b8), .unset, .unset] [(.int v12_s0)])) _
    refine XS.ifNo X16.here hx rfl (hb hby at_162) rfl ((if0 _ _).trans (teq hc162).2) ?_
    show Steps p.tables e below (T16.setTop (mkF m 165 #[.val (.int p1), .val (.int p2), .val (.int p3), .val (.int p4), .val (.int p5), .val (.int v12_s0), .val (.int v27_s0), .val .null, .val .null, .val (.ref b8), .val (.int (1 : Int32)), .val (.ref b8), .val (.ref b8), .unset, .unset] [])) _
    refine XS.iload X16.here hx rfl (hb hby at_165) rfl ?_
    show Steps p.tables e below (T16.setTop (mkF m 167 #[.val (.int p1), .val (.int p2), .val (.int p3), .val (.int p4), .val (.int p5), .val (.int v12_s0), .val (.int v27_s0), .val .null, .val .null, .val (.ref b8), .val (.int (1 : Int32)), .val (.ref b8), .val (.ref b8), .unset, .unset] [(.int v27_s0)])) _
    refine XS.goto X16.here hx rfl (pc0 := 167) (pc' := 172) rfl (hb hby at_167) (by decide) (by decide) ?_
    show Steps p.tables e below (T16.setTop (mkF m 172 #[.val (.int p1), .val (.int p2), .val (.int p3), .val (.int p4), .val (.int p5), .val (.int v12_s0), .val (.int v27_s0), .val .null, .val .null, .val (.ref b8), .val (.int (1 : Int32)), .val (.ref b8), .val (.ref b8), .unset, .unset] [(.int v27_s0)])) _
    refine XS.istore X16.here hx rfl (hb hby at_172) rfl (l' := #[.val (.int p1), .val (.int p2), .val (.int p3), .val (.int p4), .val (.int p5), .val (.int v12_s0), .val (.int v27_s0), .val .null, .val .null, .val (.ref b8), .val (.int (1 : Int32)), .val (.ref b8), .val (.ref b8), .val (.int v27_s0), .unset]) rfl ?_
    show Steps p.tables e below (T16.setTop (mkF m 174 #[.val (.int p1), .val (.int p2), .val (.int p3), .val (.int p4), .val (.int p5), .val (.int v12_s0), .val (.int v27_s0), .val .null, .val .null, .val (.ref b8), .val (.int (1 : Int32)), .val (.ref b8), .val (.ref b8), .val (.int v27_s0), .unset] [])) _
    refine XS.iload X16.here hx rfl (hb hby at_174) rfl ?_
    show Steps p.tables e below (T16.setTop (mkF m 176 #[.val (.int p1), .val (.int p2), .val (.int p3), .val (.int p4), .val (.int p5), .val (.int v12_s0), .val (.int v27_s0), .val .null, .val .null, .val (.ref b8), .val (.int (1 : Int32)), .val (.ref b8), .val (.ref b8), .val (.int v27_s0), .unset] [(.int v12_s0)])) _
    refine XS.ifNo X16.here hx rfl (hb hby at_176) rfl ((if0 _ _).trans (teq hc176).2) ?_
    show Steps p.tables e below (T16.setTop (mkF m 179 #[.val (.int p1), .val (.int p2), .val (.int p3), .val (.int p4), .val (.int p5), .val (.int v12_s0), .val (.int v27_s0), .val .null, .val .null, .val (.ref b8), .val (.int (1 : Int32)), .val (.ref b8), .val (.ref b8), .val (.int v27_s0), .unset] [])) _
    refine XS.aload X16.here hx rfl (hb hby at_179) rfl rfl ?_
    show Steps p.tables e below (T16.setTop (mkF m 181 #[.val (.int p1), .val (.int p2), .val (.int p3), .val (.int p4), .val (.int p5), .val (.int v12_s0), .val (.int v27_s0), .val .null, .val .null, .val (.ref b8), .val (.int (1 : Int32)), .val (.ref b8), .val (.ref b8), .val (.int v27_s0), .unset] [.null])) _
    refine XS.goto X16.here hx rfl (pc0 := 181) (pc' := 186) rfl (hb hby at_181) (by decide) (by decide) ?_
    show Steps p.tables e below (T16.setTop (mkF m 186 #[.val (.int p1), .val (.int p2), .val (.int p3), .val (.int p4), .val (.int p5), .val (.int v12_s0), .val (.int v27_s0), .val .null, .val .null, .val (.ref b8), .val (.int (1 : Int32)), .val (.ref b8), .val (.ref b8), .val (.int v27_s0), .unset] [.null])) _
    refine XS.astore X16.here hx rfl (hb hby at_186) rfl rfl (l' := #[.val (.int p1), .val (.int p2), .val (.int p3), .val (.int p4), .val (.int p5), .val (.int v12_s0), .val (.int v27_s0), .val .null, .val .null, .val (.ref b8), .val (.int (1 : Int32)), .val (.ref b8), .val (.ref b8), .val (.int v27_s0), .val .null]) rfl ?_
    show Steps p.tables e below (T16.setTop (mkF m 188 #[.val (.int p1), .val (.int p2), .val (.int p3), .val (.int p4), .val (.int p5), .val (.int v12_s0), .val (.int v27_s0), .val .null, .val .null, .val (.ref b8), .val (.int (1 : Int32)), .val (.ref b8), .val (.ref b8), .val (.int v27_s0), .val .null] [])) _
    refine XS.iload X16.here hx rfl (hb hby at_188) rfl ?_
    show Steps p.tables e below (T16.setTop (mkF m 190 #[.val (.int p1), .val (.int p2), .val (.int p3), .val (.int p4), .val (.int p5), .val (.int v12_s0), .val (.int v27_s0), .val .null, .val .null, .val (.ref b8), .val (.int (1 : Int32)), .val (.ref b8), .val (.ref b8), .val (.int v27_s0), .val .null] [(.int (1 : Int32))])) _
    refine XS.ifNo X16.here hx rfl (hb hby at_190) rfl ((if0 _ _).trans (feq (by decide : ¬ ((1 : Int32) = (0 : Int32)))).1) ?_
    show Steps p.tables e below (T16.setTop (mkF m 193 #[.val (.int p1), .val (.int p2), .val (.int p3), .val (.int p4), .val (.int p5), .val (.int v12_s0), .val (.int v27_s0), .val .null, .val .null, .val (.ref b8), .val (.int (1 : Int32)), .val (.ref b8), .val (.ref b8), .val (.int v27_s0), .val .null] [])) _
    refine XS.aload X16.here hx rfl (hb hby at_193) rfl rfl ?_
    show Steps p.tables e below (T16.setTop (mkF m 195 #[.val (.int p1), .val (.int p2), .val (.int p3), .val (.int p4), .val (.int p5), .val (.int v12_s0), .val (.int v27_s0), .val .null, .val .null, .val (.ref b8), .val (.int (1 : Int32)), .val (.ref b8), .val (.ref b8), .val (.int v27_s0), .val .null] [(.ref b8)])) _
    refine XS.aload X16.here hx rfl (hb hby at_195) rfl rfl ?_
    show Steps p.tables e below (T16.setTop (mkF m 197 #[.val (.int p1), .val (.int p2), .val (.int p3), .val (.int p4), .val (.int p5), .val (.int v12_s0), .val (.int v27_s0), .val .null, .val .null, .val (.ref b8), .val (.int (1 : Int32)), .val (.ref b8), .val (.ref b8), .val (.int v27_s0), .val .null] [(.ref b8), (.ref b8)])) _
    refine Jvm.RoadKit.acmp (g := (mkF m 197 #[.val (.int p1), .val (.int p2), .val (.int p3), .val (.int p4), .val (.int p5), .val (.int v12_s0), .val (.int v27_s0), .val .null, .val .null, .val (.ref b8), .val (.int (1 : Int32)), .val (.ref b8), .val (.ref b8), .val (.int v27_s0), .val .null] [(.ref b8), (.ref b8)])) X16 hx rfl rfl rfl (pc0 := 197) (pc' := 200) (same := true) rfl (hb hby at_197) rfl (decide_eq_true rfl) (by decide) (by decide) ?_
    show Steps p.tables e below (T16.setTop (mkF m 200 #[.val (.int p1), .val (.int p2), .val (.int p3), .val (.int p4), .val (.int p5), .val (.int v12_s0), .val (.int v27_s0), .val .null, .val .null, .val (.ref b8), .val (.int (1 : Int32)), .val (.ref b8), .val (.ref b8), .val (.int v27_s0), .val .null] [])) _
    refine XS.aload X16.here hx rfl (hb hby at_200) rfl rfl ?_
    show Steps p.tables e below (T16.setTop (mkF m 202 #[.val (.int p1), .val (.int p2), .val (.int p3), .val (.int p4), .val (.int p5), .val (.int v12_s0), .val (.int v27_s0), .val .null, .val .null, .val (.ref b8), .val (.int (1 : Int32)), .val (.ref b8), .val (.ref b8), .val (.int v27_s0), .val .null] [(.ref b8)])) _
    refine st17.trans ?_
    show Steps p.tables e below (T17.setTop (mkF m 205 #[.val (.int p1), .val (.int p2), .val (.int p3), .val (.int p4), .val (.int p5), .val (.int v12_s0), .val (.int v27_s0), .val .null, .val .null, .val (.ref b8), .val (.int (1 : Int32)), .val (.ref b8), .val (.ref b8), .val (.int v27_s0), .val .null] [(.int v27_s0)])) _
    refine XS.iload X17.here hx rfl (hb hby at_205) rfl ?_
    show Steps p.tables e below (T17.setTop (mkF m 207 #[.val (.int p1), .val (.int p2), .val (.int p3), .val (.int p4), .val (.int p5), .val (.int v12_s0), .val (.int v27_s0), .val .null, .val .null, .val (.ref b8), .val (.int (1 : Int32)), .val (.ref b8), .val (.ref b8), .val (.int v27_s0), .val .null] [(.int v27_s0), (.int v27_s0)])) _
    refine XS.icmpNo X17.here hx rfl (hb hby at_207) rfl (teq (rfl : v27_s0 = v27_s0)).2 ?_
    show Steps p.tables e below (T17.setTop (mkF m 210 #[.val (.int p1), .val (.int p2), .val (.int p3), .val (.int p4), .val (.int p5), .val (.int v12_s0), .val (.int v27_s0), .val .null, .val .null, .val (.ref b8), .val (.int (1 : Int32)), .val (.ref b8), .val (.ref b8), .val (.int v27_s0), .val .null] [])) _
    refine XS.aload X17.here hx rfl (hb hby at_210) rfl rfl ?_
    show Steps p.tables e below (T17.setTop (mkF m 212 #[.val (.int p1), .val (.int p2), .val (.int p3), .val (.int p4), .val (.int p5), .val (.int v12_s0), .val (.int v27_s0), .val .null, .val .null, .val (.ref b8), .val (.int (1 : Int32)), .val (.ref b8), .val (.ref b8), .val (.int v27_s0), .val .null] [(.ref b8)])) _
    refine st18.trans ?_
    show Steps p.tables e below (T18.setTop (mkF m 215 #[.val (.int p1), .val (.int p2), .val (.int p3), .val (.int p4), .val (.int p5), .val (.int v12_s0), .val (.int v27_s0), .val .null, .val .null, .val (.ref b8), .val (.int (1 : Int32)), .val (.ref b8), .val (.ref b8), .val (.int v27_s0), .val .null] [.null])) _
    refine XS.aload X18.here hx rfl (hb hby at_215) rfl rfl ?_
    show Steps p.tables e below (T18.setTop (mkF m 217 #[.val (.int p1), .val (.int p2), .val (.int p3), .val (.int p4), .val (.int p5), .val (.int v12_s0), .val (.int v27_s0), .val .null, .val .null, .val (.ref b8), .val (.int (1 : Int32)), .val (.ref b8), .val (.ref b8), .val (.int v27_s0), .val .null] [.null, .null])) _
    refine Jvm.RoadKit.acmp (g := (mkF m 217 #[.val (.int p1), .val (.int p2), .val (.int p3), .val (.int p4), .val (.int p5), .val (.int v12_s0), .val (.int v27_s0), .val .null, .val .null, .val (.ref b8), .val (.int (1 : Int32)), .val (.ref b8), .val (.ref b8), .val (.int v27_s0), .val .null] [.null, .null])) X18 hx rfl rfl rfl (pc0 := 217) (pc' := 220) (same := true) rfl (hb hby at_217) rfl (decide_eq_true rfl) (by decide) (by decide) ?_
    show Steps p.tables e below (T18.setTop (mkF m 220 #[.val (.int p1), .val (.int p2), .val (.int p3), .val (.int p4), .val (.int p5), .val (.int v12_s0), .val (.int v27_s0), .val .null, .val .null, .val (.ref b8), .val (.int (1 : Int32)), .val (.ref b8), .val (.ref b8), .val (.int v27_s0), .val .null] [])) _
    refine XS.iconst X18.here hx rfl (hb hby at_220) ?_
    show Steps p.tables e below (T18.setTop (mkF m 221 #[.val (.int p1), .val (.int p2), .val (.int p3), .val (.int p4), .val (.int p5), .val (.int v12_s0), .val (.int v27_s0), .val .null, .val .null, .val (.ref b8), .val (.int (1 : Int32)), .val (.ref b8), .val (.ref b8), .val (.int v27_s0), .val .null] [(.int (1 : Int32))])) _
    refine XS.goto X18.here hx rfl (pc0 := 221) (pc' := 225) rfl (hb hby at_221) (by decide) (by decide) ?_
    show Steps p.tables e below (T18.setTop (mkF m 225 #[.val (.int p1), .val (.int p2), .val (.int p3), .val (.int p4), .val (.int p5), .val (.int v12_s0), .val (.int v27_s0), .val .null, .val .null, .val (.ref b8), .val (.int (1 : Int32)), .val (.ref b8), .val (.ref b8), .val (.int v27_s0), .val .null] [(.int (1 : Int32))])) _
    refine XS.istore X18.here hx rfl (hb hby at_225) rfl (l' := #[.val (.int p1), .val (.int p2), .val (.int p3), .val (.int p4), .val (.int p5), .val (.int v12_s0), .val (.int v27_s0), .val .null, .val .null, .val (.ref b8), .val (.int (1 : Int32)), .val (.ref b8), .val (.ref b8), .val (.int v27_s0), .val .null]) rfl ?_
    show Steps p.tables e below (T18.setTop (mkF m 227 #[.val (.int p1), .val (.int p2), .val (.int p3), .val (.int p4), .val (.int p5), .val (.int v12_s0), .val (.int v27_s0), .val .null, .val .null, .val (.ref b8), .val (.int (1 : Int32)), .val (.ref b8), .val (.ref b8), .val (.int v27_s0), .val .null] [])) _
    refine XS.iload X18.here hx rfl (hb hby at_227) rfl ?_
    show Steps p.tables e below (T18.setTop (mkF m 229 #[.val (.int p1), .val (.int p2), .val (.int p3), .val (.int p4), .val (.int p5), .val (.int v12_s0), .val (.int v27_s0), .val .null, .val .null, .val (.ref b8), .val (.int (1 : Int32)), .val (.ref b8), .val (.ref b8), .val (.int v27_s0), .val .null] [(.int (1 : Int32))])) _
    exact retN X18 hx (t := .boolean) Bd.returns (by simp) (hb hby at_229) hr
  · show Q0nnz Z p1 p2 p3 p4 p5 v12_s0 v27_s0 h0 n0 _ T18.heap _
    rw [e18]
    exact ⟨rfl, N18⟩
def Q0nnt (Z : State) (p1 : Int32) (p2 : Int32) (p3 : Int32) (p4 : Int32) (p5 : Int32) (v12_s0 : Int32) (v27_s0 : Int32) (h0 : Heap) (n0 : Nat) (v : Option Value) (h : Heap) (L : List Loc) : Prop := v = some (.int (1 : Int32)) ∧ Fr n0 L
set_option maxRecDepth 65536 in
set_option maxHeartbeats 40000000 in
theorem rm0nnt (l : Launch) (Z : State) (a0 : Array Value) (hw : ∀ d ∈ tables_1, d.before a0 Z = true) (ws : List Jvm.Cond) (p1 : Int32) (p2 : Int32) (p3 : Int32) (p4 : Int32) (p5 : Int32) (v12_s0 : Int32) (v27_s0 : Int32) (zc : Int32) (h0 : Heap) (n0 : Nat) (Z0 : n0 ≤ h0.size) (hv12_s0 : v12_s0 = (if (p5 &&& (1 : Int32)) = (0 : Int32) then p1 else (0 : Int32))) (hv27_s0 : v27_s0 = (if (p5 &&& (8 : Int32)) = (0 : Int32) then p2 else (0 : Int32))) (O0 : Old Z n0 h0) (hc34 : ¬ ((p5 &&& (2 : Int32)) = (0 : Int32))) (hc52 : ¬ ((p5 &&& (4 : Int32)) = (0 : Int32))) (hc162 : ¬ (v12_s0 = (0 : Int32))) (hc176 : ¬ (v12_s0 = (0 : Int32))) (hlT : l.stackTraces = true) (S0 : own_St Z Z.heap) (S_cs : Sta Z Z.heap "java/lang/String" "COMPACT_STRINGS" "Z" (.int zc)) (hcs : ¬ (zc = (0 : Int32))) (wS : ∀ a ∈ Bundle.stringAtoms, a.before a0 Z = true) (hz0 : h0 = Z.heap) :
    MetFree l x (head1 (Jvm.Cond.code x code maxLocals ret :: ws) room_1) (fun a U => a = #[(.int p1), (.int p2), (.int p3), (.int p4), (.int p5)] ∧ U.vm = Z.vm ∧ U.heap = h0) (fun _ _ B U _ => U.vm.MethodsKnown ∧ U.vm.FramesKnown B) (fun _ U o U' => ∃ v L, o = .returned v ∧ Q0nnt Z p1 p2 p3 p4 p5 v12_s0 v27_s0 h0 n0 v U'.heap L ∧ ReturnedEndW U o U' L room_1.cells room_1.slots) := by
  refine MetFree.of_bodySF (plainFor_of_name pn_0) hisR ?_
  intro p e s m args below meth c s₁ Bd hml0 hP hK
  obtain ⟨rfl, hU, hh⟩ := hP
  obtain ⟨hTK, hBK⟩ := hK
  rw [hU] at hTK hBK
  have hZ : Z.Warmed39 (s.setVm s.vm).vm := by
    show Z.Warmed39 s.vm
    rw [hU]; exact State.Warmed39.refl Z
  have hx := Bd.exec
  have hby := Bd.bytes
  have hml : c.maxLocals = 15 := hml0
  have hown : (s.setVm s.vm).vm.findClass "nephrite/EvaluationExceptionOnPinLaw" = some m.cls := findClass_of_methodNamed Bd.named
  have hnm := (name_of_methodNamed Bd.named Bd.method).1
  have X0 : Stand p l e room_1 (s.setVm s.vm) m #[(.int p1), (.int p2), (.int p3), (.int p4), (.int p5)] below meth c s₁ [] 0 0 := Stand.of_body Bd
  have e0 : s₁.heap = h0 := by rw [← hh, Bd.state]; rfl
  have N0 := Fr.nil n0
  have hS : s.Since s.vm h0.size := (State.WarmedH.refl s).since _
  have hk : h0.size ≤ h0.size := Nat.le_refl _
  have pre0 : ∀ t, Steps p.tables e below (s₁.setTop (mkF m 0 #[.val (.int p1), .val (.int p2), .val (.int p3), .val (.int p4), .val (.int p5), .unset, .unset, .unset, .unset, .unset, .unset, .unset, .unset, .unset, .unset] [])) t → Steps p.tables e below (s₁.setTop (entryFrame m #[(.int p1), (.int p2), (.int p3), (.int p4), (.int p5)] maxLocals)) t := fun t k => castTop (ef_0 m p1 p2 p3 p4 p5) k
  have sg4 : ∀ t, Steps p.tables e below (s₁.setTop (mkF m 12 #[.val (.int p1), .val (.int p2), .val (.int p3), .val (.int p4), .val (.int p5), .unset, .unset, .unset, .unset, .unset, .unset, .unset, .unset, .unset, .unset] [(.int v12_s0)])) t → Steps p.tables e below (s₁.setTop (mkF m 4 #[.val (.int p1), .val (.int p2), .val (.int p3), .val (.int p4), .val (.int p5), .unset, .unset, .unset, .unset, .unset, .unset, .unset, .unset, .unset, .unset] [(.int (p5 &&& (1 : Int32)))])) t := by
    intro t kt
    show Steps p.tables e below (s₁.setTop (mkF m 4 #[.val (.int p1), .val (.int p2), .val (.int p3), .val (.int p4), .val (.int p5), .unset, .unset, .unset, .unset, .unset, .unset, .unset, .unset, .unset, .unset] [(.int (p5 &&& (1 : Int32)))])) _
    by_cases hm4 : (p5 &&& (1 : Int32)) = (0 : Int32)
    · rw [show v12_s0 = p1 by rw [hv12_s0, if_pos hm4]] at kt
      refine XS.ifYes X0.here hx rfl (pc0 := 4) (pc' := 11) rfl (hb hby at_4) rfl ((if0 _ _).trans (teq hm4).1) (by decide) (by decide) ?_
      show Steps p.tables e below (s₁.setTop (mkF m 11 #[.val (.int p1), .val (.int p2), .val (.int p3), .val (.int p4), .val (.int p5), .unset, .unset, .unset, .unset, .unset, .unset, .unset, .unset, .unset, .unset] [])) _
      refine XS.iloadN X0.here hx rfl (hb hby at_11) rfl ?_
      exact kt
    · rw [show v12_s0 = (0 : Int32) by rw [hv12_s0, if_neg hm4]] at kt
      refine XS.ifNo X0.here hx rfl (hb hby at_4) rfl ((if0 _ _).trans (feq hm4).1) ?_
      show Steps p.tables e below (s₁.setTop (mkF m 7 #[.val (.int p1), .val (.int p2), .val (.int p3), .val (.int p4), .val (.int p5), .unset, .unset, .unset, .unset, .unset, .unset, .unset, .unset, .unset, .unset] [])) _
      refine XS.iconst X0.here hx rfl (hb hby at_7) ?_
      show Steps p.tables e below (s₁.setTop (mkF m 8 #[.val (.int p1), .val (.int p2), .val (.int p3), .val (.int p4), .val (.int p5), .unset, .unset, .unset, .unset, .unset, .unset, .unset, .unset, .unset, .unset] [(.int (0 : Int32))])) _
      refine XS.goto X0.here hx rfl (pc0 := 8) (pc' := 12) rfl (hb hby at_8) (by decide) (by decide) ?_
      exact kt
  have sg19 : ∀ t, Steps p.tables e below (s₁.setTop (mkF m 27 #[.val (.int p1), .val (.int p2), .val (.int p3), .val (.int p4), .val (.int p5), .val (.int v12_s0), .unset, .unset, .unset, .unset, .unset, .unset, .unset, .unset, .unset] [(.int v27_s0)])) t → Steps p.tables e below (s₁.setTop (mkF m 19 #[.val (.int p1), .val (.int p2), .val (.int p3), .val (.int p4), .val (.int p5), .val (.int v12_s0), .unset, .unset, .unset, .unset, .unset, .unset, .unset, .unset, .unset] [(.int (p5 &&& (8 : Int32)))])) t := by
    intro t kt
    show Steps p.tables e below (s₁.setTop (mkF m 19 #[.val (.int p1), .val (.int p2), .val (.int p3), .val (.int p4), .val (.int p5), .val (.int v12_s0), .unset, .unset, .unset, .unset, .unset, .unset, .unset, .unset, .unset] [(.int (p5 &&& (8 : Int32)))])) _
    by_cases hm19 : (p5 &&& (8 : Int32)) = (0 : Int32)
    · rw [show v27_s0 = p2 by rw [hv27_s0, if_pos hm19]] at kt
      refine XS.ifYes X0.here hx rfl (pc0 := 19) (pc' := 26) rfl (hb hby at_19) rfl ((if0 _ _).trans (teq hm19).1) (by decide) (by decide) ?_
      show Steps p.tables e below (s₁.setTop (mkF m 26 #[.val (.int p1), .val (.int p2), .val (.int p3), .val (.int p4), .val (.int p5), .val (.int v12_s0), .unset, .unset, .unset, .unset, .unset, .unset, .unset, .unset, .unset] [])) _
      refine XS.iloadN X0.here hx rfl (hb hby at_26) rfl ?_
      exact kt
    · rw [show v27_s0 = (0 : Int32) by rw [hv27_s0, if_neg hm19]] at kt
      refine XS.ifNo X0.here hx rfl (hb hby at_19) rfl ((if0 _ _).trans (feq hm19).1) ?_
      show Steps p.tables e below (s₁.setTop (mkF m 22 #[.val (.int p1), .val (.int p2), .val (.int p3), .val (.int p4), .val (.int p5), .val (.int v12_s0), .unset, .unset, .unset, .unset, .unset, .unset, .unset, .unset, .unset] [])) _
      refine XS.iconst X0.here hx rfl (hb hby at_22) ?_
      show Steps p.tables e below (s₁.setTop (mkF m 23 #[.val (.int p1), .val (.int p2), .val (.int p3), .val (.int p4), .val (.int p5), .val (.int v12_s0), .unset, .unset, .unset, .unset, .unset, .unset, .unset, .unset, .unset] [(.int (0 : Int32))])) _
      refine XS.goto X0.here hx rfl (pc0 := 23) (pc' := 27) rfl (hb hby at_23) (by decide) (by decide) ?_
      exact kt
  obtain ⟨_, _, ⟨T6, L6, k6, n6⟩, -, X6, ⟨Lc6, hQ6, l6, y6, z6⟩, st6⟩ := Jvm.LawKit.callS X0 hx (y := (⟨"nephrite/EvaluationExceptionOnPinLaw", "name", "(IZ)Ljava/lang/String;"⟩ : MethodName)) hown (mvT hZ (hw _ (List.mem_of_getElem? (i := 0) rfl))) (mvT hZ (hw _ (List.mem_of_getElem? (i := 1) rfl))) (mvT hZ (hw _ (List.mem_of_getElem? (i := 2) rfl))) (mvT hZ (hw _ (List.mem_of_getElem? (i := 3) rfl))) (by decide) (backOf (W := 0) (rm1n l Z a0 hw [] p3 (1 : Int32)  h0 n0 Z0 (by decide)) hZ (hw _ (List.mem_of_getElem? (i := 3) rfl)) (hw _ (List.mem_of_getElem? (i := 2) rfl)) (by decide) (by decide)) (g := (mkF m 42 #[.val (.int p1), .val (.int p2), .val (.int p3), .val (.int p4), .val (.int p5), .val (.int v12_s0), .val (.int v27_s0), .unset, .unset, .unset, .unset, .unset, .unset, .unset, .unset] [(.int (1 : Int32)), (.int p3)])) rfl (by rw [hml]; rfl) (argsL := [(.int p3), (.int (1 : Int32))]) (rest := []) (lenOf pd_0_0 rfl) rfl (by show 2 * 0 + _ ≤ _; exact Nat.le_of_eq rfl) (hb hby at_42) (fun _ _ => ⟨rfl, e0, (by decide : 0 + 0 ≤ _), (by decide : 0 + 0 ≤ _)⟩)
  dsimp only [Pt.U, Pt.locs, Pt.cells, Pt.slots] at X6 l6 y6 z6 st6 hQ6
  subst l6 y6 z6
  obtain ⟨rfl, N6q, e6⟩ := hQ6
  have N6 := Fr.app N0 N6q
  obtain ⟨_, _, ⟨T7, L7, k7, n7⟩, -, X7, ⟨Lc7, hQ7, l7, y7, z7⟩, st7⟩ := Jvm.LawKit.callS X6 hx (y := (⟨"nephrite/EvaluationExceptionOnPinLaw", "name", "(IZ)Ljava/lang/String;"⟩ : MethodName)) hown (mvT hZ (hw _ (List.mem_of_getElem? (i := 0) rfl))) (mvT hZ (hw _ (List.mem_of_getElem? (i := 1) rfl))) (mvT hZ (hw _ (List.mem_of_getElem? (i := 2) rfl))) (mvT hZ (hw _ (List.mem_of_getElem? (i := 3) rfl))) (by decide) (backOf (W := 0) (rm1n l Z a0 hw [] p4 (1 : Int32)  h0 n0 Z0 (by decide)) hZ (hw _ (List.mem_of_getElem? (i := 3) rfl)) (hw _ (List.mem_of_getElem? (i := 2) rfl)) (by decide) (by decide)) (g := (mkF m 60 #[.val (.int p1), .val (.int p2), .val (.int p3), .val (.int p4), .val (.int p5), .val (.int v12_s0), .val (.int v27_s0), .val .null, .unset, .unset, .unset, .unset, .unset, .unset, .unset] [(.int (1 : Int32)), (.int p4)])) rfl (by rw [hml]; rfl) (argsL := [(.int p4), (.int (1 : Int32))]) (rest := []) (lenOf pd_0_0 rfl) rfl (by show 2 * 0 + _ ≤ _; exact Nat.le_of_eq rfl) (hb hby at_60) (fun _ _ => ⟨rfl, e6, (by decide : 0 + 0 ≤ _), (by decide : 0 + 0 ≤ _)⟩)
  dsimp only [Pt.U, Pt.locs, Pt.cells, Pt.slots] at X7 l7 y7 z7 st7 hQ7
  subst l7 y7 z7
  obtain ⟨rfl, N7q, e7⟩ := hQ7
  have N7 := Fr.app N6 N7q
  obtain ⟨T8, h8, X8, e8, E8, A8, D8, U8, st8⟩ := newO X7 hx hZ hown (hw _ (List.mem_of_getElem? (i := 34) rfl)) (hw _ (List.mem_of_getElem? (i := 35) rfl)) (hw _ (List.mem_of_getElem? (i := 36) rfl)) e7 (g := (mkF m 65 #[.val (.int p1), .val (.int p2), .val (.int p3), .val (.int p4), .val (.int p5), .val (.int v12_s0), .val (.int v27_s0), .val .null, .val .null, .unset, .unset, .unset, .unset, .unset, .unset] [])) rfl (hb hby at_65) (by decide) (by decide)
  obtain ⟨b8, g8⟩ : ∃ z, z = h0.size := ⟨_, rfl⟩
  rw [← g8] at A8 D8 st8
  have F_cause_b8 : Fld Z h8 b8 "java/lang/Throwable" "cause" "Ljava/lang/Throwable;" .null := D8 (Or.inl (hw _ (List.mem_of_getElem? (i := 62) rfl))) (ty := (.object "java/lang/Throwable")) (by decide)
  have F_stackTrace_b8 : Fld Z h8 b8 "java/lang/Throwable" "stackTrace" "[Ljava/lang/StackTraceElement;" .null := D8 (Or.inl (hw _ (List.mem_of_getElem? (i := 65) rfl))) (ty := (.array (.object "java/lang/StackTraceElement"))) (by decide)
  have F_suppressedExceptions_b8 : Fld Z h8 b8 "java/lang/Throwable" "suppressedExceptions" "Ljava/util/List;" .null := D8 (Or.inl (hw _ (List.mem_of_getElem? (i := 68) rfl))) (ty := (.object "java/util/List")) (by decide)
  have F_detailMessage_b8 : Fld Z h8 b8 "java/lang/Throwable" "detailMessage" "Ljava/lang/String;" .null := D8 (Or.inl (hw _ (List.mem_of_getElem? (i := 92) rfl))) (ty := (.object "java/lang/String")) (by decide)
  have F_backtrace_b8 : Fld Z h8 b8 "java/lang/Throwable" "backtrace" "Ljava/lang/Object;" .null := D8 (Or.inl (hw _ (List.mem_of_getElem? (i := 93) rfl))) (ty := (.object "java/lang/Object")) (by decide)
  have F_depth_b8 : Fld Z h8 b8 "java/lang/Throwable" "depth" "I" (.int (0 : Int32)) := D8 (Or.inl (hw _ (List.mem_of_getElem? (i := 94) rfl))) (ty := .int) (by decide)
  have F_line_b8 : Fld Z h8 b8 "nephrite/EvaluationException" "line" "I" (.int (0 : Int32)) := D8 (Or.inl (hw _ (List.mem_of_getElem? (i := 103) rfl))) (ty := .int) (by decide)
  have F_templateName_b8 : Fld Z h8 b8 "nephrite/EvaluationException" "templateName" "Ljava/lang/String;" .null := D8 (Or.inl (hw _ (List.mem_of_getElem? (i := 110) rfl))) (ty := (.object "java/lang/String")) (by decide)
  have U_b8 : Unt h8 b8 := by rw [g8]; exact U8
  have E_b8 := A8
  have g_b8 : n0 ≤ b8 := Nat.le_trans Z0 (Nat.le_of_eq g8.symm)
  have sz_b8 : h0.size ≤ b8 := (Nat.le_trans (Keep.refl h0 []).1 (Nat.le_of_eq g8.symm))
  have K8 : Keep h0 h8 [] := (Keep.refl h0 []).ext E8
  obtain ⟨b9, T9, h9, q9, X9, e9, E9, hS, hk, hZ, hown, hC9, -, st9⟩ := ldcOH X8 hx hZ hown (hw _ (List.mem_of_getElem? (i := 37) rfl)) wS e8 hS (Nat.le_trans hk K8.1) (EW.nil : EW Z a0 []) (fun _ q => by cases q) (g := (mkF m 69 #[.val (.int p1), .val (.int p2), .val (.int p3), .val (.int p4), .val (.int p5), .val (.int v12_s0), .val (.int v27_s0), .val .null, .val .null, .unset, .unset, .unset, .unset, .unset, .unset] [(.ref b8), (.ref b8)])) rfl (hb hby at_69) (n := 4) (by decide) (by decide) (by decide) (by decide)
  have H := hC9.1
  have K9 : Keep h0 h9 [] := K8.ext E9
  obtain ⟨_, _, ⟨T10, L10, k10, n10⟩, -, X10, ⟨Lc10, hQ10, l10, y10, z10⟩, st10⟩ := X9.specialBack hx (y := (⟨"nephrite/EvaluationException", "<init>", "(Ljava/lang/String;)V"⟩ : MethodName)) rfl hown (mvT hZ (hw _ (List.mem_of_getElem? (i := 40) rfl))) (mvT hZ (hw _ (List.mem_of_getElem? (i := 41) rfl))) (mvT hZ (hw _ (List.mem_of_getElem? (i := 42) rfl))) (by decide) (own_backK (W := 1) (rm8 l Z a0 hw [] b8 b9  h9 n0 (Nat.le_trans (Nat.le_trans Z0 E8.1) E9.1) g_b8 hlT ⟨(E_b8.ext E9), (U_b8.ext E9), ⟨_, (F_cause_b8.ext E9)⟩, ⟨_, (F_stackTrace_b8.ext E9)⟩, ⟨_, (F_suppressedExceptions_b8.ext E9)⟩, (F_backtrace_b8.ext E9), _, (F_detailMessage_b8.ext E9)⟩ (own_St_old S0 (O0.keep K9 all0))) hZ (hw _ (List.mem_of_getElem? (i := 42) rfl)) (hw _ (List.mem_of_getElem? (i := 36) rfl)) (Vm.MethodsKnown.alikeC hZ.alike hTK) (Vm.FramesKnown.alikeC hZ.alike hBK) (by decide) (by decide)) (g := (mkF m 71 #[.val (.int p1), .val (.int p2), .val (.int p3), .val (.int p4), .val (.int p5), .val (.int v12_s0), .val (.int v27_s0), .val .null, .val .null, .unset, .unset, .unset, .unset, .unset, .unset] [(.ref b9), (.ref b8), (.ref b8)])) rfl (by rw [hml]; rfl) (Steps.refl _) (a := b8) (argsL := [(.ref b9)]) (rest := [(.ref b8)]) (lenOf pd_0_7 rfl) rfl (by show 2 * 0 + _ ≤ _; exact Nat.le_of_eq rfl) (hb hby at_71) (fun _ _ => ⟨rfl, e9, (by decide : 3 + 1 ≤ _), (by decide : 16 + 2752 ≤ _)⟩)
  dsimp only [Pt.U, Pt.locs, Pt.cells, Pt.slots] at X10 l10 y10 z10 st10 hQ10
  subst l10 y10 z10
  obtain ⟨rfl, N10q, Kp10⟩ := hQ10
  have N10 := Fr.app N7 N10q
  have K10c := keep_of_kp Kp10
  have K10 : Keep h0 T10.heap [] := K9.trans K10c (allS (Or.inr sz_b8) all0)
  have Ec10 := (E_b8.ext E9).kp Kp10
  have Fk10_line := Fld.kp Kp10 (F_line_b8.ext E9) (Or.inr (own_six_ne hw (Or.inl (hw _ (List.mem_of_getElem? (i := 103) rfl))) (ty := .int) (by decide) (by decide)))
  have Fk10_templateName := Fld.kp Kp10 (F_templateName_b8.ext E9) (Or.inr (own_six_ne hw (Or.inl (hw _ (List.mem_of_getElem? (i := 110) rfl))) (ty := (.object "java/lang/String")) (by decide) (by decide)))
  obtain ⟨cq11, kq11, q11a, q11b, q11c⟩ := isOf hZ rfl Ec10
  obtain ⟨_, _, ⟨T11, L11, k11, n11⟩, -, X11, ⟨Lc11, hQ11, l11, y11, z11⟩, st11⟩ := X10.virtualBack hx (y := (⟨"nephrite/EvaluationException", "line", "()I"⟩ : MethodName)) (z := (⟨"nephrite/EvaluationException", "line", "()I"⟩ : MethodName)) hown (mvT hZ (hw _ (List.mem_of_getElem? (i := 97) rfl))) (mvT hZ (hw _ (List.mem_of_getElem? (i := 98) rfl))) (notFace_of_selects (args := #[]) (mvT hZ (hw _ (List.mem_of_getElem? (i := 100) rfl)))) (mvT hZ (hw _ (List.mem_of_getElem? (i := 100) rfl))) (mvT hZ (hw _ (List.mem_of_getElem? (i := 99) rfl))) (by decide) (backOf (W := 0) (rm14 l Z a0 hw [] b8 (0 : Int32) T10.heap n0 (Nat.le_trans (Nat.le_trans (Nat.le_trans Z0 E8.1) E9.1) K10c.1) Fk10_line) hZ (hw _ (List.mem_of_getElem? (i := 101) rfl)) (hw _ (List.mem_of_getElem? (i := 36) rfl)) (by decide) (by decide)) q11a q11c (g := (mkF m 78 #[.val (.int p1), .val (.int p2), .val (.int p3), .val (.int p4), .val (.int p5), .val (.int v12_s0), .val (.int v27_s0), .val .null, .val .null, .val (.ref b8), .unset, .unset, .unset, .unset, .unset] [(.ref b8)])) rfl (by rw [hml]; rfl) (Steps.refl _) (argsL := []) (rest := []) (lenOf pd_0_10 rfl) rfl (by show 2 * 0 + _ ≤ _; exact Nat.le_of_eq rfl) (hb hby at_78) (fun _ _ => ⟨rfl, rfl, (by decide : 4 + 0 ≤ _), (by decide : 2768 + 0 ≤ _)⟩)
  dsimp only [Pt.U, Pt.locs, Pt.cells, Pt.slots] at X11 l11 y11 z11 st11 hQ11
  subst l11 y11 z11
  obtain ⟨rfl, N11q, e11⟩ := hQ11
  have N11 := Fr.app N10 N11q
  obtain ⟨cq12, kq12, q12a, q12b, q12c⟩ := isOf hZ e11 Ec10
  obtain ⟨_, _, ⟨T12, L12, k12, n12⟩, -, X12, ⟨Lc12, hQ12, l12, y12, z12⟩, st12⟩ := X11.virtualBack hx (y := (⟨"nephrite/EvaluationException", "templateName", "()Ljava/lang/String;"⟩ : MethodName)) (z := (⟨"nephrite/EvaluationException", "templateName", "()Ljava/lang/String;"⟩ : MethodName)) hown (mvT hZ (hw _ (List.mem_of_getElem? (i := 104) rfl))) (mvT hZ (hw _ (List.mem_of_getElem? (i := 105) rfl))) (notFace_of_selects (args := #[]) (mvT hZ (hw _ (List.mem_of_getElem? (i := 107) rfl)))) (mvT hZ (hw _ (List.mem_of_getElem? (i := 107) rfl))) (mvT hZ (hw _ (List.mem_of_getElem? (i := 106) rfl))) (by decide) (backOf (W := 0) (rm15n l Z a0 hw [] b8  T10.heap n0 (Nat.le_trans (Nat.le_trans (Nat.le_trans Z0 E8.1) E9.1) K10c.1) Fk10_templateName) hZ (hw _ (List.mem_of_getElem? (i := 108) rfl)) (hw _ (List.mem_of_getElem? (i := 36) rfl)) (by decide) (by decide)) q12a q12c (g := (mkF m 86 #[.val (.int p1), .val (.int p2), .val (.int p3), .val (.int p4), .val (.int p5), .val (.int v12_s0), .val (.int v27_s0), .val .null, .val .null, .val (.ref b8), .unset, .unset, .unset, .unset, .unset] [(.ref b8)])) rfl (by rw [hml]; rfl) (Steps.refl _) (argsL := []) (rest := []) (lenOf pd_0_11 rfl) rfl (by show 2 * 0 + _ ≤ _; exact Nat.le_of_eq rfl) (hb hby at_86) (fun _ _ => ⟨rfl, e11, (by decide : 4 + 0 ≤ _), (by decide : 2768 + 0 ≤ _)⟩)
  dsimp only [Pt.U, Pt.locs, Pt.cells, Pt.slots] at X12 l12 y12 z12 st12 hQ12
  subst l12 y12 z12
  obtain ⟨rfl, N12q, e12⟩ := hQ12
  have N12 := Fr.app N11 N12q
  obtain ⟨cq13, kq13, q13a, q13b, q13c⟩ := isOf hZ e12 Ec10
  obtain ⟨_, _, ⟨T13, L13, k13, n13⟩, -, X13, ⟨Lc13, hQ13, l13, y13, z13⟩, st13⟩ := X12.virtualBack hx (y := (⟨"nephrite/EvaluationException", "on", "(Ljava/lang/String;I)Lnephrite/EvaluationException;"⟩ : MethodName)) (z := (⟨"nephrite/EvaluationException", "on", "(Ljava/lang/String;I)Lnephrite/EvaluationException;"⟩ : MethodName)) hown (mvT hZ (hw _ (List.mem_of_getElem? (i := 111) rfl))) (mvT hZ (hw _ (List.mem_of_getElem? (i := 112) rfl))) (notFace_of_selects (args := #[]) (mvT hZ (hw _ (List.mem_of_getElem? (i := 114) rfl)))) (mvT hZ (hw _ (List.mem_of_getElem? (i := 114) rfl))) (mvT hZ (hw _ (List.mem_of_getElem? (i := 113) rfl))) (by decide) (backOf (W := 0) (rm16fn l Z a0 hw [] b8 v12_s0 _ _ T10.heap n0 (Nat.le_trans (Nat.le_trans (Nat.le_trans Z0 E8.1) E9.1) K10c.1) Fk10_line Ec10 Fk10_templateName g_b8 rfl) hZ (hw _ (List.mem_of_getElem? (i := 115) rfl)) (hw _ (List.mem_of_getElem? (i := 36) rfl)) (by decide) (by decide)) q13a q13c (g := (mkF m 105 #[.val (.int p1), .val (.int p2), .val (.int p3), .val (.int p4), .val (.int p5), .val (.int v12_s0), .val (.int v27_s0), .val .null, .val .null, .val (.ref b8), .val (.int (1 : Int32)), .unset, .unset, .unset, .unset] [(.int v12_s0), .null, (.ref b8)])) rfl (by rw [hml]; rfl) (Steps.refl _) (argsL := [.null, (.int v12_s0)]) (rest := []) (lenOf pd_0_12 rfl) rfl (by show 2 * 0 + _ ≤ _; exact Nat.le_of_eq rfl) (hb hby at_105) (fun _ _ => ⟨rfl, e12, (by decide : 4 + 0 ≤ _), (by decide : 2768 + 0 ≤ _)⟩)
  dsimp only [Pt.U, Pt.locs, Pt.cells, Pt.slots] at X13 l13 y13 z13 st13 hQ13
  subst l13 y13 z13
  obtain ⟨rfl, N13q, K13c, Ec13, Fc13_0, Fc13_1⟩ := hQ13
  have N13 := Fr.app N12 N13q
  have K13 : Keep h0 T13.heap [] := K10.trans K13c (allS (Or.inr sz_b8) all0)
  obtain ⟨cq14, kq14, q14a, q14b, q14c⟩ := isOf hZ rfl Ec13
  obtain ⟨_, _, ⟨T14, L14, k14, n14⟩, -, X14, ⟨Lc14, hQ14, l14, y14, z14⟩, st14⟩ := X13.virtualBack hx (y := (⟨"nephrite/EvaluationException", "line", "()I"⟩ : MethodName)) (z := (⟨"nephrite/EvaluationException", "line", "()I"⟩ : MethodName)) hown (mvT hZ (hw _ (List.mem_of_getElem? (i := 97) rfl))) (mvT hZ (hw _ (List.mem_of_getElem? (i := 98) rfl))) (notFace_of_selects (args := #[]) (mvT hZ (hw _ (List.mem_of_getElem? (i := 100) rfl)))) (mvT hZ (hw _ (List.mem_of_getElem? (i := 100) rfl))) (mvT hZ (hw _ (List.mem_of_getElem? (i := 99) rfl))) (by decide) (backOf (W := 0) (rm14 l Z a0 hw [] b8 v12_s0 T13.heap n0 (Nat.le_trans (Nat.le_trans (Nat.le_trans (Nat.le_trans Z0 E8.1) E9.1) K10c.1) K13c.1) Fc13_0) hZ (hw _ (List.mem_of_getElem? (i := 101) rfl)) (hw _ (List.mem_of_getElem? (i := 36) rfl)) (by decide) (by decide)) q14a q14c (g := (mkF m 124 #[.val (.int p1), .val (.int p2), .val (.int p3), .val (.int p4), .val (.int p5), .val (.int v12_s0), .val (.int v27_s0), .val .null, .val .null, .val (.ref b8), .val (.int (1 : Int32)), .val (.ref b8), .unset, .unset, .unset] [(.ref b8)])) rfl (by rw [hml]; rfl) (Steps.refl _) (argsL := []) (rest := []) (lenOf pd_0_10 rfl) rfl (by show 2 * 0 + _ ≤ _; exact Nat.le_of_eq rfl) (hb hby at_124) (fun _ _ => ⟨rfl, rfl, (by decide : 4 + 0 ≤ _), (by decide : 2768 + 0 ≤ _)⟩)
  dsimp only [Pt.U, Pt.locs, Pt.cells, Pt.slots] at X14 l14 y14 z14 st14 hQ14
  subst l14 y14 z14
  obtain ⟨rfl, N14q, e14⟩ := hQ14
  have N14 := Fr.app N13 N14q
  obtain ⟨cq15, kq15, q15a, q15b, q15c⟩ := isOf hZ e14 Ec13
  obtain ⟨_, _, ⟨T15, L15, k15, n15⟩, -, X15, ⟨Lc15, hQ15, l15, y15, z15⟩, st15⟩ := X14.virtualBack hx (y := (⟨"nephrite/EvaluationException", "templateName", "()Ljava/lang/String;"⟩ : MethodName)) (z := (⟨"nephrite/EvaluationException", "templateName", "()Ljava/lang/String;"⟩ : MethodName)) hown (mvT hZ (hw _ (List.mem_of_getElem? (i := 104) rfl))) (mvT hZ (hw _ (List.mem_of_getElem? (i := 105) rfl))) (notFace_of_selects (args := #[]) (mvT hZ (hw _ (List.mem_of_getElem? (i := 107) rfl)))) (mvT hZ (hw _ (List.mem_of_getElem? (i := 107) rfl))) (mvT hZ (hw _ (List.mem_of_getElem? (i := 106) rfl))) (by decide) (backOf (W := 0) (rm15n l Z a0 hw [] b8  T13.heap n0 (Nat.le_trans (Nat.le_trans (Nat.le_trans (Nat.le_trans Z0 E8.1) E9.1) K10c.1) K13c.1) Fc13_1) hZ (hw _ (List.mem_of_getElem? (i := 108) rfl)) (hw _ (List.mem_of_getElem? (i := 36) rfl)) (by decide) (by decide)) q15a q15c (g := (mkF m 134 #[.val (.int p1), .val (.int p2), .val (.int p3), .val (.int p4), .val (.int p5), .val (.int v12_s0), .val (.int v27_s0), .val .null, .val .null, .val (.ref b8), .val (.int (1 : Int32)), .val (.ref b8), .unset, .unset, .unset] [(.ref b8)])) rfl (by rw [hml]; rfl) (Steps.refl _) (argsL := []) (rest := []) (lenOf pd_0_11 rfl) rfl (by show 2 * 0 + _ ≤ _; exact Nat.le_of_eq rfl) (hb hby at_134) (fun _ _ => ⟨rfl, e14, (by decide : 4 + 0 ≤ _), (by decide : 2768 + 0 ≤ _)⟩)
  dsimp only [Pt.U, Pt.locs, Pt.cells, Pt.slots] at X15 l15 y15 z15 st15 hQ15
  subst l15 y15 z15
  obtain ⟨rfl, N15q, e15⟩ := hQ15
  have N15 := Fr.app N14 N15q
  obtain ⟨cq16, kq16, q16a, q16b, q16c⟩ := isOf hZ e15 Ec13
  obtain ⟨_, _, ⟨T16, L16, k16, n16⟩, -, X16, ⟨Lc16, hQ16, l16, y16, z16⟩, st16⟩ := X15.virtualBack hx (y := (⟨"nephrite/EvaluationException", "on", "(Ljava/lang/String;I)Lnephrite/EvaluationException;"⟩ : MethodName)) (z := (⟨"nephrite/EvaluationException", "on", "(Ljava/lang/String;I)Lnephrite/EvaluationException;"⟩ : MethodName)) hown (mvT hZ (hw _ (List.mem_of_getElem? (i := 111) rfl))) (mvT hZ (hw _ (List.mem_of_getElem? (i := 112) rfl))) (notFace_of_selects (args := #[]) (mvT hZ (hw _ (List.mem_of_getElem? (i := 114) rfl)))) (mvT hZ (hw _ (List.mem_of_getElem? (i := 114) rfl))) (mvT hZ (hw _ (List.mem_of_getElem? (i := 113) rfl))) (by decide) (backOf (W := 0) (rm16tn l Z a0 hw [] b8 v27_s0 _ T13.heap n0 (Nat.le_trans (Nat.le_trans (Nat.le_trans (Nat.le_trans Z0 E8.1) E9.1) K10c.1) K13c.1) Fc13_0 hc162) hZ (hw _ (List.mem_of_getElem? (i := 115) rfl)) (hw _ (List.mem_of_getElem? (i := 36) rfl)) (by decide) (by decide)) q16a q16c (g := (mkF m 155 #[.val (.int p1), .val (.int p2), .val (.int p3), .val (.int p4), .val (.int p5), .val (.int v12_s0), .val (.int v27_s0), .val .null, .val .null, .val (.ref b8), .val (.int (1 : Int32)), .val (.ref b8), .unset, .unset, .unset] [(.int v27_s0), .null, (.ref b8)])) rfl (by rw [hml]; rfl) (Steps.refl _) (argsL := [.null, (.int v27_s0)]) (rest := []) (lenOf pd_0_12 rfl) rfl (by show 2 * 0 + _ ≤ _; exact Nat.le_of_eq rfl) (hb hby at_155) (fun _ _ => ⟨rfl, e15, (by decide : 4 + 0 ≤ _), (by decide : 2768 + 0 ≤ _)⟩)
  dsimp only [Pt.U, Pt.locs, Pt.cells, Pt.slots] at X16 l16 y16 z16 st16 hQ16
  subst l16 y16 z16
  obtain ⟨rfl, N16q, e16⟩ := hQ16
  have N16 := Fr.app N15 N16q
  obtain ⟨cq17, kq17, q17a, q17b, q17c⟩ := isOf hZ e16 Ec13
  obtain ⟨_, _, ⟨T17, L17, k17, n17⟩, -, X17, ⟨Lc17, hQ17, l17, y17, z17⟩, st17⟩ := X16.virtualBack hx (y := (⟨"nephrite/EvaluationException", "line", "()I"⟩ : MethodName)) (z := (⟨"nephrite/EvaluationException", "line", "()I"⟩ : MethodName)) hown (mvT hZ (hw _ (List.mem_of_getElem? (i := 97) rfl))) (mvT hZ (hw _ (List.mem_of_getElem? (i := 98) rfl))) (notFace_of_selects (args := #[]) (mvT hZ (hw _ (List.mem_of_getElem? (i := 100) rfl)))) (mvT hZ (hw _ (List.mem_of_getElem? (i := 100) rfl))) (mvT hZ (hw _ (List.mem_of_getElem? (i := 99) rfl))) (by decide) (backOf (W := 0) (rm14 l Z a0 hw [] b8 v12_s0 T13.heap n0 (Nat.le_trans (Nat.le_trans (Nat.le_trans (Nat.le_trans Z0 E8.1) E9.1) K10c.1) K13c.1) Fc13_0) hZ (hw _ (List.mem_of_getElem? (i := 101) rfl)) (hw _ (List.mem_of_getElem? (i := 36) rfl)) (by decide) (by decide)) q17a q17c (g := (mkF m 202 #[.val (.int p1), .val (.int p2), .val (.int p3), .val (.int p4), .val (.int p5), .val (.int v12_s0), .val (.int v27_s0), .val .null, .val .null, .val (.ref b8), .val (.int (1 : Int32)), .val (.ref b8), .val (.ref b8), .val (.int v12_s0), .val .null] [(.ref b8)])) rfl (by rw [hml]; rfl) (Steps.refl _) (argsL := []) (rest := []) (lenOf pd_0_10 rfl) rfl (by show 2 * 0 + _ ≤ _; exact Nat.le_of_eq rfl) (hb hby at_202) (fun _ _ => ⟨rfl, e16, (by decide : 4 + 0 ≤ _), (by decide : 2768 + 0 ≤ _)⟩)
  dsimp only [Pt.U, Pt.locs, Pt.cells, Pt.slots] at X17 l17 y17 z17 st17 hQ17
  subst l17 y17 z17
  obtain ⟨rfl, N17q, e17⟩ := hQ17
  have N17 := Fr.app N16 N17q
  obtain ⟨cq18, kq18, q18a, q18b, q18c⟩ := isOf hZ e17 Ec13
  obtain ⟨_, _, ⟨T18, L18, k18, n18⟩, -, X18, ⟨Lc18, hQ18, l18, y18, z18⟩, st18⟩ := X17.virtualBack hx (y := (⟨"nephrite/EvaluationException", "templateName", "()Ljava/lang/String;"⟩ : MethodName)) (z := (⟨"nephrite/EvaluationException", "templateName", "()Ljava/lang/String;"⟩ : MethodName)) hown (mvT hZ (hw _ (List.mem_of_getElem? (i := 104) rfl))) (mvT hZ (hw _ (List.mem_of_getElem? (i := 105) rfl))) (notFace_of_selects (args := #[]) (mvT hZ (hw _ (List.mem_of_getElem? (i := 107) rfl)))) (mvT hZ (hw _ (List.mem_of_getElem? (i := 107) rfl))) (mvT hZ (hw _ (List.mem_of_getElem? (i := 106) rfl))) (by decide) (backOf (W := 0) (rm15n l Z a0 hw [] b8  T13.heap n0 (Nat.le_trans (Nat.le_trans (Nat.le_trans (Nat.le_trans Z0 E8.1) E9.1) K10c.1) K13c.1) Fc13_1) hZ (hw _ (List.mem_of_getElem? (i := 108) rfl)) (hw _ (List.mem_of_getElem? (i := 36) rfl)) (by decide) (by decide)) q18a q18c (g := (mkF m 212 #[.val (.int p1), .val (.int p2), .val (.int p3), .val (.int p4), .val (.int p5), .val (.int v12_s0), .val (.int v27_s0), .val .null, .val .null, .val (.ref b8), .val (.int (1 : Int32)), .val (.ref b8), .val (.ref b8), .val (.int v12_s0), .val .null] [(.ref b8)])) rfl (by rw [hml]; rfl) (Steps.refl _) (argsL := []) (rest := []) (lenOf pd_0_11 rfl) rfl (by show 2 * 0 + _ ≤ _; exact Nat.le_of_eq rfl) (hb hby at_212) (fun _ _ => ⟨rfl, e17, (by decide : 4 + 0 ≤ _), (by decide : 2768 + 0 ≤ _)⟩)
  dsimp only [Pt.U, Pt.locs, Pt.cells, Pt.slots] at X18 l18 y18 z18 st18 hQ18
  subst l18 y18 z18
  obtain ⟨rfl, N18q, e18⟩ := hQ18
  have N18 := Fr.app N17 N18q
  obtain ⟨fs, hr, hrun, hended, hRE⟩ := X18.leaveW hS (by rw [e18]; exact (Nat.le_trans (Nat.le_trans hk K10c.1) K13c.1)) (v := some (.int (1 : Int32))) (fun h => by rw [Bd.returns] at h; cases h)
  refine ⟨_, _, pre0 _ ?_, hrun, hended, _, _, rfl, ?_, hRE.1, hRE.2.1, hRE.2.2.1, hRE.2.2.2.mono (by decide) (by decide)⟩
  · show Steps p.tables e below (s₁.setTop (mkF m 0 #[.val (.int p1), .val (.int p2), .val (.int p3), .val (.int p4), .val (.int p5), .unset, .unset, .unset, .unset, .unset, .unset, .unset, .unset, .unset, .unset] [])) _
    refine XS.iload X0.here hx rfl (hb hby at_0) rfl ?_
    show Steps p.tables e below (s₁.setTop (mkF m 2 #[.val (.int p1), .val (.int p2), .val (.int p3), .val (.int p4), .val (.int p5), .unset, .unset, .unset, .unset, .unset, .unset, .unset, .unset, .unset, .unset] [(.int p5)])) _
    refine XS.iconst X0.here hx rfl (hb hby at_2) ?_
    show Steps p.tables e below (s₁.setTop (mkF m 3 #[.val (.int p1), .val (.int p2), .val (.int p3), .val (.int p4), .val (.int p5), .unset, .unset, .unset, .unset, .unset, .unset, .unset, .unset, .unset, .unset] [(.int (1 : Int32)), (.int p5)])) _
    refine XS.iand X0.here hx rfl (hb hby at_3) rfl ?_
    refine sg4 _ ?_
    show Steps p.tables e below (s₁.setTop (mkF m 12 #[.val (.int p1), .val (.int p2), .val (.int p3), .val (.int p4), .val (.int p5), .unset, .unset, .unset, .unset, .unset, .unset, .unset, .unset, .unset, .unset] [(.int v12_s0)])) _
    refine XS.istore X0.here hx rfl (hb hby at_12) rfl (l' := #[.val (.int p1), .val (.int p2), .val (.int p3), .val (.int p4), .val (.int p5), .val (.int v12_s0), .unset, .unset, .unset, .unset, .unset, .unset, .unset, .unset, .unset]) rfl ?_
    show Steps p.tables e below (s₁.setTop (mkF m 14 #[.val (.int p1), .val (.int p2), .val (.int p3), .val (.int p4), .val (.int p5), .val (.int v12_s0), .unset, .unset, .unset, .unset, .unset, .unset, .unset, .unset, .unset] [])) _
    refine XS.iload X0.here hx rfl (hb hby at_14) rfl ?_
    show Steps p.tables e below (s₁.setTop (mkF m 16 #[.val (.int p1), .val (.int p2), .val (.int p3), .val (.int p4), .val (.int p5), .val (.int v12_s0), .unset, .unset, .unset, .unset, .unset, .unset, .unset, .unset, .unset] [(.int p5)])) _
    refine XS.bipush X0.here hx rfl (hb hby at_16) ?_
    show Steps p.tables e below (s₁.setTop (mkF m 18 #[.val (.int p1), .val (.int p2), .val (.int p3), .val (.int p4), .val (.int p5), .val (.int v12_s0), .unset, .unset, .unset, .unset, .unset, .unset, .unset, .unset, .unset] [(.int (8 : Int32)), (.int p5)])) _
    refine XS.iand X0.here hx rfl (hb hby at_18) rfl ?_
    refine sg19 _ ?_
    show Steps p.tables e below (s₁.setTop (mkF m 27 #[.val (.int p1), .val (.int p2), .val (.int p3), .val (.int p4), .val (.int p5), .val (.int v12_s0), .unset, .unset, .unset, .unset, .unset, .unset, .unset, .unset, .unset] [(.int v27_s0)])) _
    refine XS.istore X0.here hx rfl (hb hby at_27) rfl (l' := #[.val (.int p1), .val (.int p2), .val (.int p3), .val (.int p4), .val (.int p5), .val (.int v12_s0), .val (.int v27_s0), .unset, .unset, .unset, .unset, .unset, .unset, .unset, .unset]) rfl ?_
    show Steps p.tables e below (s₁.setTop (mkF m 29 #[.val (.int p1), .val (.int p2), .val (.int p3), .val (.int p4), .val (.int p5), .val (.int v12_s0), .val (.int v27_s0), .unset, .unset, .unset, .unset, .unset, .unset, .unset, .unset] [])) _
    refine XS.iloadN X0.here hx rfl (hb hby at_29) rfl ?_
    show Steps p.tables e below (s₁.setTop (mkF m 30 #[.val (.int p1), .val (.int p2), .val (.int p3), .val (.int p4), .val (.int p5), .val (.int v12_s0), .val (.int v27_s0), .unset, .unset, .unset, .unset, .unset, .unset, .unset, .unset] [(.int p3)])) _
    refine XS.iload X0.here hx rfl (hb hby at_30) rfl ?_
    show Steps p.tables e below (s₁.setTop (mkF m 32 #[.val (.int p1), .val (.int p2), .val (.int p3), .val (.int p4), .val (.int p5), .val (.int v12_s0), .val (.int v27_s0), .unset, .unset, .unset, .unset, .unset, .unset, .unset, .unset] [(.int p5), (.int p3)])) _
    refine XS.iconst X0.here hx rfl (hb hby at_32) ?_
    show Steps p.tables e below (s₁.setTop (mkF m 33 #[.val (.int p1), .val (.int p2), .val (.int p3), .val (.int p4), .val (.int p5), .val (.int v12_s0), .val (.int v27_s0), .unset, .unset, .unset, .unset, .unset, .unset, .unset, .unset] [(.int (2 : Int32)), (.int p5), (.int p3)])) _
    refine XS.iand X0.here hx rfl (hb hby at_33) rfl ?_
    show Steps p.tables e below (s₁.setTop (mkF m 34 #[.val (.int p1), .val (.int p2), .val (.int p3), .val (.int p4), .val (.int p5), .val (.int v12_s0), .val (.int v27_s0), .unset, .unset, .unset, .unset, .unset, .unset, .unset, .unset] [(.int (p5 &&& (2 : Int32))), (.int p3)])) _
    refine XS.ifNo X0.here hx rfl (hb hby at_34) rfl ((if0 _ _).trans (feq hc34).1) ?_
    show Steps p.tables e below (s₁.setTop (mkF m 37 #[.val (.int p1), .val (.int p2), .val (.int p3), .val (.int p4), .val (.int p5), .val (.int v12_s0), .val (.int v27_s0), .unset, .unset, .unset, .unset, .unset, .unset, .unset, .unset] [(.int p3)])) _
    refine XS.iconst X0.here hx rfl (hb hby at_37) ?_
    show Steps p.tables e below (s₁.setTop (mkF m 38 #[.val (.int p1), .val (.int p2), .val (.int p3), .val (.int p4), .val (.int p5), .val (.int v12_s0), .val (.int v27_s0), .unset, .unset, .unset, .unset, .unset, .unset, .unset, .unset] [(.int (1 : Int32)), (.int p3)])) _
    refine XS.goto X0.here hx rfl (pc0 := 38) (pc' := 42) rfl (hb hby at_38) (by decide) (by decide) ?_
    show Steps p.tables e below (s₁.setTop (mkF m 42 #[.val (.int p1), .val (.int p2), .val (.int p3), .val (.int p4), .val (.int p5), .val (.int v12_s0), .val (.int v27_s0), .unset, .unset, .unset, .unset, .unset, .unset, .unset, .unset] [(.int (1 : Int32)), (.int p3)])) _
    refine st6 _ ?_
    show Steps p.tables e below (T6.setTop (mkF m 45 #[.val (.int p1), .val (.int p2), .val (.int p3), .val (.int p4), .val (.int p5), .val (.int v12_s0), .val (.int v27_s0), .unset, .unset, .unset, .unset, .unset, .unset, .unset, .unset] [.null])) _
    refine XS.astore X6.here hx rfl (hb hby at_45) rfl rfl (l' := #[.val (.int p1), .val (.int p2), .val (.int p3), .val (.int p4), .val (.int p5), .val (.int v12_s0), .val (.int v27_s0), .val .null, .unset, .unset, .unset, .unset, .unset, .unset, .unset]) rfl ?_
    show Steps p.tables e below (T6.setTop (mkF m 47 #[.val (.int p1), .val (.int p2), .val (.int p3), .val (.int p4), .val (.int p5), .val (.int v12_s0), .val (.int v27_s0), .val .null, .unset, .unset, .unset, .unset, .unset, .unset, .unset] [])) _
    refine XS.iloadN X6.here hx rfl (hb hby at_47) rfl ?_
    show Steps p.tables e below (T6.setTop (mkF m 48 #[.val (.int p1), .val (.int p2), .val (.int p3), .val (.int p4), .val (.int p5), .val (.int v12_s0), .val (.int v27_s0), .val .null, .unset, .unset, .unset, .unset, .unset, .unset, .unset] [(.int p4)])) _
    refine XS.iload X6.here hx rfl (hb hby at_48) rfl ?_
    show Steps p.tables e below (T6.setTop (mkF m 50 #[.val (.int p1), .val (.int p2), .val (.int p3), .val (.int p4), .val (.int p5), .val (.int v12_s0), .val (.int v27_s0), .val .null, .unset, .unset, .unset, .unset, .unset, .unset, .unset] [(.int p5), (.int p4)])) _
    refine XS.iconst X6.here hx rfl (hb hby at_50) ?_
    show Steps p.tables e below (T6.setTop (mkF m 51 #[.val (.int p1), .val (.int p2), .val (.int p3), .val (.int p4), .val (.int p5), .val (.int v12_s0), .val (.int v27_s0), .val .null, .unset, .unset, .unset, .unset, .unset, .unset, .unset] [(.int (4 : Int32)), (.int p5), (.int p4)])) _
    refine XS.iand X6.here hx rfl (hb hby at_51) rfl ?_
    show Steps p.tables e below (T6.setTop (mkF m 52 #[.val (.int p1), .val (.int p2), .val (.int p3), .val (.int p4), .val (.int p5), .val (.int v12_s0), .val (.int v27_s0), .val .null, .unset, .unset, .unset, .unset, .unset, .unset, .unset] [(.int (p5 &&& (4 : Int32))), (.int p4)])) _
    refine XS.ifNo X6.here hx rfl (hb hby at_52) rfl ((if0 _ _).trans (feq hc52).1) ?_
    show Steps p.tables e below (T6.setTop (mkF m 55 #[.val (.int p1), .val (.int p2), .val (.int p3), .val (.int p4), .val (.int p5), .val (.int v12_s0), .val (.int v27_s0), .val .null, .unset, .unset, .unset, .unset, .unset, .unset, .unset] [(.int p4)])) _
    refine XS.iconst X6.here hx rfl (hb hby at_55) ?_
    show Steps p.tables e below (T6.setTop (mkF m 56 #[.val (.int p1), .val (.int p2), .val (.int p3), .val (.int p4), .val (.int p5), .val (.int v12_s0), .val (.int v27_s0), .val .null, .unset, .unset, .unset, .unset, .unset, .unset, .unset] [(.int (1 : Int32)), (.int p4)])) _
    refine XS.goto X6.here hx rfl (pc0 := 56) (pc' := 60) rfl (hb hby at_56) (by decide) (by decide) ?_
    show Steps p.tables e below (T6.setTop (mkF m 60 #[.val (.int p1), .val (.int p2), .val (.int p3), .val (.int p4), .val (.int p5), .val (.int v12_s0), .val (.int v27_s0), .val .null, .unset, .unset, .unset, .unset, .unset, .unset, .unset] [(.int (1 : Int32)), (.int p4)])) _
    refine st7 _ ?_
    show Steps p.tables e below (T7.setTop (mkF m 63 #[.val (.int p1), .val (.int p2), .val (.int p3), .val (.int p4), .val (.int p5), .val (.int v12_s0), .val (.int v27_s0), .val .null, .unset, .unset, .unset, .unset, .unset, .unset, .unset] [.null])) _
    refine XS.astore X7.here hx rfl (hb hby at_63) rfl rfl (l' := #[.val (.int p1), .val (.int p2), .val (.int p3), .val (.int p4), .val (.int p5), .val (.int v12_s0), .val (.int v27_s0), .val .null, .val .null, .unset, .unset, .unset, .unset, .unset, .unset]) rfl ?_
    show Steps p.tables e below (T7.setTop (mkF m 65 #[.val (.int p1), .val (.int p2), .val (.int p3), .val (.int p4), .val (.int p5), .val (.int v12_s0), .val (.int v27_s0), .val .null, .val .null, .unset, .unset, .unset, .unset, .unset, .unset] [])) _
    refine st8 _ ?_
    show Steps p.tables e below (T8.setTop (mkF m 68 #[.val (.int p1), .val (.int p2), .val (.int p3), .val (.int p4), .val (.int p5), .val (.int v12_s0), .val (.int v27_s0), .val .null, .val .null, .unset, .unset, .unset, .unset, .unset, .unset] [(.ref b8)])) _
    refine XS.dup X8.here hx rfl (hb hby at_68) rfl rfl ?_
    show Steps p.tables e below (T8.setTop (mkF m 69 #[.val (.int p1), .val (.int p2), .val (.int p3), .val (.int p4), .val (.int p5), .val (.int v12_s0), .val (.int v27_s0), .val .null, .val .null, .unset, .unset, .unset, .unset, .unset, .unset] [(.ref b8), (.ref b8)])) _
    refine st9 _ ?_
    show Steps p.tables e below (T9.setTop (mkF m 71 #[.val (.int p1), .val (.int p2), .val (.int p3), .val (.int p4), .val (.int p5), .val (.int v12_s0), .val (.int v27_s0), .val .null, .val .null, .unset, .unset, .unset, .unset, .unset, .unset] [(.ref b9), (.ref b8), (.ref b8)])) _
    refine st10.trans ?_
    show Steps p.tables e below (T10.setTop (mkF m 74 #[.val (.int p1), .val (.int p2), .val (.int p3), .val (.int p4), .val (.int p5), .val (.int v12_s0), .val (.int v27_s0), .val .null, .val .null, .unset, .unset, .unset, .unset, .unset, .unset] [(.ref b8)])) _
    refine XS.astore X10.here hx rfl (hb hby at_74) rfl rfl (l' := #[.val (.int p1), .val (.int p2), .val (.int p3), .val (.int p4), .val (.int p5), .val (.int v12_s0), .val (.int v27_s0), .val .null, .val .null, .val (.ref b8), .unset, .unset, .unset, .unset, .unset]) rfl ?_
    show Steps p.tables e below (T10.setTop (mkF m 76 #[.val (.int p1), .val (.int p2), .val (.int p3), .val (.int p4), .val (.int p5), .val (.int v12_s0), .val (.int v27_s0), .val .null, .val .null, .val (.ref b8), .unset, .unset, .unset, .unset, .unset] [])) _
    refine XS.aload X10.here hx rfl (hb hby at_76) rfl rfl ?_
    show Steps p.tables e below (T10.setTop (mkF m 78 #[.val (.int p1), .val (.int p2), .val (.int p3), .val (.int p4), .val (.int p5), .val (.int v12_s0), .val (.int v27_s0), .val .null, .val .null, .val (.ref b8), .unset, .unset, .unset, .unset, .unset] [(.ref b8)])) _
    refine st11.trans ?_
    show Steps p.tables e below (T11.setTop (mkF m 81 #[.val (.int p1), .val (.int p2), .val (.int p3), .val (.int p4), .val (.int p5), .val (.int v12_s0), .val (.int v27_s0), .val .null, .val .null, .val (.ref b8), .unset, .unset, .unset, .unset, .unset] [(.int (0 : Int32))])) _
    refine XS.ifNo X11.here hx rfl (hb hby at_81) rfl ((if0 _ _).trans (teq (rfl : (0 : Int32) = (0 : Int32))).2) ?_
    show Steps p.tables e below (T11.setTop (mkF m 84 #[.val (.int p1), .val (.int p2), .val (.int p3), .val (.int p4), .val (.int p5), .val (.int v12_s0), .val (.int v27_s0), .val .null, .val .null, .val (.ref b8), .unset, .unset, .unset, .unset, .unset] [])) _
    refine XS.aload X11.here hx rfl (hb hby at_84) rfl rfl ?_
    show Steps p.tables e below (T11.setTop (mkF m 86 #[.val (.int p1), .val (.int p2), .val (.int p3), .val (.int p4), .val (.int p5), .val (.int v12_s0), .val (.int v27_s0), .val .null, .val .null, .val (.ref b8), .unset, .unset, .unset, .unset, .unset] [(.ref b8)])) _
    refine st12.trans ?_
    show Steps p.tables e below (T12.setTop (mkF m 89 #[.val (.int p1), .val (.int p2), .val (.int p3), .val (.int p4), .val (.int p5), .val (.int v12_s0), .val (.int v27_s0), .val .null, .val .null, .val (.ref b8), .unset, .unset, .unset, .unset, .unset] [.null])) _
    refine XS.ifnonnullNo X12.here hx rfl (hb hby at_89) rfl ?_
    show Steps p.tables e below (T12.setTop (mkF m 92 #[.val (.int p1), .val (.int p2), .val (.int p3), .val (.int p4), .val (.int p5), .val (.int v12_s0), .val (.int v27_s0), .val .null, .val .null, .val (.ref b8), .unset, .unset, .unset, .unset, .unset] [])) _
    refine XS.iconst X12.here hx rfl (hb hby at_92) ?_
    show Steps p.tables e below (T12.setTop (mkF m 93 #[.val (.int p1), .val (.int p2), .val (.int p3), .val (.int p4), .val (.int p5), .val (.int v12_s0), .val (.int v27_s0), .val .null, .val .null, .val (.ref b8), .unset, .unset, .unset, .unset, .unset] [(.int (1 : Int32))])) _
    refine XS.goto X12.here hx rfl (pc0 := 93) (pc' := 97) rfl (hb hby at_93) (by decide) (by decide) ?_
    show Steps p.tables e below (T12.setTop (mkF m 97 #[.val (.int p1), .val (.int p2), .val (.int p3), .val (.int p4), .val (.int p5), .val (.int v12_s0), .val (.int v27_s0), .val .null, .val .null, .val (.ref b8), .unset, .unset, .unset, .unset, .unset] [(.int (1 : Int32))])) _
    refine XS.istore X12.here hx rfl (hb hby at_97) rfl (l' := #[.val (.int p1), .val (.int p2), .val (.int p3), .val (.int p4), .val (.int p5), .val (.int v12_s0), .val (.int v27_s0), .val .null, .val .null, .val (.ref b8), .val (.int (1 : Int32)), .unset, .unset, .unset, .unset]) rfl ?_
    show Steps p.tables e below (T12.setTop (mkF m 99 #[.val (.int p1), .val (.int p2), .val (.int p3), .val (.int p4), .val (.int p5), .val (.int v12_s0), .val (.int v27_s0), .val .null, .val .null, .val (.ref b8), .val (.int (1 : Int32)), .unset, .unset, .unset, .unset] [])) _
    refine XS.aload X12.here hx rfl (hb hby at_99) rfl rfl ?_
    show Steps p.tables e below (T12.setTop (mkF m 101 #[.val (.int p1), .val (.int p2), .val (.int p3), .val (.int p4), .val (.int p5), .val (.int v12_s0), .val (.int v27_s0), .val .null, .val .null, .val (.ref b8), .val (.int (1 : Int32)), .unset, .unset, .unset, .unset] [(.ref b8)])) _
    refine XS.aload X12.here hx rfl (hb hby at_101) rfl rfl ?_
    show Steps p.tables e below (T12.setTop (mkF m 103 #[.val (.int p1), .val (.int p2), .val (.int p3), .val (.int p4), .val (.int p5), .val (.int v12_s0), .val (.int v27_s0), .val .null, .val .null, .val (.ref b8), .val (.int (1 : Int32)), .unset, .unset, .unset, .unset] [.null, (.ref b8)])) _
    refine XS.iload X12.here hx rfl (hb hby at_103) rfl ?_
    show Steps p.tables e below (T12.setTop (mkF m 105 #[.val (.int p1), .val (.int p2), .val (.int p3), .val (.int p4), .val (.int p5), .val (.int v12_s0), .val (.int v27_s0), .val .null, .val .null, .val (.ref b8), .val (.int (1 : Int32)), .unset, .unset, .unset, .unset] [(.int v12_s0), .null, (.ref b8)])) _
    refine st13.trans ?_
    show Steps p.tables e below (T13.setTop (mkF m 108 #[.val (.int p1), .val (.int p2), .val (.int p3), .val (.int p4), .val (.int p5), .val (.int v12_s0), .val (.int v27_s0), .val .null, .val .null, .val (.ref b8), .val (.int (1 : Int32)), .unset, .unset, .unset, .unset] [(.ref b8)])) _
    refine XS.astore X13.here hx rfl (hb hby at_108) rfl rfl (l' := #[.val (.int p1), .val (.int p2), .val (.int p3), .val (.int p4), .val (.int p5), .val (.int v12_s0), .val (.int v27_s0), .val .null, .val .null, .val (.ref b8), .val (.int (1 : Int32)), .val (.ref b8), .unset, .unset, .unset]) rfl ?_
    show Steps p.tables e below (T13.setTop (mkF m 110 #[.val (.int p1), .val (.int p2), .val (.int p3), .val (.int p4), .val (.int p5), .val (.int v12_s0), .val (.int v27_s0), .val .null, .val .null, .val (.ref b8), .val (.int (1 : Int32)), .val (.ref b8), .unset, .unset, .unset] [])) _
    refine XS.iload X13.here hx rfl (hb hby at_110) rfl ?_
    show Steps p.tables e below (T13.setTop (mkF m 112 #[.val (.int p1), .val (.int p2), .val (.int p3), .val (.int p4), .val (.int p5), .val (.int v12_s0), .val (.int v27_s0), .val .null, .val .null, .val (.ref b8), .val (.int (1 : Int32)), .val (.ref b8), .unset, .unset, .unset] [(.int (1 : Int32))])) _
    refine XS.ifNo X13.here hx rfl (hb hby at_112) rfl ((if0 _ _).trans (feq (by decide : ¬ ((1 : Int32) = (0 : Int32)))).1) ?_
    show Steps p.tables e below (T13.setTop (mkF m 115 #[.val (.int p1), .val (.int p2), .val (.int p3), .val (.int p4), .val (.int p5), .val (.int v12_s0), .val (.int v27_s0), .val .null, .val .null, .val (.ref b8), .val (.int (1 : Int32)), .val (.ref b8), .unset, .unset, .unset] [])) _
    refine XS.aload X13.here hx rfl (hb hby at_115) rfl rfl ?_
    show Steps p.tables e below (T13.setTop (mkF m 117 #[.val (.int p1), .val (.int p2), .val (.int p3), .val (.int p4), .val (.int p5), .val (.int v12_s0), .val (.int v27_s0), .val .null, .val .null, .val (.ref b8), .val (.int (1 : Int32)), .val (.ref b8), .unset, .unset, .unset] [(.ref b8)])) _
    refine XS.aload X13.here hx rfl (hb hby at_117) rfl rfl ?_
    show Steps p.tables e below (T13.setTop (mkF m 119 #[.val (.int p1), .val (.int p2), .val (.int p3), .val (.int p4), .val (.int p5), .val (.int v12_s0), .val (.int v27_s0), .val .null, .val .null, .val (.ref b8), .val (.int (1 : Int32)), .val (.ref b8), .unset, .unset, .unset] [(.ref b8), (.ref b8)])) _
    refine Jvm.RoadKit.acmp (g := (mkF m 119 #[.val (.int p1), .val (.int p2), .val (.int p3), .val (.int p4), .val (.int p5), .val (.int v12_s0), .val (.int v27_s0), .val .null, .val .null, .val (.ref b8), .val (.int (1 : Int32)), .val (.ref b8), .unset, .unset, .unset] [(.ref b8), (.ref b8)])) X13 hx rfl rfl rfl (pc0 := 119) (pc' := 122) (same := true) rfl (hb hby at_119) rfl (decide_eq_true rfl) (by decide) (by decide) ?_
    show Steps p.tables e below (T13.setTop (mkF m 122 #[.val (.int p1), .val (.int p2), .val (.int p3), .val (.int p4), .val (.int p5), .val (.int v12_s0), .val (.int v27_s0), .val .null, .val .null, .val (.ref b8), .val (.int (1 : Int32)), .val (.ref b8), .unset, .unset, .unset] [])) _
    refine XS.aload X13.here hx rfl (hb hby at_122) rfl rfl ?_
    show Steps p.tables e below (T13.setTop (mkF m 124 #[.val (.int p1), .val (.int p2), .val (.int p3), .val (.int p4), .val (.int p5), .val (.int v12_s0), .val (.int v27_s0), .val .null, .val .null, .val (.ref b8), .val (.int (1 : Int32)), .val (.ref b8), .unset, .unset, .unset] [(.ref b8)])) _
    refine st14.trans ?_
    show Steps p.tables e below (T14.setTop (mkF m 127 #[.val (.int p1), .val (.int p2), .val (.int p3), .val (.int p4), .val (.int p5), .val (.int v12_s0), .val (.int v27_s0), .val .null, .val .null, .val (.ref b8), .val (.int (1 : Int32)), .val (.ref b8), .unset, .unset, .unset] [(.int v12_s0)])) _
    refine XS.iload X14.here hx rfl (hb hby at_127) rfl ?_
    show Steps p.tables e below (T14.setTop (mkF m 129 #[.val (.int p1), .val (.int p2), .val (.int p3), .val (.int p4), .val (.int p5), .val (.int v12_s0), .val (.int v27_s0), .val .null, .val .null, .val (.ref b8), .val (.int (1 : Int32)), .val (.ref b8), .unset, .unset, .unset] [(.int v12_s0), (.int v12_s0)])) _
    refine XS.icmpNo X14.here hx rfl (hb hby at_129) rfl (teq (rfl : v12_s0 = v12_s0)).2 ?_
    show Steps p.tables e below (T14.setTop (mkF m 132 #[.val (.int p1), .val (.int p2), .val (.int p3), .val (.int p4), .val (.int p5), .val (.int v12_s0), .val (.int v27_s0), .val .null, .val .null, .val (.ref b8), .val (.int (1 : Int32)), .val (.ref b8), .unset, .unset, .unset] [])) _
    refine XS.aload X14.here hx rfl (hb hby at_132) rfl rfl ?_
    show Steps p.tables e below (T14.setTop (mkF m 134 #[.val (.int p1), .val (.int p2), .val (.int p3), .val (.int p4), .val (.int p5), .val (.int v12_s0), .val (.int v27_s0), .val .null, .val .null, .val (.ref b8), .val (.int (1 : Int32)), .val (.ref b8), .unset, .unset, .unset] [(.ref b8)])) _
    refine st15.trans ?_
    show Steps p.tables e below (T15.setTop (mkF m 137 #[.val (.int p1), .val (.int p2), .val (.int p3), .val (.int p4), .val (.int p5), .val (.int v12_s0), .val (.int v27_s0), .val .null, .val .null, .val (.ref b8), .val (.int (1 : Int32)), .val (.ref b8), .unset, .unset, .unset] [.null])) _
    refine XS.aload X15.here hx rfl (hb hby at_137) rfl rfl ?_
    show Steps p.tables e below (T15.setTop (mkF m 139 #[.val (.int p1), .val (.int p2), .val (.int p3), .val (.int p4), .val (.int p5), .val (.int v12_s0), .val (.int v27_s0), .val .null, .val .null, .val (.ref b8), .val (.int (1 : Int32)), .val (.ref b8), .unset, .unset, .unset] [.null, .null])) _
    refine Jvm.RoadKit.acmp (g := (mkF m 139 #[.val (.int p1), .val (.int p2), .val (.int p3), .val (.int p4), .val (.int p5), .val (.int v12_s0), .val (.int v27_s0), .val .null, .val .null, .val (.ref b8), .val (.int (1 : Int32)), .val (.ref b8), .unset, .unset, .unset] [.null, .null])) X15 hx rfl rfl rfl (pc0 := 139) (pc' := 142) (same := true) rfl (hb hby at_139) rfl (decide_eq_true rfl) (by decide) (by decide) ?_
    show Steps p.tables e below (T15.setTop (mkF m 142 #[.val (.int p1), .val (.int p2), .val (.int p3), .val (.int p4), .val (.int p5), .val (.int v12_s0), .val (.int v27_s0), .val .null, .val .null, .val (.ref b8), .val (.int (1 : Int32)), .val (.ref b8), .unset, .unset, .unset] [])) _
    refine XS.iconst X15.here hx rfl (hb hby at_142) ?_
    show Steps p.tables e below (T15.setTop (mkF m 143 #[.val (.int p1), .val (.int p2), .val (.int p3), .val (.int p4), .val (.int p5), .val (.int v12_s0), .val (.int v27_s0), .val .null, .val .null, .val (.ref b8), .val (.int (1 : Int32)), .val (.ref b8), .unset, .unset, .unset] [(.int (1 : Int32))])) _
    refine XS.goto X15.here hx rfl (pc0 := 143) (pc' := 147) rfl (hb hby at_143) (by decide) (by decide) ?_
    show Steps p.tables e below (T15.setTop (mkF m 147 #[.val (.int p1), .val (.int p2), .val (.int p3), .val (.int p4), .val (.int p5), .val (.int v12_s0), .val (.int v27_s0), .val .null, .val .null, .val (.ref b8), .val (.int (1 : Int32)), .val (.ref b8), .unset, .unset, .unset] [(.int (1 : Int32))])) _
    refine XS.istore X15.here hx rfl (hb hby at_147) rfl (l' := #[.val (.int p1), .val (.int p2), .val (.int p3), .val (.int p4), .val (.int p5), .val (.int v12_s0), .val (.int v27_s0), .val .null, .val .null, .val (.ref b8), .val (.int (1 : Int32)), .val (.ref b8), .unset, .unset, .unset]) rfl ?_
    show Steps p.tables e below (T15.setTop (mkF m 149 #[.val (.int p1), .val (.int p2), .val (.int p3), .val (.int p4), .val (.int p5), .val (.int v12_s0), .val (.int v27_s0), .val .null, .val .null, .val (.ref b8), .val (.int (1 : Int32)), .val (.ref b8), .unset, .unset, .unset] [])) _
    refine XS.aload X15.here hx rfl (hb hby at_149) rfl rfl ?_
    show Steps p.tables e below (T15.setTop (mkF m 151 #[.val (.int p1), .val (.int p2), .val (.int p3), .val (.int p4), .val (.int p5), .val (.int v12_s0), .val (.int v27_s0), .val .null, .val .null, .val (.ref b8), .val (.int (1 : Int32)), .val (.ref b8), .unset, .unset, .unset] [(.ref b8)])) _
    refine XS.aload X15.here hx rfl (hb hby at_151) rfl rfl ?_
    show Steps p.tables e below (T15.setTop (mkF m 153 #[.val (.int p1), .val (.int p2), .val (.int p3), .val (.int p4), .val (.int p5), .val (.int v12_s0), .val (.int v27_s0), .val .null, .val .null, .val (.ref b8), .val (.int (1 : Int32)), .val (.ref b8), .unset, .unset, .unset] [.null, (.ref b8)])) _
    refine XS.iload X15.here hx rfl (hb hby at_153) rfl ?_
    show Steps p.tables e below (T15.setTop (mkF m 155 #[.val (.int p1), .val (.int p2), .val (.int p3), .val (.int p4), .val (.int p5), .val (.int v12_s0), .val (.int v27_s0), .val .null, .val .null, .val (.ref b8), .val (.int (1 : Int32)), .val (.ref b8), .unset, .unset, .unset] [(.int v27_s0), .null, (.ref b8)])) _
    refine st16.trans ?_
    show Steps p.tables e below (T16.setTop (mkF m 158 #[.val (.int p1), .val (.int p2), .val (.int p3), .val (.int p4), .val (.int p5), .val (.int v12_s0), .val (.int v27_s0), .val .null, .val .null, .val (.ref b8), .val (.int (1 : Int32)), .val (.ref b8), .unset, .unset, .unset] [(.ref b8)])) _
    refine XS.astore X16.here hx rfl (hb hby at_158) rfl rfl (l' := #[.val (.int p1), .val (.int p2), .val (.int p3), .val (.int p4), .val (.int p5), .val (.int v12_s0), .val (.int v27_s0), .val .null, .val .null, .val (.ref b8), .val (.int (1 : Int32)), .val (.ref b8), .val (.ref b8), .unset, .unset]) rfl ?_
    show Steps p.tables e below (T16.setTop (mkF m 160 #[.val (.int p1), .val (.int p2), .val (.int p3), .val (.int p4), .val (.int p5), .val (.int v12_s0), .val (.int v27_s0), .val .null, .val .null, .val (.ref b8), .val (.int (1 : Int32)), .val (.ref b8), .val (.ref b8), .unset, .unset] [])) _
    refine XS.iload X16.here hx rfl (hb hby at_160) rfl ?_
    show Steps p.tables e below (T16.setTop (mkF m 162 #[.val (.int p1), .val (.int p2), .val (.int p3), .val (.int p4), .val (.int p5), .val (.int v12_s0), .val (.int v27_s0), .val .null, .val .null, .val (.ref b8), .val (.int (1 : Int32)), .val (.ref b8), .val (.ref b8), .unset, .unset] [(.int v12_s0)])) _
    refine XS.ifYes X16.here hx rfl (pc0 := 162) (pc' := 170) rfl (hb hby at_162) rfl ((if0 _ _).trans (feq hc162).2) (by decide) (by decide) ?_
    show Steps p.tables e below (T16.setTop (mkF m 170 #[.val (.int p1), .val (.int p2), .val (.int p3), .val (.int p4), .val (.int p5), .val (.int v12_s0), .val (.int v27_s0), .val .null, .val .null, .val (.ref b8), .val (.int (1 : Int32)), .val (.ref b8), .val (.ref b8), .unset, .unset] [])) _
    refine XS.iload X16.here hx rfl (hb hby at_170) rfl ?_
    show Steps p.tables e below (T16.setTop (mkF m 172 #[.val (.int p1), .val (.int p2), .val (.int p3), .val (.int p4), .val (.int p5), .val (.int v12_s0), .val (.int v27_s0), .val .null, .val .null, .val (.ref b8), .val (.int (1 : Int32)), .val (.ref b8), .val (.ref b8), .unset, .unset] [(.int v12_s0)])) _
    refine XS.istore X16.here hx rfl (hb hby at_172) rfl (l' := #[.val (.int p1), .val (.int p2), .val (.int p3), .val (.int p4), .val (.int p5), .val (.int v12_s0), .val (.int v27_s0), .val .null, .val .null, .val (.ref b8), .val (.int (1 : Int32)), .val (.ref b8), .val (.ref b8), .val (.int v12_s0), .unset]) rfl ?_
    show Steps p.tables e below (T16.setTop (mkF m 174 #[.val (.int p1), .val (.int p2), .val (.int p3), .val (.int p4), .val (.int p5), .val (.int v12_s0), .val (.int v27_s0), .val .null, .val .null, .val (.ref b8), .val (.int (1 : Int32)), .val (.ref b8), .val (.ref b8), .val (.int v12_s0), .unset] [])) _
    refine XS.iload X16.here hx rfl (hb hby at_174) rfl ?_
    show Steps p.tables e below (T16.setTop (mkF m 176 #[.val (.int p1), .val (.int p2), .val (.int p3), .val (.int p4), .val (.int p5), .val (.int v12_s0), .val (.int v27_s0), .val .null, .val .null, .val (.ref b8), .val (.int (1 : Int32)), .val (.ref b8), .val (.ref b8), .val (.int v12_s0), .unset] [(.int v12_s0)])) _
    refine XS.ifYes X16.here hx rfl (pc0 := 176) (pc' := 184) rfl (hb hby at_176) rfl ((if0 _ _).trans (feq hc176).2) (by decide) (by decide) ?_
    show Steps p.tables e below (T16.setTop (mkF m 184 #[.val (.int p1), .val (.int p2), .val (.int p3), .val (.int p4), .val (.int p5), .val (.int v12_s0), .val (.int v27_s0), .val .null, .val .null, .val (.ref b8), .val (.int (1 : Int32)), .val (.ref b8), .val (.ref b8), .val (.int v12_s0), .unset] [])) _
    refine XS.aload X16.here hx rfl (hb hby at_184) rfl rfl ?_
    show Steps p.tables e below (T16.setTop (mkF m 186 #[.val (.int p1), .val (.int p2), .val (.int p3), .val (.int p4), .val (.int p5), .val (.int v12_s0), .val (.int v27_s0), .val .null, .val .null, .val (.ref b8), .val (.int (1 : Int32)), .val (.ref b8), .val (.ref b8), .val (.int v12_s0), .unset] [.null])) _
    refine XS.astore X16.here hx rfl (hb hby at_186) rfl rfl (l' := #[.val (.int p1), .val (.int p2), .val (.int p3), .val (.int p4), .val (.int p5), .val (.int v12_s0), .val (.int v27_s0), .val .null, .val .null, .val (.ref b8), .val (.int (1 : Int32)), .val (.ref b8), .val (.ref b8), .val (.int v12_s0), .val .null]) rfl ?_
    show Steps p.tables e below (T16.setTop (mkF m 188 #[.val (.int p1), .val (.int p2), .val (.int p3), .val (.int p4), .val (.int p5), .val (.int v12_s0), .val (.int v27_s0), .val .null, .val .null, .val (.ref b8), .val (.int (1 : Int32)), .val (.ref b8), .val (.ref b8), .val (.int v12_s0), .val .null] [])) _
    refine XS.iload X16.here hx rfl (hb hby at_188) rfl ?_
    show Steps p.tables e below (T16.setTop (mkF m 190 #[.val (.int p1), .val (.int p2), .val (.int p3), .val (.int p4), .val (.int p5), .val (.int v12_s0), .val (.int v27_s0), .val .null, .val .null, .val (.ref b8), .val (.int (1 : Int32)), .val (.ref b8), .val (.ref b8), .val (.int v12_s0), .val .null] [(.int (1 : Int32))])) _
    refine XS.ifNo X16.here hx rfl (hb hby at_190) rfl ((if0 _ _).trans (feq (by decide : ¬ ((1 : Int32) = (0 : Int32)))).1) ?_
    show Steps p.tables e below (T16.setTop (mkF m 193 #[.val (.int p1), .val (.int p2), .val (.int p3), .val (.int p4), .val (.int p5), .val (.int v12_s0), .val (.int v27_s0), .val .null, .val .null, .val (.ref b8), .val (.int (1 : Int32)), .val (.ref b8), .val (.ref b8), .val (.int v12_s0), .val .null] [])) _
    refine XS.aload X16.here hx rfl (hb hby at_193) rfl rfl ?_
    show Steps p.tables e below (T16.setTop (mkF m 195 #[.val (.int p1), .val (.int p2), .val (.int p3), .val (.int p4), .val (.int p5), .val (.int v12_s0), .val (.int v27_s0), .val .null, .val .null, .val (.ref b8), .val (.int (1 : Int32)), .val (.ref b8), .val (.ref b8), .val (.int v12_s0), .val .null] [(.ref b8)])) _
    refine XS.aload X16.here hx rfl (hb hby at_195) rfl rfl ?_
    show Steps p.tables e below (T16.setTop (mkF m 197 #[.val (.int p1), .val (.int p2), .val (.int p3), .val (.int p4), .val (.int p5), .val (.int v12_s0), .val (.int v27_s0), .val .null, .val .null, .val (.ref b8), .val (.int (1 : Int32)), .val (.ref b8), .val (.ref b8), .val (.int v12_s0), .val .null] [(.ref b8), (.ref b8)])) _
    refine Jvm.RoadKit.acmp (g := (mkF m 197 #[.val (.int p1), .val (.int p2), .val (.int p3), .val (.int p4), .val (.int p5), .val (.int v12_s0), .val (.int v27_s0), .val .null, .val .null, .val (.ref b8), .val (.int (1 : Int32)), .val (.ref b8), .val (.ref b8), .val (.int v12_s0), .val .null] [(.ref b8), (.ref b8)])) X16 hx rfl rfl rfl (pc0 := 197) (pc' := 200) (same := true) rfl (hb hby at_197) rfl (decide_eq_true rfl) (by decide) (by decide) ?_
    show Steps p.tables e below (T16.setTop (mkF m 200 #[.val (.int p1), .val (.int p2), .val (.int p3), .val (.int p4), .val (.int p5), .val (.int v12_s0), .val (.int v27_s0), .val .null, .val .null, .val (.ref b8), .val (.int (1 : Int32)), .val (.ref b8), .val (.ref b8), .val (.int v12_s0), .val .null] [])) _
    refine XS.aload X16.here hx rfl (hb hby at_200) rfl rfl ?_
    show Steps p.tables e below (T16.setTop (mkF m 202 #[.val (.int p1), .val (.int p2), .val (.int p3), .val (.int p4), .val (.int p5), .val (.int v12_s0), .val (.int v27_s0), .val .null, .val .null, .val (.ref b8), .val (.int (1 : Int32)), .val (.ref b8), .val (.ref b8), .val (.int v12_s0), .val .null] [(.ref b8)])) _
    refine st17.trans ?_
    show Steps p.tables e below (T17.setTop (mkF m 205 #[.val (.int p1), .val (.int p2), .val (.int p3), .val (.int p4), .val (.int p5), .val (.int v12_s0), .val (.int v27_s0), .val .null, .val .null, .val (.ref b8), .val (.int (1 : Int32)), .val (.ref b8), .val (.ref b8), .val (.int v12_s0), .val .null] [(.int v12_s0)])) _
    refine XS.iload X17.here hx rfl (hb hby at_205) rfl ?_
    show Steps p.tables e below (T17.setTop (mkF m 207 #[.val (.int p1), .val (.int p2), .val (.int p3), .val (.int p4), .val (.int p5), .val (.int v12_s0), .val (.int v27_s0), .val .null, .val .null, .val (.ref b8), .val (.int (1 : Int32)), .val (.ref b8), .val (.ref b8), .val (.int v12_s0), .val .null] [(.int v12_s0), (.int v12_s0)])) _
    refine XS.icmpNo X17.here hx rfl (hb hby at_207) rfl (teq (rfl : v12_s0 = v12_s0)).2 ?_
    show Steps p.tables e below (T17.setTop (mkF m 210 #[.val (.int p1), .val (.int p2), .val (.int p3), .val (.int p4), .val (.int p5), .val (.int v12_s0), .val (.int v27_s0), .val .null, .val .null, .val (.ref b8), .val (.int (1 : Int32)), .val (.ref b8), .val (.ref b8), .val (.int v12_s0), .val .null] [])) _
    refine XS.aload X17.here hx rfl (hb hby at_210) rfl rfl ?_
    show Steps p.tables e below (T17.setTop (mkF m 212 #[.val (.int p1), .val (.int p2), .val (.int p3), .val (.int p4), .val (.int p5), .val (.int v12_s0), .val (.int v27_s0), .val .null, .val .null, .val (.ref b8), .val (.int (1 : Int32)), .val (.ref b8), .val (.ref b8), .val (.int v12_s0), .val .null] [(.ref b8)])) _
    refine st18.trans ?_
    show Steps p.tables e below (T18.setTop (mkF m 215 #[.val (.int p1), .val (.int p2), .val (.int p3), .val (.int p4), .val (.int p5), .val (.int v12_s0), .val (.int v27_s0), .val .null, .val .null, .val (.ref b8), .val (.int (1 : Int32)), .val (.ref b8), .val (.ref b8), .val (.int v12_s0), .val .null] [.null])) _
    refine XS.aload X18.here hx rfl (hb hby at_215) rfl rfl ?_
    show Steps p.tables e below (T18.setTop (mkF m 217 #[.val (.int p1), .val (.int p2), .val (.int p3), .val (.int p4), .val (.int p5), .val (.int v12_s0), .val (.int v27_s0), .val .null, .val .null, .val (.ref b8), .val (.int (1 : Int32)), .val (.ref b8), .val (.ref b8), .val (.int v12_s0), .val .null] [.null, .null])) _
    refine Jvm.RoadKit.acmp (g := (mkF m 217 #[.val (.int p1), .val (.int p2), .val (.int p3), .val (.int p4), .val (.int p5), .val (.int v12_s0), .val (.int v27_s0), .val .null, .val .null, .val (.ref b8), .val (.int (1 : Int32)), .val (.ref b8), .val (.ref b8), .val (.int v12_s0), .val .null] [.null, .null])) X18 hx rfl rfl rfl (pc0 := 217) (pc' := 220) (same := true) rfl (hb hby at_217) rfl (decide_eq_true rfl) (by decide) (by decide) ?_
    show Steps p.tables e below (T18.setTop (mkF m 220 #[.val (.int p1), .val (.int p2), .val (.int p3), .val (.int p4), .val (.int p5), .val (.int v12_s0), .val (.int v27_s0), .val .null, .val .null, .val (.ref b8), .val (.int (1 : Int32)), .val (.ref b8), .val (.ref b8), .val (.int v12_s0), .val .null] [])) _
    refine XS.iconst X18.here hx rfl (hb hby at_220) ?_
    show Steps p.tables e below (T18.setTop (mkF m 221 #[.val (.int p1), .val (.int p2), .val (.int p3), .val (.int p4), .val (.int p5), .val (.int v12_s0), .val (.int v27_s0), .val .null, .val .null, .val (.ref b8), .val (.int (1 : Int32)), .val (.ref b8), .val (.ref b8), .val (.int v12_s0), .val .null] [(.int (1 : Int32))])) _
    refine XS.goto X18.here hx rfl (pc0 := 221) (pc' := 225) rfl (hb hby at_221) (by decide) (by decide) ?_
    show Steps p.tables e below (T18.setTop (mkF m 225 #[.val (.int p1), .val (.int p2), .val (.int p3), .val (.int p4), .val (.int p5), .val (.int v12_s0), .val (.int v27_s0), .val .null, .val .null, .val (.ref b8), .val (.int (1 : Int32)), .val (.ref b8), .val (.ref b8), .val (.int v12_s0), .val .null] [(.int (1 : Int32))])) _
    refine XS.istore X18.here hx rfl (hb hby at_225) rfl (l' := #[.val (.int p1), .val (.int p2), .val (.int p3), .val (.int p4), .val (.int p5), .val (.int v12_s0), .val (.int v27_s0), .val .null, .val .null, .val (.ref b8), .val (.int (1 : Int32)), .val (.ref b8), .val (.ref b8), .val (.int v12_s0), .val .null]) rfl ?_
    show Steps p.tables e below (T18.setTop (mkF m 227 #[.val (.int p1), .val (.int p2), .val (.int p3), .val (.int p4), .val (.int p5), .val (.int v12_s0), .val (.int v27_s0), .val .null, .val .null, .val (.ref b8), .val (.int (1 : Int32)), .val (.ref b8), .val (.ref b8), .val (.int v12_s0), .val .null] [])) _
    refine XS.iload X18.here hx rfl (hb hby at_227) rfl ?_
    show Steps p.tables e below (T18.setTop (mkF m 229 #[.val (.int p1), .val (.int p2), .val (.int p3), .val (.int p4), .val (.int p5), .val (.int v12_s0), .val (.int v27_s0), .val .null, .val .null, .val (.ref b8), .val (.int (1 : Int32)), .val (.ref b8), .val (.ref b8), .val (.int v12_s0), .val .null] [(.int (1 : Int32))])) _
    exact retN X18 hx (t := .boolean) Bd.returns (by simp) (hb hby at_229) hr
  · show Q0nnt Z p1 p2 p3 p4 p5 v12_s0 v27_s0 h0 n0 _ T18.heap _
    rw [e18]
    exact ⟨rfl, N18⟩
def Q0 (h0 : Heap) (n0 : Nat) (v : Option Value) (h : Heap) (L : List Loc) : Prop := v = some (.int (1 : Int32)) ∧ Fr n0 L
theorem rm0 (l : Launch) (Z : State) (a0 : Array Value) (hw : ∀ d ∈ tables_1, d.before a0 Z = true) (ws : List Jvm.Cond) (p1 : Int32) (p2 : Int32) (p3 : Int32) (p4 : Int32) (p5 : Int32) (v12_s0 : Int32) (v27_s0 : Int32) (zc : Int32) (h0 : Heap) (n0 : Nat) (Z0 : n0 ≤ h0.size) (hv12_s0 : v12_s0 = (if (p5 &&& (1 : Int32)) = (0 : Int32) then p1 else (0 : Int32))) (hv27_s0 : v27_s0 = (if (p5 &&& (8 : Int32)) = (0 : Int32) then p2 else (0 : Int32))) (O0 : Old Z n0 h0) (hlT : l.stackTraces = true) (S0 : own_St Z Z.heap) (S_cs : Sta Z Z.heap "java/lang/String" "COMPACT_STRINGS" "Z" (.int zc)) (hcs : ¬ (zc = (0 : Int32))) (wS : ∀ a ∈ Bundle.stringAtoms, a.before a0 Z = true) (hz0 : h0 = Z.heap) :
    MetFree l x (head1 (Jvm.Cond.code x code maxLocals ret :: ws) room_1) (fun a U => a = #[(.int p1), (.int p2), (.int p3), (.int p4), (.int p5)] ∧ U.vm = Z.vm ∧ U.heap = h0) (fun _ _ B U _ => U.vm.MethodsKnown ∧ U.vm.FramesKnown B) (fun _ U o U' => ∃ v L, o = .returned v ∧ Q0 h0 n0 v U'.heap L ∧ ReturnedEndW U o U' L room_1.cells room_1.slots) := by
  by_cases h34 : (p5 &&& (2 : Int32)) = (0 : Int32)
  · by_cases h52 : (p5 &&& (4 : Int32)) = (0 : Int32)
    · by_cases h162 : v12_s0 = (0 : Int32)
      · refine own_mono (rm0rrz l Z a0 hw ws p1 p2 p3 p4 p5 v12_s0 v27_s0 zc h0 n0 Z0 hv12_s0 hv27_s0 O0 h34 h52 h162 h162 hlT S0 S_cs hcs wS hz0) ?_
        rintro a U o U' ⟨v, L, e1, ⟨e2, N⟩, e3⟩
        exact ⟨v, L, e1, ⟨e2, N⟩, e3⟩
      · refine own_mono (rm0rrt l Z a0 hw ws p1 p2 p3 p4 p5 v12_s0 v27_s0 zc h0 n0 Z0 hv12_s0 hv27_s0 O0 h34 h52 h162 h162 hlT S0 S_cs hcs wS hz0) ?_
        rintro a U o U' ⟨v, L, e1, ⟨e2, N⟩, e3⟩
        exact ⟨v, L, e1, ⟨e2, N⟩, e3⟩
    · by_cases h162 : v12_s0 = (0 : Int32)
      · refine own_mono (rm0rnz l Z a0 hw ws p1 p2 p3 p4 p5 v12_s0 v27_s0 zc h0 n0 Z0 hv12_s0 hv27_s0 O0 h34 h52 h162 h162 hlT S0 S_cs hcs wS hz0) ?_
        rintro a U o U' ⟨v, L, e1, ⟨e2, N⟩, e3⟩
        exact ⟨v, L, e1, ⟨e2, N⟩, e3⟩
      · refine own_mono (rm0rnt l Z a0 hw ws p1 p2 p3 p4 p5 v12_s0 v27_s0 zc h0 n0 Z0 hv12_s0 hv27_s0 O0 h34 h52 h162 h162 hlT S0 S_cs hcs wS hz0) ?_
        rintro a U o U' ⟨v, L, e1, ⟨e2, N⟩, e3⟩
        exact ⟨v, L, e1, ⟨e2, N⟩, e3⟩
  · by_cases h52 : (p5 &&& (4 : Int32)) = (0 : Int32)
    · by_cases h162 : v12_s0 = (0 : Int32)
      · refine own_mono (rm0nrz l Z a0 hw ws p1 p2 p3 p4 p5 v12_s0 v27_s0 zc h0 n0 Z0 hv12_s0 hv27_s0 O0 h34 h52 h162 h162 hlT S0 S_cs hcs wS hz0) ?_
        rintro a U o U' ⟨v, L, e1, ⟨e2, N⟩, e3⟩
        exact ⟨v, L, e1, ⟨e2, N⟩, e3⟩
      · refine own_mono (rm0nrt l Z a0 hw ws p1 p2 p3 p4 p5 v12_s0 v27_s0 zc h0 n0 Z0 hv12_s0 hv27_s0 O0 h34 h52 h162 h162 hlT S0 S_cs hcs wS hz0) ?_
        rintro a U o U' ⟨v, L, e1, ⟨e2, N⟩, e3⟩
        exact ⟨v, L, e1, ⟨e2, N⟩, e3⟩
    · by_cases h162 : v12_s0 = (0 : Int32)
      · refine own_mono (rm0nnz l Z a0 hw ws p1 p2 p3 p4 p5 v12_s0 v27_s0 zc h0 n0 Z0 hv12_s0 hv27_s0 O0 h34 h52 h162 h162 hlT S0 S_cs hcs wS hz0) ?_
        rintro a U o U' ⟨v, L, e1, ⟨e2, N⟩, e3⟩
        exact ⟨v, L, e1, ⟨e2, N⟩, e3⟩
      · refine own_mono (rm0nnt l Z a0 hw ws p1 p2 p3 p4 p5 v12_s0 v27_s0 zc h0 n0 Z0 hv12_s0 hv27_s0 O0 h34 h52 h162 h162 hlT S0 S_cs hcs wS hz0) ?_
        rintro a U o U' ⟨v, L, e1, ⟨e2, N⟩, e3⟩
        exact ⟨v, L, e1, ⟨e2, N⟩, e3⟩
set_option maxRecDepth 65536 in
set_option maxHeartbeats 40000000 in
theorem comes_1 {Post : Tables → Env → Array Value → State → Outcome → State → Prop} (hpost : ∀ tb e args s v u, (limb_1_1.after args s (.returned v) u = true ∧ limb_1_2.after args s (.returned v) u = true ∧ True) → ReturnedEndW s (.returned v) u (Jvm.fieldLocs frame_1_writes args s ++ Jvm.arrayLocs frame_1_arrays args s ++ Jvm.staticLocs frame_1_statics s) 32 6656 → Post tb e args s (.returned v) u) :
    ArmFor flags0 classFile x code maxLocals ret World_1 tables_1 room_1 Calls_1 rest_1 Pre_1 Post := by
  intro l hfl _ _ p e ha hc hk s m args below hf hA hF happ hP
  obtain ⟨hcalls, hrest, hpre⟩ := hP
  obtain ⟨-, -, -, hnamed, -, -, -, hat⟩ := (Spec.applies_iff hf).mp happ
  obtain ⟨hg, hn⟩ := and_e (Cond.before_iff.mp (show (Jvm.Cond.and given_1 narrow_1).before args s = true from hpre))
  obtain ⟨g19, g20⟩ := and_e hg
  obtain ⟨g21, g22⟩ := and_e g20
  obtain ⟨g23, g24⟩ := and_e g22
  obtain ⟨g25, g26⟩ := and_e g24
  obtain ⟨g27, g28⟩ := and_e g26
  obtain ⟨w0, w1, w2, w3, w4, rfl⟩ : ∃ w0 w1 w2 w3 w4 : Value, args = #[w0, w1, w2, w3, w4] := by
    have hs : args.size = 5 := by simpa [Cond.value, given_1] using g19
    obtain ⟨L⟩ := args
    match L, hs with
    | [w0, w1, w2, w3, w4], _ => exact ⟨w0, w1, w2, w3, w4, rfl⟩
  have hw := fun d (hd : d ∈ tables_1) => atoms_spec (ws := Jvm.Cond.code x code maxLocals ret :: tables_1) hat d (List.mem_cons_of_mem _ hd)
  have hfit : Fit s := fun {y c} hc i hi => by
    obtain ⟨ha, rfl⟩ := Array.getElem?_eq_some_iff.mp hc
    have q := List.all_eq_true.mp ((Array.all_eq_true_iff_forall_mem.mp hF) _ (Array.getElem_mem ha)) i (List.mem_range.mpr hi)
    simpa [Array.getElem?_eq_getElem hi] using q
  obtain ⟨hsets, hown0⟩ := atoms_of _ (rest_1_c_eq ▸ (show rest_1_c.before _ s = true from hrest))
  have hr0 := Cond.before_iff.mp hown0
  obtain ⟨i0, ei0⟩ := is_v g21
  obtain rfl : w0 = (.int i0) := Option.some.inj ei0
  obtain ⟨i1, ei1⟩ := is_v g23
  obtain rfl : w1 = (.int i1) := Option.some.inj ei1
  obtain ⟨i2, ei2⟩ := is_v g25
  obtain rfl : w2 = (.int i2) := Option.some.inj ei2
  obtain ⟨i3, ei3⟩ := is_v g27
  obtain rfl : w3 = (.int i3) := Option.some.inj ei3
  obtain ⟨i4, ei4⟩ := is_v g28
  obtain rfl : w4 = (.int i4) := Option.some.inj ei4
  have n5 := not_v (Cond.before_iff.mp (hsets _ (List.mem_of_getElem? (i := 2) rfl)))
  obtain ⟨zc, ez⟩ := is_v (Cond.before_iff.mp (hsets _ (List.mem_of_getElem? (i := 1) rfl)))
  have S_cs := Sta.start ez (Or.inl (hsets _ (List.mem_of_getElem? (i := 0) rfl)))
  have hcs : ¬ (zc = (0 : Int32)) := gotF (Cond.eq_ints ez (Term.int_eval (0))) n5
  have wS : ∀ a ∈ Bundle.stringAtoms, a.before _ s = true := fun d hd => hw d ((by decide +kernel : ∀ d ∈ Bundle.stringAtoms, d ∈ tables_1) d hd)
  have hlT : l.stackTraces = true := by
    unfold Launch.stackTraces
    rw [hfl]; decide +kernel
  obtain ⟨u5, eu, hu5⟩ := isR_v (Cond.before_iff.mp (hsets _ (List.mem_of_getElem? (i := 16) rfl)))
  obtain ⟨u8, ev, hu8⟩ := isR_v (Cond.before_iff.mp (hsets _ (List.mem_of_getElem? (i := 21) rfl)))
  have S0 : own_St s s.heap := ⟨⟨u5, hu5, Sta.start eu (Or.inl (hsets _ (List.mem_of_getElem? (i := 15) rfl)))⟩, ⟨u8, hu8, Sta.start ev (Or.inl (hsets _ (List.mem_of_getElem? (i := 20) rfl)))⟩, ThS.start⟩
  have hTK : s.vm.MethodsKnown := MethodsKnown_of_tablesKnown hcalls.2.1
  have hBK : s.vm.FramesKnown below := FramesKnown_of_framesKnown hcalls.1 hf
  obtain ⟨n, o, h1, h2, h3, _, L, rfl, ⟨rfl, N⟩, hq⟩ := rm0 l s _ hw tables_1 i0 i1 i2 i3 i4 _ _ zc s.heap s.heap.size (Nat.le_refl _) rfl rfl (Old.start s) hlT S0 S_cs hcs wS rfl p e ha hc hk s m _ below hf ((Spec.applies_iff_loose hf).mp happ).1 ⟨rfl, rfl, rfl⟩ ⟨hTK, hBK⟩
  refine ⟨n, _, h1, h2, h3, hpost _ _ _ _ _ _ ⟨Cond.after_iff.mpr rfl, Cond.after_iff.mpr (eq_i res_at (Term.int_eval (1)) rfl), trivial⟩ ⟨hq.1, hq.2.1, hq.2.2.1, (hq.2.2.2.sift fun y hy => Or.inr (N y hy)).mono (by decide) (by decide)⟩⟩
theorem main_1_1 : Claimed_1_1 := comes_1 fun _ _ _ _ _ _ h hF => ⟨h.1, hF⟩
theorem main_1_2 : Claimed_1_2 := comes_1 fun _ _ _ _ _ _ h hF => ⟨h.2.1, hF⟩
end Jvm.Pilot.@@N@@
namespace Jvm.Pilot.@@N@@
open Jvm Jvm.ClassFile Sem Op Lib Jvm.Free Jvm.Stand Jvm.Pilot.@@N@@.Jvm.D
/-! MADE BY PROGRAM (witnessworld.py) out of the Statement's table words and the real class files: 36 classes; the members and pool entries that the words name. The judged class is class 1, her method 2. -/
namespace start1
open Jvm.ClassFile
def u (s : String) : CpInfo := .utf8 (stringToUtf16 s)
/-- a pool by its gaps: so many unusable entries, then the entry; so many at the end -/
def gap : Nat → List CpInfo → List CpInfo
  | 0, r => r
  | n + 1, r => .unusable :: gap n r
def poolList (es : List (Nat × CpInfo)) (last : Nat) : List CpInfo := es.foldr (fun e r => gap e.1 (e.2 :: r)) (gap last [])
def pool (es : List (Nat × CpInfo)) (last : Nat) : Array CpInfo := ⟨poolList es last⟩
def fileOf (pool : Array CpInfo) (this : Nat) (attrs : Array Attribute := #[]) (ms : Array MethodInfo := #[]) (fl : Nat := 33) (sup : Nat := 0) (ifs : Array Nat := #[]) (fds : Array FieldInfo := #[]) : ClassFile where
  minorVersion := 0
  majorVersion := 65
  constantPool := pool
  accessFlags := fl
  thisClass := this
  superClass := sup
  interfaces := ifs
  fields := fds
  methods := ms
  attributes := attrs
def plain (name : String) (sup : Option ClassId) : Class where
  name := name
  kind := .ordinary
  loader := none
  accessFlags := 33
  super := sup
  interfaces := #[]
  cf := none
  fields := #[]
  methods := #[]
  instanceTypes := #[]
  staticTypes := #[]
  resolved := #[]
  callSites := []
  init := .initialized
  statics := none
  mirror := none

def pool0 : Array CpInfo := pool [(5, u "<init>"), (0, u "()V"), (1, .class_ 10), (1, u "java/lang/Object")] 113

def k0c0 : Code := { maxStack := 0, maxLocals := 1, code := object_method_1_code, exceptionTable := #[], attributes := #[] }
def k0m0 : Method := { name := "<init>", desc := "()V", sig := { parameters := [], returnType := none }, accessFlags := 1, code := some k0c0 }
/-- java/lang/Object -/
def k0 : Class := { plain "java/lang/Object" none with
  accessFlags := 33
  interfaces := #[]
  cf := some (fileOf pool0 8 #[] #[{ accessFlags := 1, nameIndex := 5, descriptorIndex := 6, attributes := #[] }] 33 0 #[] #[])
  fields := #[]
  methods := #[k0m0]
  instanceTypes := #[]
  staticTypes := #[]
  resolved := Array.replicate 124 none
  statics := none }

def pool1 : Array CpInfo := pool [(2, .class_ 4), (1, u "java/lang/Object"), (0, u "<init>"), (0, u "()V"), (0, .class_ 8), (0, u "java/lang/String"), (0, .methodref 7 10), (0, .nameAndType 5 11), (0, u "([C)V"), (0, .methodref 13 14), (0, .class_ 15), (0, .nameAndType 16 17), (0, u "nephrite/EvaluationExceptionOnPinLaw"), (0, u "name"), (0, u "(IZ)Ljava/lang/String;"), (0, .class_ 19), (0, u "nephrite/EvaluationException"), (0, .string 21), (0, u "r"), (0, .methodref 18 23), (0, .nameAndType 5 24), (0, u "(Ljava/lang/String;)V"), (0, .methodref 18 26), (0, .nameAndType 27 28), (0, u "line"), (0, u "()I"), (0, .methodref 18 30), (0, .nameAndType 31 32), (0, u "templateName"), (0, u "()Ljava/lang/String;"), (0, .methodref 18 34), (0, .nameAndType 35 36), (0, u "on"), (0, u "(Ljava/lang/String;I)Lnephrite/EvaluationException;"), (3, u "law"), (0, u "(IIIII)Z")] 2

def k1m0 : Method := { name := "<init>", desc := "()V", sig := { parameters := [], returnType := none }, accessFlags := 1, code := none }
def k1c1 : Code := { maxStack := 7, maxLocals := 2, code := method_2_code, exceptionTable := #[], attributes := #[] }
def k1m1 : Method := { name := "name", desc := "(IZ)Ljava/lang/String;", sig := { parameters := [.int, .boolean], returnType := some (.object "java/lang/String") }, accessFlags := 10, code := some k1c1 }
def k1c2 : Code := { maxStack := 3, maxLocals := 15, code := code, exceptionTable := #[], attributes := #[] }
def k1m2 : Method := { name := "law", desc := "(IIIII)Z", sig := { parameters := [.int, .int, .int, .int, .int], returnType := some .boolean }, accessFlags := 9, code := some k1c2 }
/-- nephrite/EvaluationExceptionOnPinLaw -/
def k1 : Class := { plain "nephrite/EvaluationExceptionOnPinLaw" (some 0) with
  accessFlags := 49
  interfaces := #[]
  cf := some (fileOf pool1 13 #[] #[{ accessFlags := 1, nameIndex := 5, descriptorIndex := 6, attributes := #[] }, { accessFlags := 10, nameIndex := 16, descriptorIndex := 17, attributes := #[] }, { accessFlags := 9, nameIndex := 40, descriptorIndex := 41, attributes := #[] }] 49 2 #[] #[])
  fields := #[]
  methods := #[k1m0, k1m1, k1m2]
  instanceTypes := #[]
  staticTypes := #[]
  resolved := Array.replicate 44 none
  statics := none }

def pool2 : Array CpInfo := pool [(1, .class_ 2), (0, u "java/io/Serializable"), (0, .class_ 4), (0, u "java/lang/Object")] 2

/-- java/io/Serializable -/
def k2 : Class := { plain "java/io/Serializable" (some 0) with
  accessFlags := 1537
  interfaces := #[]
  cf := some (fileOf pool2 1 #[] #[] 1537 3 #[] #[])
  fields := #[]
  methods := #[]
  instanceTypes := #[]
  staticTypes := #[]
  resolved := Array.replicate 7 none
  statics := none }

def pool3 : Array CpInfo := pool [(1, .class_ 2), (0, u "java/lang/Comparable"), (0, .class_ 4), (0, u "java/lang/Object")] 7

/-- java/lang/Comparable -/
def k3 : Class := { plain "java/lang/Comparable" (some 0) with
  accessFlags := 1537
  interfaces := #[]
  cf := some (fileOf pool3 1 #[] #[] 1537 3 #[] #[])
  fields := #[]
  methods := #[]
  instanceTypes := #[]
  staticTypes := #[]
  resolved := Array.replicate 12 none
  statics := none }

def pool4 : Array CpInfo := pool [(2, .class_ 4), (1, u "java/lang/CharSequence"), (42, .class_ 48), (0, u "java/lang/CharSequence$1CodePointIterator"), (10, .class_ 60), (0, u "java/lang/CharSequence$1CharIterator"), (5, .class_ 67), (0, u "java/lang/Object")] 63

/-- java/lang/CharSequence -/
def k4 : Class := { plain "java/lang/CharSequence" (some 0) with
  accessFlags := 1537
  interfaces := #[]
  cf := some (fileOf pool4 2 #[.nestMembers #[47, 59]] #[] 1537 66 #[] #[])
  fields := #[]
  methods := #[]
  instanceTypes := #[]
  staticTypes := #[]
  resolved := Array.replicate 131 none
  statics := none }

def pool5 : Array CpInfo := pool [(1, .class_ 2), (0, u "java/lang/constant/Constable"), (0, .class_ 4), (0, u "java/lang/Object")] 6

/-- java/lang/constant/Constable -/
def k5 : Class := { plain "java/lang/constant/Constable" (some 0) with
  accessFlags := 1537
  interfaces := #[]
  cf := some (fileOf pool5 1 #[] #[] 1537 3 #[] #[])
  fields := #[]
  methods := #[]
  instanceTypes := #[]
  staticTypes := #[]
  resolved := Array.replicate 11 none
  statics := none }

def pool6 : Array CpInfo := pool [(1, .class_ 2), (0, u "java/lang/constant/ConstantDesc"), (0, .class_ 4), (0, u "java/lang/Object")] 32

/-- java/lang/constant/ConstantDesc -/
def k6 : Class := { plain "java/lang/constant/ConstantDesc" (some 0) with
  accessFlags := 1537
  interfaces := #[]
  cf := some (fileOf pool6 1 #[] #[] 1537 3 #[] #[])
  fields := #[]
  methods := #[]
  instanceTypes := #[]
  staticTypes := #[]
  resolved := Array.replicate 37 none
  statics := none }

def pool7 : Array CpInfo := pool [(1, .methodref 2 3), (0, .class_ 4), (0, .nameAndType 5 6), (0, u "java/lang/Object"), (0, u "<init>"), (0, u "()V"), (2, .fieldref 10 11), (0, .class_ 12), (0, .nameAndType 13 14), (0, u "java/lang/String"), (0, u "value"), (0, u "[B"), (0, .fieldref 10 16), (0, .nameAndType 17 18), (0, u "coder"), (0, u "B"), (2, u "hash"), (0, u "I"), (2, u "hashIsZero"), (0, u "Z"), (0, .methodref 10 28), (0, .nameAndType 5 29), (0, u "([CIILjava/lang/Void;)V"), (8, .fieldref 10 39), (0, .nameAndType 40 26), (0, u "COMPACT_STRINGS"), (1, .class_ 44), (1, u "java/lang/StringUTF16"), (0, u "compress"), (1, .methodref 42 48), (0, .nameAndType 49 50), (0, u "coderFromArrayLen"), (0, u "([BI)B"), (126, .methodref 42 178), (0, .nameAndType 45 179), (0, u "([CII)[B"), (395, .class_ 576), (0, u "java/lang/CharSequence"), (22, u "CASE_INSENSITIVE_ORDER"), (0, u "Ljava/util/Comparator;"), (409, u "([C)V"), (90, u "serialPersistentFields"), (0, u "[Ljava/io/ObjectStreamField;"), (0, .class_ 1104), (0, u "java/lang/String$CaseInsensitiveComparator"), (1, .class_ 1107), (0, u "java/io/Serializable"), (0, .class_ 1109), (0, u "java/lang/Comparable"), (0, .class_ 1111), (0, u "java/lang/constant/Constable"), (0, .class_ 1113), (0, u "java/lang/constant/ConstantDesc"), (2, u "serialVersionUID"), (0, u "J"), (3, u "REPL"), (0, u "C"), (2, u "LATIN1"), (1, u "UTF16")] 323

def k7m0 : Method := { name := "<init>", desc := "()V", sig := { parameters := [], returnType := none }, accessFlags := 1, code := none }
def k7c1 : Code := { maxStack := 5, maxLocals := 2, code := jdk_42_method_3_code, exceptionTable := #[], attributes := #[] }
def k7m1 : Method := { name := "<init>", desc := "([C)V", sig := { parameters := [(.array .char)], returnType := none }, accessFlags := 1, code := some k7c1 }
def k7c2 : Code := { maxStack := 4, maxLocals := 6, code := jdk_42_method_149_code, exceptionTable := #[], attributes := #[] }
def k7m2 : Method := { name := "<init>", desc := "([CIILjava/lang/Void;)V", sig := { parameters := [(.array .char), .int, .int, (.object "java/lang/Void")], returnType := none }, accessFlags := 2, code := some k7c2 }
/-- java/lang/String -/
def k7 : Class := { plain "java/lang/String" (some 0) with
  accessFlags := 49
  interfaces := #[2, 3, 4, 5, 6]
  cf := some (fileOf pool7 10 #[.nestMembers #[1103]] #[{ accessFlags := 1, nameIndex := 5, descriptorIndex := 6, attributes := #[] }, { accessFlags := 1, nameIndex := 5, descriptorIndex := 1010, attributes := #[] }, { accessFlags := 2, nameIndex := 5, descriptorIndex := 29, attributes := #[] }] 49 2 #[1106, 1108, 575, 1110, 1112] #[{ accessFlags := 18, nameIndex := 13, descriptorIndex := 14, attributes := #[] }, { accessFlags := 18, nameIndex := 17, descriptorIndex := 18, attributes := #[] }, { accessFlags := 2, nameIndex := 21, descriptorIndex := 22, attributes := #[] }, { accessFlags := 2, nameIndex := 25, descriptorIndex := 26, attributes := #[] }, { accessFlags := 26, nameIndex := 1116, descriptorIndex := 1117, attributes := #[] }, { accessFlags := 24, nameIndex := 40, descriptorIndex := 26, attributes := #[] }, { accessFlags := 26, nameIndex := 1101, descriptorIndex := 1102, attributes := #[] }, { accessFlags := 26, nameIndex := 1121, descriptorIndex := 1122, attributes := #[] }, { accessFlags := 25, nameIndex := 599, descriptorIndex := 600, attributes := #[] }, { accessFlags := 24, nameIndex := 1125, descriptorIndex := 18, attributes := #[] }, { accessFlags := 24, nameIndex := 1127, descriptorIndex := 18, attributes := #[] }])
  fields := #[{ name := "value", type := (.array .byte), accessFlags := 18, slot := 0, constantValue := 0 }, { name := "coder", type := .byte, accessFlags := 18, slot := 1, constantValue := 0 }, { name := "hash", type := .int, accessFlags := 2, slot := 2, constantValue := 0 }, { name := "hashIsZero", type := .boolean, accessFlags := 2, slot := 3, constantValue := 0 }, { name := "serialVersionUID", type := .long, accessFlags := 26, slot := 0, constantValue := 0 }, { name := "COMPACT_STRINGS", type := .boolean, accessFlags := 24, slot := 1, constantValue := 0 }, { name := "serialPersistentFields", type := (.array (.object "java/io/ObjectStreamField")), accessFlags := 26, slot := 2, constantValue := 0 }, { name := "REPL", type := .char, accessFlags := 26, slot := 3, constantValue := 0 }, { name := "CASE_INSENSITIVE_ORDER", type := (.object "java/util/Comparator"), accessFlags := 25, slot := 4, constantValue := 0 }, { name := "LATIN1", type := .byte, accessFlags := 24, slot := 5, constantValue := 0 }, { name := "UTF16", type := .byte, accessFlags := 24, slot := 6, constantValue := 0 }]
  methods := #[k7m0, k7m1, k7m2]
  instanceTypes := #[(.array .byte), .byte, .int, .boolean]
  staticTypes := #[.long, .boolean, (.array (.object "java/io/ObjectStreamField")), .char, (.object "java/util/Comparator"), .byte, .byte]
  resolved := Array.replicate 1451 none
  statics := some 0 }

def pool8 : Array CpInfo := pool [(6, .class_ 8), (1, u "java/lang/Object"), (0, u "<init>"), (0, u "()V"), (1, .class_ 14), (1, u "java/lang/StringUTF16"), (31, u "$assertionsDisabled"), (0, u "Z"), (13, u "HI_BYTE_SHIFT"), (0, u "I"), (2, u "LO_BYTE_SHIFT"), (49, .methodref 12 116), (0, .nameAndType 117 118), (0, u "compress"), (0, u "([CI[BII)I"), (3, u "([CII)[B"), (138, u "coderFromArrayLen"), (0, u "([BI)B"), (106, .class_ 371), (1, u "java/lang/StringUTF16$LinesSpliterator"), (58, u "MAX_LENGTH"), (196, .class_ 628), (0, u "java/lang/StringUTF16$CodePointsSpliterator"), (0, .class_ 630), (0, u "java/lang/StringUTF16$CharsSpliterator")] 4

def k8m0 : Method := { name := "<init>", desc := "()V", sig := { parameters := [], returnType := none }, accessFlags := 0, code := none }
def k8c1 : Code := { maxStack := 2, maxLocals := 2, code := jdk_52_method_15_code, exceptionTable := #[], attributes := #[] }
def k8m1 : Method := { name := "coderFromArrayLen", desc := "([BI)B", sig := { parameters := [(.array .byte), .int], returnType := some .byte }, accessFlags := 8, code := some k8c1 }
def k8c2 : Code := { maxStack := 5, maxLocals := 6, code := jdk_52_method_16_code, exceptionTable := #[], attributes := #[] }
def k8m2 : Method := { name := "compress", desc := "([CII)[B", sig := { parameters := [(.array .char), .int, .int], returnType := some (.array .byte) }, accessFlags := 9, code := some k8c2 }
def k8c3 : Code := { maxStack := 3, maxLocals := 7, code := jdk_52_method_21_code, exceptionTable := #[], attributes := #[] }
def k8m3 : Method := { name := "compress", desc := "([CI[BII)I", sig := { parameters := [(.array .char), .int, (.array .byte), .int, .int], returnType := some .int }, accessFlags := 9, code := some k8c3 }
/-- java/lang/StringUTF16 -/
def k8 : Class := { plain "java/lang/StringUTF16" (some 0) with
  accessFlags := 48
  interfaces := #[]
  cf := some (fileOf pool8 12 #[.nestMembers #[627, 629, 369]] #[{ accessFlags := 0, nameIndex := 9, descriptorIndex := 10, attributes := #[] }, { accessFlags := 8, nameIndex := 261, descriptorIndex := 262, attributes := #[] }, { accessFlags := 9, nameIndex := 117, descriptorIndex := 122, attributes := #[] }, { accessFlags := 9, nameIndex := 117, descriptorIndex := 118, attributes := #[] }] 48 6 #[] #[{ accessFlags := 26, nameIndex := 61, descriptorIndex := 62, attributes := #[] }, { accessFlags := 26, nameIndex := 65, descriptorIndex := 62, attributes := #[] }, { accessFlags := 24, nameIndex := 430, descriptorIndex := 62, attributes := #[] }, { accessFlags := 4120, nameIndex := 46, descriptorIndex := 47, attributes := #[] }])
  fields := #[{ name := "HI_BYTE_SHIFT", type := .int, accessFlags := 26, slot := 0, constantValue := 0 }, { name := "LO_BYTE_SHIFT", type := .int, accessFlags := 26, slot := 1, constantValue := 0 }, { name := "MAX_LENGTH", type := .int, accessFlags := 24, slot := 2, constantValue := 0 }, { name := "$assertionsDisabled", type := .boolean, accessFlags := 4120, slot := 3, constantValue := 0 }]
  methods := #[k8m0, k8m1, k8m2, k8m3]
  instanceTypes := #[]
  staticTypes := #[.int, .int, .int, .boolean]
  resolved := Array.replicate 635 none
  statics := none }

def pool9 : Array CpInfo := pool [(1, .methodref 2 3), (0, .class_ 4), (0, .nameAndType 5 6), (0, u "java/lang/Object"), (0, u "<init>"), (0, u "()V"), (0, .fieldref 8 9), (0, .class_ 10), (0, .nameAndType 11 12), (0, u "java/lang/Throwable"), (0, u "cause"), (0, u "Ljava/lang/Throwable;"), (0, .fieldref 8 14), (0, .nameAndType 15 16), (0, u "UNASSIGNED_STACK"), (0, u "[Ljava/lang/StackTraceElement;"), (0, .fieldref 8 18), (0, .nameAndType 19 16), (0, u "stackTrace"), (0, .fieldref 8 21), (0, .nameAndType 22 23), (0, u "SUPPRESSED_SENTINEL"), (0, u "Ljava/util/List;"), (0, .fieldref 8 25), (0, .nameAndType 26 23), (0, u "suppressedExceptions"), (0, .methodref 8 28), (0, .nameAndType 29 30), (0, u "fillInStackTrace"), (0, u "()Ljava/lang/Throwable;"), (0, .fieldref 8 32), (0, .nameAndType 33 34), (0, u "detailMessage"), (0, u "Ljava/lang/String;"), (58, .class_ 94), (0, u "java/lang/Throwable$WrappedPrintStream"), (6, .class_ 103), (1, u "java/lang/Throwable$PrintStreamOrWriter"), (61, u "$assertionsDisabled"), (0, u "Z"), (26, .class_ 194), (0, u "java/lang/Throwable$WrappedPrintWriter"), (3, .fieldref 8 199), (0, .nameAndType 200 201), (0, u "backtrace"), (0, u "Ljava/lang/Object;"), (0, .methodref 8 203), (0, .nameAndType 29 204), (0, u "(I)Ljava/lang/Throwable;"), (6, u "depth"), (0, u "I"), (10, u "(Ljava/lang/String;)V"), (45, .class_ 271), (1, u "java/lang/Throwable$SentinelHolder"), (32, u "EMPTY_THROWABLE_ARRAY"), (0, u "[Ljava/lang/Throwable;"), (12, .class_ 319), (0, u "java/io/Serializable"), (0, u "serialVersionUID"), (0, u "J"), (5, u "NULL_CAUSE_MESSAGE"), (0, u "SELF_SUPPRESSION_MESSAGE"), (0, u "CAUSE_CAPTION"), (0, u "SUPPRESSED_CAPTION")] 73

def k9c0 : Code := { maxStack := 2, maxLocals := 1, code := jdk_78_method_1_code, exceptionTable := #[], attributes := #[] }
def k9m0 : Method := { name := "<init>", desc := "()V", sig := { parameters := [], returnType := none }, accessFlags := 1, code := some k9c0 }
def k9c1 : Code := { maxStack := 2, maxLocals := 2, code := jdk_78_method_2_code, exceptionTable := #[], attributes := #[] }
def k9m1 : Method := { name := "<init>", desc := "(Ljava/lang/String;)V", sig := { parameters := [(.object "java/lang/String")], returnType := none }, accessFlags := 1, code := some k9c1 }
def k9c2 : Code := { maxStack := 2, maxLocals := 1, code := ⟨#[0x2a, 0xb4, 0x00, 0x11, 0xc7, 0x00, 0x0a, 0x2a, 0xb4, 0x00, 0xc6, 0xc6, 0x00, 0x10, 0x2a, 0x03, 0xb6, 0x00, 0xca, 0x57, 0x2a, 0xb2, 0x00, 0x0d, 0xb5, 0x00, 0x11, 0x2a, 0xb0]⟩, exceptionTable := #[], attributes := #[] }
def k9m2 : Method := { name := "fillInStackTrace", desc := "()Ljava/lang/Throwable;", sig := { parameters := [], returnType := some (.object "java/lang/Throwable") }, accessFlags := 33, code := some k9c2 }
def k9m3 : Method := { name := "fillInStackTrace", desc := "(I)Ljava/lang/Throwable;", sig := { parameters := [.int], returnType := some (.object "java/lang/Throwable") }, accessFlags := 258, code := none }
/-- java/lang/Throwable -/
def k9 : Class := { plain "java/lang/Throwable" (some 0) with
  accessFlags := 33
  interfaces := #[2]
  cf := some (fileOf pool9 8 #[.nestMembers #[193, 93, 101, 269]] #[{ accessFlags := 1, nameIndex := 5, descriptorIndex := 6, attributes := #[] }, { accessFlags := 1, nameIndex := 5, descriptorIndex := 223, attributes := #[] }, { accessFlags := 33, nameIndex := 29, descriptorIndex := 30, attributes := #[] }, { accessFlags := 258, nameIndex := 29, descriptorIndex := 204, attributes := #[] }] 33 2 #[318] #[{ accessFlags := 26, nameIndex := 320, descriptorIndex := 321, attributes := #[] }, { accessFlags := 130, nameIndex := 200, descriptorIndex := 201, attributes := #[] }, { accessFlags := 2, nameIndex := 33, descriptorIndex := 34, attributes := #[] }, { accessFlags := 26, nameIndex := 15, descriptorIndex := 16, attributes := #[] }, { accessFlags := 2, nameIndex := 11, descriptorIndex := 12, attributes := #[] }, { accessFlags := 2, nameIndex := 19, descriptorIndex := 16, attributes := #[] }, { accessFlags := 130, nameIndex := 211, descriptorIndex := 212, attributes := #[] }, { accessFlags := 26, nameIndex := 22, descriptorIndex := 23, attributes := #[] }, { accessFlags := 2, nameIndex := 26, descriptorIndex := 23, attributes := #[] }, { accessFlags := 26, nameIndex := 327, descriptorIndex := 34, attributes := #[] }, { accessFlags := 26, nameIndex := 328, descriptorIndex := 34, attributes := #[] }, { accessFlags := 26, nameIndex := 329, descriptorIndex := 34, attributes := #[] }, { accessFlags := 26, nameIndex := 330, descriptorIndex := 34, attributes := #[] }, { accessFlags := 26, nameIndex := 304, descriptorIndex := 305, attributes := #[] }, { accessFlags := 4120, nameIndex := 165, descriptorIndex := 166, attributes := #[] }])
  fields := #[{ name := "serialVersionUID", type := .long, accessFlags := 26, slot := 0, constantValue := 0 }, { name := "backtrace", type := (.object "java/lang/Object"), accessFlags := 130, slot := 0, constantValue := 0 }, { name := "detailMessage", type := (.object "java/lang/String"), accessFlags := 2, slot := 1, constantValue := 0 }, { name := "UNASSIGNED_STACK", type := (.array (.object "java/lang/StackTraceElement")), accessFlags := 26, slot := 1, constantValue := 0 }, { name := "cause", type := (.object "java/lang/Throwable"), accessFlags := 2, slot := 2, constantValue := 0 }, { name := "stackTrace", type := (.array (.object "java/lang/StackTraceElement")), accessFlags := 2, slot := 3, constantValue := 0 }, { name := "depth", type := .int, accessFlags := 130, slot := 4, constantValue := 0 }, { name := "SUPPRESSED_SENTINEL", type := (.object "java/util/List"), accessFlags := 26, slot := 2, constantValue := 0 }, { name := "suppressedExceptions", type := (.object "java/util/List"), accessFlags := 2, slot := 5, constantValue := 0 }, { name := "NULL_CAUSE_MESSAGE", type := (.object "java/lang/String"), accessFlags := 26, slot := 3, constantValue := 0 }, { name := "SELF_SUPPRESSION_MESSAGE", type := (.object "java/lang/String"), accessFlags := 26, slot := 4, constantValue := 0 }, { name := "CAUSE_CAPTION", type := (.object "java/lang/String"), accessFlags := 26, slot := 5, constantValue := 0 }, { name := "SUPPRESSED_CAPTION", type := (.object "java/lang/String"), accessFlags := 26, slot := 6, constantValue := 0 }, { name := "EMPTY_THROWABLE_ARRAY", type := (.array (.object "java/lang/Throwable")), accessFlags := 26, slot := 7, constantValue := 0 }, { name := "$assertionsDisabled", type := .boolean, accessFlags := 4120, slot := 8, constantValue := 0 }]
  methods := #[k9m0, k9m1, k9m2, k9m3]
  instanceTypes := #[(.object "java/lang/Object"), (.object "java/lang/String"), (.object "java/lang/Throwable"), (.array (.object "java/lang/StackTraceElement")), .int, (.object "java/util/List")]
  staticTypes := #[.long, (.array (.object "java/lang/StackTraceElement")), (.object "java/util/List"), (.object "java/lang/String"), (.object "java/lang/String"), (.object "java/lang/String"), (.object "java/lang/String"), (.array (.object "java/lang/Throwable")), .boolean]
  resolved := Array.replicate 404 none
  statics := some 1 }

def pool10 : Array CpInfo := pool [(2, .class_ 4), (1, u "java/lang/Throwable"), (0, u "<init>"), (0, u "()V"), (0, .methodref 2 8), (0, .nameAndType 5 9), (0, u "(Ljava/lang/String;)V"), (9, .class_ 20), (0, u "java/lang/Exception"), (0, u "serialVersionUID"), (0, u "J")] 17

def k10m0 : Method := { name := "<init>", desc := "()V", sig := { parameters := [], returnType := none }, accessFlags := 1, code := none }
def k10c1 : Code := { maxStack := 2, maxLocals := 2, code := jdk_59_method_2_code, exceptionTable := #[], attributes := #[] }
def k10m1 : Method := { name := "<init>", desc := "(Ljava/lang/String;)V", sig := { parameters := [(.object "java/lang/String")], returnType := none }, accessFlags := 1, code := some k10c1 }
/-- java/lang/Exception -/
def k10 : Class := { plain "java/lang/Exception" (some 9) with
  accessFlags := 33
  interfaces := #[]
  cf := some (fileOf pool10 19 #[] #[{ accessFlags := 1, nameIndex := 5, descriptorIndex := 6, attributes := #[] }, { accessFlags := 1, nameIndex := 5, descriptorIndex := 9, attributes := #[] }] 33 2 #[] #[{ accessFlags := 24, nameIndex := 21, descriptorIndex := 22, attributes := #[] }])
  fields := #[{ name := "serialVersionUID", type := .long, accessFlags := 24, slot := 0, constantValue := 0 }]
  methods := #[k10m0, k10m1]
  instanceTypes := #[(.object "java/lang/Object"), (.object "java/lang/String"), (.object "java/lang/Throwable"), (.array (.object "java/lang/StackTraceElement")), .int, (.object "java/util/List")]
  staticTypes := #[.long]
  resolved := Array.replicate 40 none
  statics := none }

def pool11 : Array CpInfo := pool [(2, .class_ 4), (1, u "java/lang/Exception"), (0, u "<init>"), (0, u "()V"), (0, .methodref 2 8), (0, .nameAndType 5 9), (0, u "(Ljava/lang/String;)V"), (9, .class_ 20), (0, u "java/lang/RuntimeException"), (0, u "serialVersionUID"), (0, u "J")] 17

def k11m0 : Method := { name := "<init>", desc := "()V", sig := { parameters := [], returnType := none }, accessFlags := 1, code := none }
def k11c1 : Code := { maxStack := 2, maxLocals := 2, code := jdk_58_method_2_code, exceptionTable := #[], attributes := #[] }
def k11m1 : Method := { name := "<init>", desc := "(Ljava/lang/String;)V", sig := { parameters := [(.object "java/lang/String")], returnType := none }, accessFlags := 1, code := some k11c1 }
/-- java/lang/RuntimeException -/
def k11 : Class := { plain "java/lang/RuntimeException" (some 10) with
  accessFlags := 33
  interfaces := #[]
  cf := some (fileOf pool11 19 #[] #[{ accessFlags := 1, nameIndex := 5, descriptorIndex := 6, attributes := #[] }, { accessFlags := 1, nameIndex := 5, descriptorIndex := 9, attributes := #[] }] 33 2 #[] #[{ accessFlags := 24, nameIndex := 21, descriptorIndex := 22, attributes := #[] }])
  fields := #[{ name := "serialVersionUID", type := .long, accessFlags := 24, slot := 0, constantValue := 0 }]
  methods := #[k11m0, k11m1]
  instanceTypes := #[(.object "java/lang/Object"), (.object "java/lang/String"), (.object "java/lang/Throwable"), (.array (.object "java/lang/StackTraceElement")), .int, (.object "java/util/List")]
  staticTypes := #[.long]
  resolved := Array.replicate 40 none
  statics := none }

def pool12 : Array CpInfo := pool [(1, .methodref 2 3), (0, .class_ 4), (0, .nameAndType 5 6), (0, u "java/lang/RuntimeException"), (0, u "<init>"), (0, u "(Ljava/lang/String;)V"), (3, .fieldref 11 12), (0, .class_ 13), (0, .nameAndType 14 15), (0, u "nephrite/EvaluationException"), (0, u "line"), (0, u "I"), (0, .fieldref 11 17), (0, .nameAndType 18 19), (0, u "templateName"), (0, u "Ljava/lang/String;"), (0, u "serialVersionUID"), (0, u "J"), (5, u "on"), (0, u "(Ljava/lang/String;I)Lnephrite/EvaluationException;"), (1, u "()Ljava/lang/String;"), (0, u "()I")] 2

def k12c0 : Code := { maxStack := 2, maxLocals := 2, code := prog_36_method_1_code, exceptionTable := #[], attributes := #[] }
def k12m0 : Method := { name := "<init>", desc := "(Ljava/lang/String;)V", sig := { parameters := [(.object "java/lang/String")], returnType := none }, accessFlags := 0, code := some k12c0 }
def k12c1 : Code := { maxStack := 2, maxLocals := 3, code := prog_36_method_3_code, exceptionTable := #[], attributes := #[] }
def k12m1 : Method := { name := "on", desc := "(Ljava/lang/String;I)Lnephrite/EvaluationException;", sig := { parameters := [(.object "java/lang/String"), .int], returnType := some (.object "nephrite/EvaluationException") }, accessFlags := 0, code := some k12c1 }
def k12c2 : Code := { maxStack := 1, maxLocals := 1, code := prog_36_method_4_code, exceptionTable := #[], attributes := #[] }
def k12m2 : Method := { name := "templateName", desc := "()Ljava/lang/String;", sig := { parameters := [], returnType := some (.object "java/lang/String") }, accessFlags := 0, code := some k12c2 }
def k12c3 : Code := { maxStack := 1, maxLocals := 1, code := prog_36_method_5_code, exceptionTable := #[], attributes := #[] }
def k12m3 : Method := { name := "line", desc := "()I", sig := { parameters := [], returnType := some .int }, accessFlags := 0, code := some k12c3 }
/-- nephrite/EvaluationException -/
def k12 : Class := { plain "nephrite/EvaluationException" (some 11) with
  accessFlags := 48
  interfaces := #[]
  cf := some (fileOf pool12 11 #[] #[{ accessFlags := 0, nameIndex := 5, descriptorIndex := 6, attributes := #[] }, { accessFlags := 0, nameIndex := 27, descriptorIndex := 28, attributes := #[] }, { accessFlags := 0, nameIndex := 18, descriptorIndex := 30, attributes := #[] }, { accessFlags := 0, nameIndex := 14, descriptorIndex := 31, attributes := #[] }] 48 2 #[] #[{ accessFlags := 26, nameIndex := 20, descriptorIndex := 21, attributes := #[] }, { accessFlags := 2, nameIndex := 18, descriptorIndex := 19, attributes := #[] }, { accessFlags := 2, nameIndex := 14, descriptorIndex := 15, attributes := #[] }])
  fields := #[{ name := "serialVersionUID", type := .long, accessFlags := 26, slot := 0, constantValue := 0 }, { name := "templateName", type := (.object "java/lang/String"), accessFlags := 2, slot := 6, constantValue := 0 }, { name := "line", type := .int, accessFlags := 2, slot := 7, constantValue := 0 }]
  methods := #[k12m0, k12m1, k12m2, k12m3]
  instanceTypes := #[(.object "java/lang/Object"), (.object "java/lang/String"), (.object "java/lang/Throwable"), (.array (.object "java/lang/StackTraceElement")), .int, (.object "java/util/List"), (.object "java/lang/String"), .int]
  staticTypes := #[.long]
  resolved := Array.replicate 34 none
  statics := none }

def pool13 : Array CpInfo := pool [(4, .class_ 6), (1, u "java/lang/Object"), (0, u "<init>"), (0, u "()V"), (5, .class_ 16), (1, u "java/lang/StringLatin1"), (104, u "$assertionsDisabled"), (0, u "Z"), (98, .class_ 223), (1, u "java/lang/StringLatin1$LinesSpliterator"), (166, .class_ 391), (0, u "java/lang/StringLatin1$CharsSpliterator")] 3

def k13m0 : Method := { name := "<init>", desc := "()V", sig := { parameters := [], returnType := none }, accessFlags := 0, code := none }
/-- java/lang/StringLatin1 -/
def k13 : Class := { plain "java/lang/StringLatin1" (some 0) with
  accessFlags := 48
  interfaces := #[]
  cf := some (fileOf pool13 14 #[.nestMembers #[390, 221]] #[{ accessFlags := 0, nameIndex := 7, descriptorIndex := 8, attributes := #[] }] 48 4 #[] #[{ accessFlags := 4120, nameIndex := 121, descriptorIndex := 122, attributes := #[] }])
  fields := #[{ name := "$assertionsDisabled", type := .boolean, accessFlags := 4120, slot := 0, constantValue := 0 }]
  methods := #[k13m0]
  instanceTypes := #[]
  staticTypes := #[.boolean]
  resolved := Array.replicate 395 none
  statics := none }

def pool14 : Array CpInfo := pool [(2, .class_ 4), (1, u "java/lang/Object"), (0, u "<init>"), (0, u "()V"), (17, .class_ 26), (1, u "jdk/internal/util/Preconditions"), (28, .class_ 56), (0, u "jdk/internal/util/Preconditions$4"), (57, .class_ 115), (0, u "jdk/internal/util/Preconditions$1"), (7, u "SIOOBE_FORMATTER"), (0, u "Ljava/util/function/BiFunction;"), (0, .class_ 126), (0, u "jdk/internal/util/Preconditions$2"), (3, u "AIOOBE_FORMATTER"), (0, .class_ 132), (0, u "jdk/internal/util/Preconditions$3"), (3, u "IOOBE_FORMATTER")] 57

def k14m0 : Method := { name := "<init>", desc := "()V", sig := { parameters := [], returnType := none }, accessFlags := 1, code := none }
/-- jdk/internal/util/Preconditions -/
def k14 : Class := { plain "jdk/internal/util/Preconditions" (some 0) with
  accessFlags := 33
  interfaces := #[]
  cf := some (fileOf pool14 24 #[.nestMembers #[55, 131, 125, 114]] #[{ accessFlags := 1, nameIndex := 5, descriptorIndex := 6, attributes := #[] }] 33 2 #[] #[{ accessFlags := 25, nameIndex := 123, descriptorIndex := 124, attributes := #[] }, { accessFlags := 25, nameIndex := 130, descriptorIndex := 124, attributes := #[] }, { accessFlags := 25, nameIndex := 136, descriptorIndex := 124, attributes := #[] }])
  fields := #[{ name := "SIOOBE_FORMATTER", type := (.object "java/util/function/BiFunction"), accessFlags := 25, slot := 0, constantValue := 0 }, { name := "AIOOBE_FORMATTER", type := (.object "java/util/function/BiFunction"), accessFlags := 25, slot := 1, constantValue := 0 }, { name := "IOOBE_FORMATTER", type := (.object "java/util/function/BiFunction"), accessFlags := 25, slot := 2, constantValue := 0 }]
  methods := #[k14m0]
  instanceTypes := #[]
  staticTypes := #[(.object "java/util/function/BiFunction"), (.object "java/util/function/BiFunction"), (.object "java/util/function/BiFunction")]
  resolved := Array.replicate 194 none
  statics := some 2 }

def pool15 : Array CpInfo := pool [(9, u "<init>"), (6, .class_ 18), (1, u "java/lang/Object"), (0, u "()V"), (1, .class_ 23), (1, u "jdk/internal/util/ArraysSupport"), (0, u "LOG2_ARRAY_LONG_INDEX_SCALE"), (0, u "I"), (2, u "U"), (0, u "Ljdk/internal/misc/Unsafe;"), (8, u "BIG_ENDIAN"), (0, u "Z"), (8, u "LOG2_BYTE_BIT_SIZE"), (4, u "LOG2_ARRAY_INT_INDEX_SCALE"), (54, u "JLA"), (0, u "Ljdk/internal/access/JavaLangAccess;"), (11, u "LOG2_ARRAY_BOOLEAN_INDEX_SCALE"), (9, u "LOG2_ARRAY_BYTE_INDEX_SCALE"), (5, u "LOG2_ARRAY_CHAR_INDEX_SCALE"), (5, u "LOG2_ARRAY_SHORT_INDEX_SCALE"), (18, u "LOG2_ARRAY_FLOAT_INDEX_SCALE"), (24, u "LOG2_ARRAY_DOUBLE_INDEX_SCALE"), (89, u "T_BOOLEAN"), (2, u "T_CHAR"), (1, u "T_FLOAT"), (1, u "T_DOUBLE"), (1, u "T_BYTE"), (1, u "T_SHORT"), (1, u "T_INT"), (1, u "T_LONG"), (1, u "SOFT_MAX_ARRAY_LENGTH")] 83

def k15m0 : Method := { name := "<init>", desc := "()V", sig := { parameters := [], returnType := none }, accessFlags := 2, code := none }
/-- jdk/internal/util/ArraysSupport -/
def k15 : Class := { plain "jdk/internal/util/ArraysSupport" (some 0) with
  accessFlags := 33
  interfaces := #[]
  cf := some (fileOf pool15 21 #[] #[{ accessFlags := 2, nameIndex := 9, descriptorIndex := 19, attributes := #[] }] 33 16 #[] #[{ accessFlags := 24, nameIndex := 28, descriptorIndex := 29, attributes := #[] }, { accessFlags := 26, nameIndex := 38, descriptorIndex := 39, attributes := #[] }, { accessFlags := 25, nameIndex := 121, descriptorIndex := 25, attributes := #[] }, { accessFlags := 25, nameIndex := 131, descriptorIndex := 25, attributes := #[] }, { accessFlags := 25, nameIndex := 137, descriptorIndex := 25, attributes := #[] }, { accessFlags := 25, nameIndex := 143, descriptorIndex := 25, attributes := #[] }, { accessFlags := 25, nameIndex := 53, descriptorIndex := 25, attributes := #[] }, { accessFlags := 25, nameIndex := 24, descriptorIndex := 25, attributes := #[] }, { accessFlags := 25, nameIndex := 162, descriptorIndex := 25, attributes := #[] }, { accessFlags := 25, nameIndex := 187, descriptorIndex := 25, attributes := #[] }, { accessFlags := 26, nameIndex := 48, descriptorIndex := 25, attributes := #[] }, { accessFlags := 25, nameIndex := 277, descriptorIndex := 25, attributes := #[] }, { accessFlags := 25, nameIndex := 280, descriptorIndex := 25, attributes := #[] }, { accessFlags := 25, nameIndex := 282, descriptorIndex := 25, attributes := #[] }, { accessFlags := 25, nameIndex := 284, descriptorIndex := 25, attributes := #[] }, { accessFlags := 25, nameIndex := 286, descriptorIndex := 25, attributes := #[] }, { accessFlags := 25, nameIndex := 288, descriptorIndex := 25, attributes := #[] }, { accessFlags := 25, nameIndex := 290, descriptorIndex := 25, attributes := #[] }, { accessFlags := 25, nameIndex := 292, descriptorIndex := 25, attributes := #[] }, { accessFlags := 26, nameIndex := 108, descriptorIndex := 109, attributes := #[] }, { accessFlags := 25, nameIndex := 294, descriptorIndex := 25, attributes := #[] }])
  fields := #[{ name := "U", type := (.object "jdk/internal/misc/Unsafe"), accessFlags := 24, slot := 0, constantValue := 0 }, { name := "BIG_ENDIAN", type := .boolean, accessFlags := 26, slot := 1, constantValue := 0 }, { name := "LOG2_ARRAY_BOOLEAN_INDEX_SCALE", type := .int, accessFlags := 25, slot := 2, constantValue := 0 }, { name := "LOG2_ARRAY_BYTE_INDEX_SCALE", type := .int, accessFlags := 25, slot := 3, constantValue := 0 }, { name := "LOG2_ARRAY_CHAR_INDEX_SCALE", type := .int, accessFlags := 25, slot := 4, constantValue := 0 }, { name := "LOG2_ARRAY_SHORT_INDEX_SCALE", type := .int, accessFlags := 25, slot := 5, constantValue := 0 }, { name := "LOG2_ARRAY_INT_INDEX_SCALE", type := .int, accessFlags := 25, slot := 6, constantValue := 0 }, { name := "LOG2_ARRAY_LONG_INDEX_SCALE", type := .int, accessFlags := 25, slot := 7, constantValue := 0 }, { name := "LOG2_ARRAY_FLOAT_INDEX_SCALE", type := .int, accessFlags := 25, slot := 8, constantValue := 0 }, { name := "LOG2_ARRAY_DOUBLE_INDEX_SCALE", type := .int, accessFlags := 25, slot := 9, constantValue := 0 }, { name := "LOG2_BYTE_BIT_SIZE", type := .int, accessFlags := 26, slot := 10, constantValue := 0 }, { name := "T_BOOLEAN", type := .int, accessFlags := 25, slot := 11, constantValue := 0 }, { name := "T_CHAR", type := .int, accessFlags := 25, slot := 12, constantValue := 0 }, { name := "T_FLOAT", type := .int, accessFlags := 25, slot := 13, constantValue := 0 }, { name := "T_DOUBLE", type := .int, accessFlags := 25, slot := 14, constantValue := 0 }, { name := "T_BYTE", type := .int, accessFlags := 25, slot := 15, constantValue := 0 }, { name := "T_SHORT", type := .int, accessFlags := 25, slot := 16, constantValue := 0 }, { name := "T_INT", type := .int, accessFlags := 25, slot := 17, constantValue := 0 }, { name := "T_LONG", type := .int, accessFlags := 25, slot := 18, constantValue := 0 }, { name := "JLA", type := (.object "jdk/internal/access/JavaLangAccess"), accessFlags := 26, slot := 19, constantValue := 0 }, { name := "SOFT_MAX_ARRAY_LENGTH", type := .int, accessFlags := 25, slot := 20, constantValue := 0 }]
  methods := #[k15m0]
  instanceTypes := #[]
  staticTypes := #[(.object "jdk/internal/misc/Unsafe"), .boolean, .int, .int, .int, .int, .int, .int, .int, .int, .int, .int, .int, .int, .int, .int, .int, .int, .int, (.object "jdk/internal/access/JavaLangAccess"), .int]
  resolved := Array.replicate 378 none
  statics := none }

def pool16 : Array CpInfo := pool [(2, .class_ 4), (1, u "java/lang/Object"), (0, u "<init>"), (0, u "()V"), (12, .class_ 20), (0, u "java/util/Collections"), (63, u "r"), (0, u "Ljava/util/Random;"), (80, .class_ 167), (0, u "java/util/Collections$UnmodifiableCollection"), (6, .class_ 175), (0, u "java/util/Collections$UnmodifiableSequencedCollection"), (6, .class_ 183), (0, u "java/util/Collections$UnmodifiableSet"), (6, .class_ 191), (0, u "java/util/Collections$UnmodifiableSequencedSet"), (6, .class_ 199), (0, u "java/util/Collections$UnmodifiableSortedSet"), (6, .class_ 207), (0, u "java/util/Collections$UnmodifiableNavigableSet"), (4, .class_ 213), (0, u "java/util/Collections$UnmodifiableList"), (1, .class_ 216), (0, u "java/util/Collections$UnmodifiableRandomAccessList"), (6, .class_ 224), (0, u "java/util/Collections$UnmodifiableMap"), (6, .class_ 232), (0, u "java/util/Collections$UnmodifiableSequencedMap"), (4, .class_ 238), (0, u "java/util/Collections$UnmodifiableSortedMap"), (6, .class_ 246), (0, u "java/util/Collections$UnmodifiableNavigableMap"), (3, .class_ 251), (0, u "java/util/Collections$SynchronizedCollection"), (4, .class_ 257), (0, u "java/util/Collections$SynchronizedSet"), (4, .class_ 263), (0, u "java/util/Collections$SynchronizedSortedSet"), (1, .class_ 266), (0, u "java/util/Collections$SynchronizedNavigableSet"), (1, .class_ 269), (0, u "java/util/Collections$SynchronizedRandomAccessList"), (1, .class_ 272), (0, u "java/util/Collections$SynchronizedList"), (5, .class_ 279), (0, u "java/util/Collections$SynchronizedMap"), (1, .class_ 282), (0, u "java/util/Collections$SynchronizedSortedMap"), (1, .class_ 285), (0, u "java/util/Collections$SynchronizedNavigableMap"), (1, .class_ 288), (0, u "java/util/Collections$CheckedCollection"), (11, .class_ 301), (0, u "java/util/Collections$CheckedQueue"), (3, .class_ 306), (0, u "java/util/Collections$CheckedSet"), (3, .class_ 311), (0, u "java/util/Collections$CheckedSortedSet"), (3, .class_ 316), (0, u "java/util/Collections$CheckedNavigableSet"), (3, .class_ 321), (0, u "java/util/Collections$CheckedRandomAccessList"), (3, .class_ 326), (0, u "java/util/Collections$CheckedList"), (1, .class_ 329), (0, u "java/util/Collections$CheckedMap"), (3, .class_ 334), (0, u "java/util/Collections$CheckedSortedMap"), (3, .class_ 339), (0, u "java/util/Collections$CheckedNavigableMap"), (4, .class_ 346), (1, u "java/util/Collections$EmptyIterator"), (3, .class_ 352), (1, u "java/util/Collections$EmptyListIterator"), (2, .class_ 357), (1, u "java/util/Collections$EmptyEnumeration"), (4, u "EMPTY_SET"), (0, u "Ljava/util/Set;"), (6, u "EMPTY_LIST"), (0, u "Ljava/util/List;"), (2, u "EMPTY_MAP"), (0, u "Ljava/util/Map;"), (4, .class_ 381), (0, u "java/util/Collections$SingletonSet"), (2, .class_ 385), (0, u "java/util/Collections$1"), (1, .class_ 388), (0, u "java/util/Collections$2"), (1, .class_ 391), (0, u "java/util/Collections$SingletonList"), (1, .class_ 394), (0, u "java/util/Collections$SingletonMap"), (22, .class_ 418), (0, u "java/util/Collections$CopiesList"), (4, .class_ 425), (1, u "java/util/Collections$ReverseComparator"), (8, .class_ 435), (0, u "java/util/Collections$ReverseComparator2"), (6, .class_ 443), (0, u "java/util/Collections$3"), (25, .class_ 470), (0, u "java/util/Collections$SetFromMap"), (2, .class_ 474), (0, u "java/util/Collections$SequencedSetFromMap"), (3, .class_ 479), (0, u "java/util/Collections$AsLIFOQueue"), (11, .class_ 492), (0, u "java/util/Collections$EmptySet"), (1, .class_ 495), (0, u "java/util/Collections$EmptyList"), (1, .class_ 498), (0, u "java/util/Collections$EmptyMap"), (1, u "BINARYSEARCH_THRESHOLD"), (0, u "I"), (2, u "REVERSE_THRESHOLD"), (1, u "SHUFFLE_THRESHOLD"), (1, u "FILL_THRESHOLD"), (1, u "ROTATE_THRESHOLD"), (1, u "COPY_THRESHOLD"), (1, u "REPLACEALL_THRESHOLD"), (1, u "INDEXOFSUBLIST_THRESHOLD"), (333, .class_ 851), (0, u "java/util/Collections$CheckedMap$CheckedEntrySet"), (0, .class_ 853), (0, u "java/util/Collections$CheckedMap$CheckedEntrySet$CheckedEntry"), (0, .class_ 855), (0, u "java/util/Collections$CheckedMap$CheckedEntrySet$1"), (0, .class_ 857), (0, u "java/util/Collections$CheckedList$1"), (0, .class_ 859), (0, u "java/util/Collections$CheckedCollection$1"), (0, .class_ 861), (0, u "java/util/Collections$UnmodifiableNavigableMap$EmptyNavigableMap"), (0, .class_ 863), (0, u "java/util/Collections$UnmodifiableMap$UnmodifiableEntrySet"), (0, .class_ 865), (0, u "java/util/Collections$UnmodifiableMap$UnmodifiableEntrySet$UnmodifiableEntry"), (0, .class_ 867), (0, u "java/util/Collections$UnmodifiableMap$UnmodifiableEntrySet$UnmodifiableEntrySetSpliterator"), (0, .class_ 869), (0, u "java/util/Collections$UnmodifiableMap$UnmodifiableEntrySet$1"), (0, .class_ 871), (0, u "java/util/Collections$UnmodifiableList$1"), (0, .class_ 873), (0, u "java/util/Collections$UnmodifiableNavigableSet$EmptyNavigableSet"), (0, .class_ 875), (0, u "java/util/Collections$UnmodifiableCollection$1")] 57

def k16m0 : Method := { name := "<init>", desc := "()V", sig := { parameters := [], returnType := none }, accessFlags := 2, code := none }
/-- java/util/Collections -/
def k16 : Class := { plain "java/util/Collections" (some 0) with
  accessFlags := 33
  interfaces := #[]
  cf := some (fileOf pool16 19 #[.nestMembers #[478, 473, 469, 434, 423, 417, 393, 390, 380, 497, 494, 491, 355, 350, 344, 338, 333, 328, 850, 852, 854, 320, 325, 856, 315, 310, 305, 300, 287, 858, 284, 281, 278, 268, 271, 265, 262, 256, 250, 245, 860, 237, 231, 223, 862, 864, 866, 868, 215, 212, 870, 206, 872, 198, 190, 182, 174, 166, 874, 442, 387, 384]] #[{ accessFlags := 2, nameIndex := 5, descriptorIndex := 6, attributes := #[] }] 33 2 #[] #[{ accessFlags := 26, nameIndex := 500, descriptorIndex := 501, attributes := #[] }, { accessFlags := 26, nameIndex := 504, descriptorIndex := 501, attributes := #[] }, { accessFlags := 26, nameIndex := 506, descriptorIndex := 501, attributes := #[] }, { accessFlags := 26, nameIndex := 508, descriptorIndex := 501, attributes := #[] }, { accessFlags := 26, nameIndex := 510, descriptorIndex := 501, attributes := #[] }, { accessFlags := 26, nameIndex := 512, descriptorIndex := 501, attributes := #[] }, { accessFlags := 26, nameIndex := 514, descriptorIndex := 501, attributes := #[] }, { accessFlags := 26, nameIndex := 516, descriptorIndex := 501, attributes := #[] }, { accessFlags := 10, nameIndex := 84, descriptorIndex := 85, attributes := #[] }, { accessFlags := 25, nameIndex := 362, descriptorIndex := 363, attributes := #[] }, { accessFlags := 25, nameIndex := 370, descriptorIndex := 371, attributes := #[] }, { accessFlags := 25, nameIndex := 374, descriptorIndex := 375, attributes := #[] }])
  fields := #[{ name := "BINARYSEARCH_THRESHOLD", type := .int, accessFlags := 26, slot := 0, constantValue := 0 }, { name := "REVERSE_THRESHOLD", type := .int, accessFlags := 26, slot := 1, constantValue := 0 }, { name := "SHUFFLE_THRESHOLD", type := .int, accessFlags := 26, slot := 2, constantValue := 0 }, { name := "FILL_THRESHOLD", type := .int, accessFlags := 26, slot := 3, constantValue := 0 }, { name := "ROTATE_THRESHOLD", type := .int, accessFlags := 26, slot := 4, constantValue := 0 }, { name := "COPY_THRESHOLD", type := .int, accessFlags := 26, slot := 5, constantValue := 0 }, { name := "REPLACEALL_THRESHOLD", type := .int, accessFlags := 26, slot := 6, constantValue := 0 }, { name := "INDEXOFSUBLIST_THRESHOLD", type := .int, accessFlags := 26, slot := 7, constantValue := 0 }, { name := "r", type := (.object "java/util/Random"), accessFlags := 10, slot := 8, constantValue := 0 }, { name := "EMPTY_SET", type := (.object "java/util/Set"), accessFlags := 25, slot := 9, constantValue := 0 }, { name := "EMPTY_LIST", type := (.object "java/util/List"), accessFlags := 25, slot := 10, constantValue := 0 }, { name := "EMPTY_MAP", type := (.object "java/util/Map"), accessFlags := 25, slot := 11, constantValue := 0 }]
  methods := #[k16m0]
  instanceTypes := #[]
  staticTypes := #[.int, .int, .int, .int, .int, .int, .int, .int, (.object "java/util/Random"), (.object "java/util/Set"), (.object "java/util/List"), (.object "java/util/Map")]
  resolved := Array.replicate 933 none
  statics := some 3 }

def pool17 : Array CpInfo := pool [(8, .class_ 10), (1, u "java/lang/Iterable"), (24, .class_ 36), (0, u "java/lang/Object")] 25

/-- java/lang/Iterable -/
def k17 : Class := { plain "java/lang/Iterable" (some 0) with
  accessFlags := 1537
  interfaces := #[]
  cf := some (fileOf pool17 8 #[] #[] 1537 35 #[] #[])
  fields := #[]
  methods := #[]
  instanceTypes := #[]
  staticTypes := #[]
  resolved := Array.replicate 62 none
  statics := none }

def pool18 : Array CpInfo := pool [(10, .class_ 12), (1, u "java/util/Collection"), (47, .class_ 61), (0, u "java/lang/Object"), (0, .class_ 63), (0, u "java/lang/Iterable")] 51

/-- java/util/Collection -/
def k18 : Class := { plain "java/util/Collection" (some 0) with
  accessFlags := 1537
  interfaces := #[17]
  cf := some (fileOf pool18 10 #[] #[] 1537 60 #[62] #[])
  fields := #[]
  methods := #[]
  instanceTypes := #[]
  staticTypes := #[]
  resolved := Array.replicate 115 none
  statics := none }

def pool19 : Array CpInfo := pool [(2, .class_ 4), (1, u "java/lang/Object"), (0, u "<init>"), (0, u "()V"), (1, .class_ 10), (1, u "java/util/AbstractCollection"), (66, .class_ 78), (0, u "java/util/Collection")] 81

def k19m0 : Method := { name := "<init>", desc := "()V", sig := { parameters := [], returnType := none }, accessFlags := 4, code := none }
/-- java/util/AbstractCollection -/
def k19 : Class := { plain "java/util/AbstractCollection" (some 0) with
  accessFlags := 1057
  interfaces := #[18]
  cf := some (fileOf pool19 8 #[] #[{ accessFlags := 4, nameIndex := 5, descriptorIndex := 6, attributes := #[] }] 1057 2 #[77] #[])
  fields := #[]
  methods := #[k19m0]
  instanceTypes := #[]
  staticTypes := #[]
  resolved := Array.replicate 160 none
  statics := none }

def pool20 : Array CpInfo := pool [(8, .class_ 10), (1, u "java/util/SequencedCollection"), (15, .class_ 27), (0, u "java/lang/Object"), (0, .class_ 29), (0, u "java/util/Collection")] 27

/-- java/util/SequencedCollection -/
def k20 : Class := { plain "java/util/SequencedCollection" (some 0) with
  accessFlags := 1537
  interfaces := #[18]
  cf := some (fileOf pool20 8 #[] #[] 1537 26 #[28] #[])
  fields := #[]
  methods := #[]
  instanceTypes := #[]
  staticTypes := #[]
  resolved := Array.replicate 57 none
  statics := none }

def pool21 : Array CpInfo := pool [(8, .class_ 10), (1, u "java/util/List"), (92, .class_ 104), (0, u "java/lang/Object"), (15, .class_ 121), (0, u "java/util/SequencedCollection")] 129

/-- java/util/List -/
def k21 : Class := { plain "java/util/List" (some 0) with
  accessFlags := 1537
  interfaces := #[20]
  cf := some (fileOf pool21 8 #[] #[] 1537 103 #[120] #[])
  fields := #[]
  methods := #[]
  instanceTypes := #[]
  staticTypes := #[]
  resolved := Array.replicate 251 none
  statics := none }

def pool22 : Array CpInfo := pool [(2, .class_ 4), (1, u "java/util/AbstractCollection"), (0, u "<init>"), (0, u "()V"), (1, .class_ 10), (1, u "java/util/AbstractList"), (0, u "modCount"), (0, u "I"), (64, .class_ 78), (0, u "java/util/AbstractList$Itr"), (3, .class_ 83), (0, u "java/util/AbstractList$ListItr"), (9, .class_ 94), (0, u "java/util/AbstractList$RandomAccessSubList"), (3, .class_ 99), (0, u "java/util/AbstractList$SubList"), (33, .class_ 134), (0, u "java/util/List"), (73, .class_ 209), (0, u "java/util/AbstractList$SubList$1"), (0, .class_ 211), (0, u "java/util/AbstractList$RandomAccessSpliterator")] 6

def k22m0 : Method := { name := "<init>", desc := "()V", sig := { parameters := [], returnType := none }, accessFlags := 4, code := none }
/-- java/util/AbstractList -/
def k22 : Class := { plain "java/util/AbstractList" (some 19) with
  accessFlags := 1057
  interfaces := #[21]
  cf := some (fileOf pool22 8 #[.nestMembers #[93, 98, 208, 210, 82, 77]] #[{ accessFlags := 4, nameIndex := 5, descriptorIndex := 6, attributes := #[] }] 1057 2 #[133] #[{ accessFlags := 132, nameIndex := 11, descriptorIndex := 12, attributes := #[] }])
  fields := #[{ name := "modCount", type := .int, accessFlags := 132, slot := 0, constantValue := 0 }]
  methods := #[k22m0]
  instanceTypes := #[.int]
  staticTypes := #[]
  resolved := Array.replicate 218 none
  statics := none }

def pool23 : Array CpInfo := pool [(1, .class_ 2), (0, u "java/util/RandomAccess"), (0, .class_ 4), (0, u "java/lang/Object")] 2

/-- java/util/RandomAccess -/
def k23 : Class := { plain "java/util/RandomAccess" (some 0) with
  accessFlags := 1537
  interfaces := #[]
  cf := some (fileOf pool23 1 #[] #[] 1537 3 #[] #[])
  fields := #[]
  methods := #[]
  instanceTypes := #[]
  staticTypes := #[]
  resolved := Array.replicate 7 none
  statics := none }

def pool24 : Array CpInfo := pool [(2, .class_ 4), (1, u "java/util/AbstractList"), (0, u "<init>"), (0, u "()V"), (1, .class_ 10), (1, u "java/util/Collections"), (54, .class_ 66), (0, u "java/util/Collections$EmptyList"), (0, .class_ 68), (0, u "java/util/RandomAccess"), (0, .class_ 70), (0, u "java/io/Serializable"), (0, u "serialVersionUID"), (0, u "J")] 77

def k24m0 : Method := { name := "<init>", desc := "()V", sig := { parameters := [], returnType := none }, accessFlags := 2, code := none }
/-- java/util/Collections$EmptyList -/
def k24 : Class := { plain "java/util/Collections$EmptyList" (some 22) with
  accessFlags := 32
  interfaces := #[23, 2]
  cf := some (fileOf pool24 65 #[.nestHost 8] #[{ accessFlags := 2, nameIndex := 5, descriptorIndex := 6, attributes := #[] }] 32 2 #[67, 69] #[{ accessFlags := 26, nameIndex := 71, descriptorIndex := 72, attributes := #[] }])
  fields := #[{ name := "serialVersionUID", type := .long, accessFlags := 26, slot := 0, constantValue := 0 }]
  methods := #[k24m0]
  instanceTypes := #[.int]
  staticTypes := #[.long]
  resolved := Array.replicate 150 none
  statics := none }

def pool25 : Array CpInfo := pool [(2, .class_ 4), (1, u "java/lang/StackTraceElement"), (0, u "<init>"), (2, .class_ 10), (1, u "java/lang/Object"), (0, u "()V"), (2, u "format"), (0, u "B"), (2, u "classLoaderName"), (0, u "Ljava/lang/String;"), (2, u "moduleName"), (2, u "moduleVersion"), (12, u "declaringClass"), (4, u "methodName"), (2, u "fileName"), (2, u "lineNumber"), (0, u "I"), (65, u "declaringClassObject"), (0, u "Ljava/lang/Class;"), (33, .class_ 153), (1, u "java/lang/StackTraceElement$HashedModules"), (17, .class_ 172), (0, u "java/io/Serializable"), (0, u "NATIVE_METHOD"), (1, u "UNKNOWN_SOURCE"), (2, u "BUILTIN_CLASS_LOADER"), (1, u "JDK_NON_UPGRADEABLE_MODULE"), (1, u "serialVersionUID"), (0, u "J")] 51

def k25m0 : Method := { name := "<init>", desc := "()V", sig := { parameters := [], returnType := none }, accessFlags := 2, code := none }
/-- java/lang/StackTraceElement -/
def k25 : Class := { plain "java/lang/StackTraceElement" (some 0) with
  accessFlags := 49
  interfaces := #[2]
  cf := some (fileOf pool25 2 #[.nestMembers #[151]] #[{ accessFlags := 2, nameIndex := 5, descriptorIndex := 11, attributes := #[] }] 49 8 #[171] #[{ accessFlags := 26, nameIndex := 173, descriptorIndex := 19, attributes := #[] }, { accessFlags := 26, nameIndex := 175, descriptorIndex := 19, attributes := #[] }, { accessFlags := 130, nameIndex := 116, descriptorIndex := 117, attributes := #[] }, { accessFlags := 2, nameIndex := 18, descriptorIndex := 19, attributes := #[] }, { accessFlags := 2, nameIndex := 22, descriptorIndex := 19, attributes := #[] }, { accessFlags := 2, nameIndex := 25, descriptorIndex := 19, attributes := #[] }, { accessFlags := 2, nameIndex := 38, descriptorIndex := 19, attributes := #[] }, { accessFlags := 2, nameIndex := 43, descriptorIndex := 19, attributes := #[] }, { accessFlags := 2, nameIndex := 46, descriptorIndex := 19, attributes := #[] }, { accessFlags := 2, nameIndex := 49, descriptorIndex := 50, attributes := #[] }, { accessFlags := 2, nameIndex := 14, descriptorIndex := 15, attributes := #[] }, { accessFlags := 26, nameIndex := 178, descriptorIndex := 15, attributes := #[] }, { accessFlags := 26, nameIndex := 180, descriptorIndex := 15, attributes := #[] }, { accessFlags := 26, nameIndex := 182, descriptorIndex := 183, attributes := #[] }])
  fields := #[{ name := "NATIVE_METHOD", type := (.object "java/lang/String"), accessFlags := 26, slot := 0, constantValue := 0 }, { name := "UNKNOWN_SOURCE", type := (.object "java/lang/String"), accessFlags := 26, slot := 1, constantValue := 0 }, { name := "declaringClassObject", type := (.object "java/lang/Class"), accessFlags := 130, slot := 0, constantValue := 0 }, { name := "classLoaderName", type := (.object "java/lang/String"), accessFlags := 2, slot := 1, constantValue := 0 }, { name := "moduleName", type := (.object "java/lang/String"), accessFlags := 2, slot := 2, constantValue := 0 }, { name := "moduleVersion", type := (.object "java/lang/String"), accessFlags := 2, slot := 3, constantValue := 0 }, { name := "declaringClass", type := (.object "java/lang/String"), accessFlags := 2, slot := 4, constantValue := 0 }, { name := "methodName", type := (.object "java/lang/String"), accessFlags := 2, slot := 5, constantValue := 0 }, { name := "fileName", type := (.object "java/lang/String"), accessFlags := 2, slot := 6, constantValue := 0 }, { name := "lineNumber", type := .int, accessFlags := 2, slot := 7, constantValue := 0 }, { name := "format", type := .byte, accessFlags := 2, slot := 8, constantValue := 0 }, { name := "BUILTIN_CLASS_LOADER", type := .byte, accessFlags := 26, slot := 2, constantValue := 0 }, { name := "JDK_NON_UPGRADEABLE_MODULE", type := .byte, accessFlags := 26, slot := 3, constantValue := 0 }, { name := "serialVersionUID", type := .long, accessFlags := 26, slot := 4, constantValue := 0 }]
  methods := #[k25m0]
  instanceTypes := #[(.object "java/lang/Class"), (.object "java/lang/String"), (.object "java/lang/String"), (.object "java/lang/String"), (.object "java/lang/String"), (.object "java/lang/String"), (.object "java/lang/String"), .int, .byte]
  staticTypes := #[(.object "java/lang/String"), (.object "java/lang/String"), .byte, .byte, .long]
  resolved := Array.replicate 235 none
  statics := none }

def pool26 : Array CpInfo := pool [(1, u "java/lang/Cloneable"), (0, .class_ 1), (0, u "java/lang/Object"), (0, .class_ 3)] 3

/-- java/lang/Cloneable -/
def k26 : Class := { plain "java/lang/Cloneable" (some 0) with
  accessFlags := 1537
  interfaces := #[]
  cf := some (fileOf pool26 2 #[] #[] 1537 4 #[] #[])
  fields := #[]
  methods := #[]
  instanceTypes := #[]
  staticTypes := #[]
  resolved := Array.replicate 8 none
  statics := none }

/-- the primitive byte -/
def k27 : Class := { plain "byte" none with kind := .primitive 'B', accessFlags := 0x411 }
/-- [B -/
def k28 : Class := { plain "[B" (some 0) with kind := .array 27 .byte, interfaces := #[26, 2], accessFlags := 1041 }

/-- the primitive char -/
def k29 : Class := { plain "char" none with kind := .primitive 'C', accessFlags := 0x411 }
/-- [C -/
def k30 : Class := { plain "[C" (some 0) with kind := .array 29 .char, interfaces := #[26, 2], accessFlags := 1041 }

/-- the primitive int -/
def k31 : Class := { plain "int" none with kind := .primitive 'I', accessFlags := 0x411 }
/-- [I -/
def k32 : Class := { plain "[I" (some 0) with kind := .array 31 .int, interfaces := #[26, 2], accessFlags := 1041 }

/-- [Ljava/lang/Object; -/
def k33 : Class := { plain "[Ljava/lang/Object;" (some 0) with kind := .array 0 (.object "java/lang/Object"), interfaces := #[26, 2], accessFlags := 1041 }

/-- [Ljava/lang/StackTraceElement; -/
def k34 : Class := { plain "[Ljava/lang/StackTraceElement;" (some 0) with kind := .array 25 (.object "java/lang/StackTraceElement"), interfaces := #[26, 2], accessFlags := 1041 }

/-- [Ljava/lang/Throwable; -/
def k35 : Class := { plain "[Ljava/lang/Throwable;" (some 0) with kind := .array 9 (.object "java/lang/Throwable"), interfaces := #[26, 2], accessFlags := 1041 }

def heap : Heap := #[{ cls := 7, slots := #[.long 0, .int 1, .null, .int 0, .null, .int 0, .int 0], vm := .statics 7 },
  { cls := 9, slots := #[.long 0, .ref 4, .ref 5, .null, .null, .null, .null, .ref 6, .int 1], vm := .statics 9 },
  { cls := 14, slots := #[.null, .null, .null], vm := .statics 14 },
  { cls := 16, slots := #[.int 0, .int 0, .int 0, .int 0, .int 0, .int 0, .int 0, .int 0, .null, .null, .ref 5, .null], vm := .statics 16 },
  { cls := 34, slots := #[], vm := .none },
  { cls := 24, slots := #[.int 0], vm := .none },
  { cls := 35, slots := #[], vm := .none }]
def classes : Array Class := #[k0, k1, k2, k3, k4, k5, k6, k7, k8, k9, k10, k11, k12, k13, k14, k15, k16, k17, k18, k19, k20, k21, k22, k23, k24, k25, k26, k27, k28, k29, k30, k31, k32, k33, k34, k35]
def interned : List (Array UInt16 × Addr) := []
def slotsUsed : Nat := 32
def theMethod : MethodId := ⟨1, 2⟩
def args0 : Array Value := #[.int 3, .int 5, .int 65, .int 66, .int 0]
def aboutOver (below : List Frame) : State where
  vm := { classes := classes, interned := interned.toArray }
  heap := heap
  slotsUsed := slotsUsed
  threads := #[{ frames := .invoking theMethod args0 :: below }]
def below0 : List Frame := [.native { method := ⟨0, 0⟩, args := #[] }]
def about1 : State := aboutOver below0
def p0 : Program := .bare "" "" ""
def e0 : Env := launch0.env 0 0 0
theorem w_frames : about1.frames = Frame.invoking theMethod args0 :: below0 := rfl
set_option maxRecDepth 65536 in
theorem w_args : argsFit about1.vm theMethod args0 = true := by decide +kernel
set_option maxRecDepth 65536 in
theorem w_heap : heapFits about1 = true := by decide +kernel
set_option maxRecDepth 65536 in
theorem w_runnable : about1.curStatus? = some .runnable := by decide +kernel
set_option maxRecDepth 65536 in
theorem w_alone : about1.alone = true := by decide +kernel
set_option maxRecDepth 65536 in
theorem w_named : about1.methodNamed? x = some theMethod := by decide +kernel
set_option maxRecDepth 65536 in
theorem w_hears : about1.hears theMethod below0 = true := by decide +kernel
set_option maxRecDepth 65536 in
theorem w_ripe : about1.ripe theMethod args0 below0 = true := by decide +kernel
theorem w_running : about1.status = .running := rfl
set_option maxRecDepth 65536 in
theorem w_room : about1.hasRoom e0.platform room_1 = true :=
  launch0.hasRoom_least _ room_1 (by decide +kernel) (by decide +kernel) (by decide +kernel) (by decide +kernel) (by decide +kernel) (by decide +kernel)
theorem allAtoms_all (ts : List Jvm.Cond) (a : Array Jvm.Value) (st : Jvm.State) : (allAtoms ts).before a st = ts.all (fun c => c.before a st) := by
  induction ts with
  | nil => rfl
  | cons c t ih =>
    show (Jvm.Cond.and c (allAtoms t)).before a st = _
    rw [Jvm.Cond.before_and, ih, List.all_cons]
def words1 : List Jvm.Cond := Jvm.Cond.code x code maxLocals ret :: tables_1
/-- a 'code' word, met by the world's own term for the bytes: nothing is compared byte by byte -/
theorem code_word {y : MethodName} {bytes : ByteArray} {mx : Nat} {rt : Option FieldType} {a : Array Value} {s : State} {m : MethodId} {meth : Method} {c : Code} (h1 : s.methodNamed? y = some m) (h2 : s.vm.method? m = some meth) (h3 : meth.code = some c) (h4 : c.code = bytes)
    (h5 : (c.maxLocals == mx && c.exceptionTable.isEmpty && decide (c.maxStack ≤ mostOperands) && decide (meth.sig.returnType = rt) && !meth.locks && decide (parseMethodDescriptor y.desc = some meth.sig)) = true) : (Jvm.Cond.code y bytes mx rt).before a s = true := by
  simp only [Bool.and_eq_true, beq_iff_eq, Bool.not_eq_true', decide_eq_true_eq] at h5
  obtain ⟨⟨⟨⟨⟨g1, g2⟩, g3⟩, g4⟩, g5⟩, g6⟩ := h5
  simp [Cond.before, Cond.holds, Cond.value, h1, h2, h3, h4, g1, g2, g3, g4, g5, g6]
def isCode : Jvm.Cond → Bool
  | .code _ _ _ _ => true
  | _ => false
theorem all_split {L : List Jvm.Cond} {P : Jvm.Cond → Bool} (h1 : L.all (fun c => isCode c || P c) = true) (h2 : ∀ c ∈ L.filter isCode, P c = true) : L.all P = true := by
  refine List.all_eq_true.mpr fun c hc => ?_
  have h := List.all_eq_true.mp h1 c hc
  rcases Bool.eq_false_or_eq_true (isCode c) with hi | hi
  · exact h2 c (List.mem_filter.mpr ⟨hc, hi⟩)
  · simpa [hi] using h
set_option maxRecDepth 65536 in
theorem w_c0 : (Jvm.Cond.code x code maxLocals ret).before args0 about1 = true := code_word (m := ⟨1, 2⟩) (meth := k1m2) (c := k1c2) (by decide +kernel) rfl rfl rfl (by decide +kernel)
set_option maxRecDepth 65536 in
theorem w_c1 : (Jvm.Cond.code ({ cls := "nephrite/EvaluationExceptionOnPinLaw", name := "name", desc := "(IZ)Ljava/lang/String;" } : Jvm.MethodName) method_2_code (2 : Nat) (Option.some (Jvm.ClassFile.FieldType.object "java/lang/String"))).before args0 about1 = true := code_word (m := ⟨1, 1⟩) (meth := k1m1) (c := k1c1) (by decide +kernel) rfl rfl rfl (by decide +kernel)
set_option maxRecDepth 65536 in
theorem w_c2 : (Jvm.Cond.code ({ cls := "java/lang/String", name := "<init>", desc := "([C)V" } : Jvm.MethodName) jdk_42_method_3_code (2 : Nat) (Option.none : Option Jvm.ClassFile.FieldType)).before args0 about1 = true := code_word (m := ⟨7, 1⟩) (meth := k7m1) (c := k7c1) (by decide +kernel) rfl rfl rfl (by decide +kernel)
set_option maxRecDepth 65536 in
theorem w_c3 : (Jvm.Cond.code ({ cls := "java/lang/String", name := "<init>", desc := "([CIILjava/lang/Void;)V" } : Jvm.MethodName) jdk_42_method_149_code (6 : Nat) (Option.none : Option Jvm.ClassFile.FieldType)).before args0 about1 = true := code_word (m := ⟨7, 2⟩) (meth := k7m2) (c := k7c2) (by decide +kernel) rfl rfl rfl (by decide +kernel)
set_option maxRecDepth 65536 in
theorem w_c4 : (Jvm.Cond.code ({ cls := "java/lang/Object", name := "<init>", desc := "()V" } : Jvm.MethodName) object_method_1_code (1 : Nat) (Option.none : Option Jvm.ClassFile.FieldType)).before args0 about1 = true := code_word (m := ⟨0, 0⟩) (meth := k0m0) (c := k0c0) (by decide +kernel) rfl rfl rfl (by decide +kernel)
set_option maxRecDepth 65536 in
theorem w_c5 : (Jvm.Cond.code ({ cls := "java/lang/StringUTF16", name := "compress", desc := "([CII)[B" } : Jvm.MethodName) jdk_52_method_16_code (6 : Nat) (Option.some (Jvm.ClassFile.FieldType.array Jvm.ClassFile.FieldType.byte))).before args0 about1 = true := code_word (m := ⟨8, 2⟩) (meth := k8m2) (c := k8c2) (by decide +kernel) rfl rfl rfl (by decide +kernel)
set_option maxRecDepth 65536 in
theorem w_c6 : (Jvm.Cond.code ({ cls := "java/lang/StringUTF16", name := "compress", desc := "([CI[BII)I" } : Jvm.MethodName) jdk_52_method_21_code (7 : Nat) (Option.some Jvm.ClassFile.FieldType.int)).before args0 about1 = true := code_word (m := ⟨8, 3⟩) (meth := k8m3) (c := k8c3) (by decide +kernel) rfl rfl rfl (by decide +kernel)
set_option maxRecDepth 65536 in
theorem w_c7 : (Jvm.Cond.code ({ cls := "java/lang/StringUTF16", name := "coderFromArrayLen", desc := "([BI)B" } : Jvm.MethodName) jdk_52_method_15_code (2 : Nat) (Option.some Jvm.ClassFile.FieldType.byte)).before args0 about1 = true := code_word (m := ⟨8, 1⟩) (meth := k8m1) (c := k8c1) (by decide +kernel) rfl rfl rfl (by decide +kernel)
set_option maxRecDepth 65536 in
theorem w_c8 : (Jvm.Cond.code ({ cls := "nephrite/EvaluationException", name := "<init>", desc := "(Ljava/lang/String;)V" } : Jvm.MethodName) prog_36_method_1_code (2 : Nat) (Option.none : Option Jvm.ClassFile.FieldType)).before args0 about1 = true := code_word (m := ⟨12, 0⟩) (meth := k12m0) (c := k12c0) (by decide +kernel) rfl rfl rfl (by decide +kernel)
set_option maxRecDepth 65536 in
theorem w_c9 : (Jvm.Cond.code ({ cls := "java/lang/RuntimeException", name := "<init>", desc := "(Ljava/lang/String;)V" } : Jvm.MethodName) jdk_58_method_2_code (2 : Nat) (Option.none : Option Jvm.ClassFile.FieldType)).before args0 about1 = true := code_word (m := ⟨11, 1⟩) (meth := k11m1) (c := k11c1) (by decide +kernel) rfl rfl rfl (by decide +kernel)
set_option maxRecDepth 65536 in
theorem w_c10 : (Jvm.Cond.code ({ cls := "java/lang/Exception", name := "<init>", desc := "(Ljava/lang/String;)V" } : Jvm.MethodName) jdk_59_method_2_code (2 : Nat) (Option.none : Option Jvm.ClassFile.FieldType)).before args0 about1 = true := code_word (m := ⟨10, 1⟩) (meth := k10m1) (c := k10c1) (by decide +kernel) rfl rfl rfl (by decide +kernel)
set_option maxRecDepth 65536 in
theorem w_c11 : (Jvm.Cond.code ({ cls := "java/lang/Throwable", name := "<init>", desc := "(Ljava/lang/String;)V" } : Jvm.MethodName) jdk_78_method_2_code (2 : Nat) (Option.none : Option Jvm.ClassFile.FieldType)).before args0 about1 = true := code_word (m := ⟨9, 1⟩) (meth := k9m1) (c := k9c1) (by decide +kernel) rfl rfl rfl (by decide +kernel)
set_option maxRecDepth 65536 in
theorem w_c12 : (Jvm.Cond.code ({ cls := "java/lang/Throwable", name := "<init>", desc := "()V" } : Jvm.MethodName) jdk_78_method_1_code (1 : Nat) (Option.none : Option Jvm.ClassFile.FieldType)).before args0 about1 = true := code_word (m := ⟨9, 0⟩) (meth := k9m0) (c := k9c0) (by decide +kernel) rfl rfl rfl (by decide +kernel)
set_option maxRecDepth 65536 in
theorem w_c13 : (Jvm.Cond.code ({ cls := "nephrite/EvaluationException", name := "line", desc := "()I" } : Jvm.MethodName) prog_36_method_5_code (1 : Nat) (Option.some Jvm.ClassFile.FieldType.int)).before args0 about1 = true := code_word (m := ⟨12, 3⟩) (meth := k12m3) (c := k12c3) (by decide +kernel) rfl rfl rfl (by decide +kernel)
set_option maxRecDepth 65536 in
theorem w_c14 : (Jvm.Cond.code ({ cls := "nephrite/EvaluationException", name := "templateName", desc := "()Ljava/lang/String;" } : Jvm.MethodName) prog_36_method_4_code (1 : Nat) (Option.some (Jvm.ClassFile.FieldType.object "java/lang/String"))).before args0 about1 = true := code_word (m := ⟨12, 2⟩) (meth := k12m2) (c := k12c2) (by decide +kernel) rfl rfl rfl (by decide +kernel)
set_option maxRecDepth 65536 in
theorem w_c15 : (Jvm.Cond.code ({ cls := "nephrite/EvaluationException", name := "on", desc := "(Ljava/lang/String;I)Lnephrite/EvaluationException;" } : Jvm.MethodName) prog_36_method_3_code (3 : Nat) (Option.some (Jvm.ClassFile.FieldType.object "nephrite/EvaluationException"))).before args0 about1 = true := code_word (m := ⟨12, 1⟩) (meth := k12m1) (c := k12c1) (by decide +kernel) rfl rfl rfl (by decide +kernel)
def codes1 : List Jvm.Cond := [Jvm.Cond.code x code maxLocals ret, Jvm.Cond.code ({ cls := "nephrite/EvaluationExceptionOnPinLaw", name := "name", desc := "(IZ)Ljava/lang/String;" } : Jvm.MethodName) method_2_code (2 : Nat) (Option.some (Jvm.ClassFile.FieldType.object "java/lang/String")), Jvm.Cond.code ({ cls := "java/lang/String", name := "<init>", desc := "([C)V" } : Jvm.MethodName) jdk_42_method_3_code (2 : Nat) (Option.none : Option Jvm.ClassFile.FieldType), Jvm.Cond.code ({ cls := "java/lang/String", name := "<init>", desc := "([CIILjava/lang/Void;)V" } : Jvm.MethodName) jdk_42_method_149_code (6 : Nat) (Option.none : Option Jvm.ClassFile.FieldType), Jvm.Cond.code ({ cls := "java/lang/Object", name := "<init>", desc := "()V" } : Jvm.MethodName) object_method_1_code (1 : Nat) (Option.none : Option Jvm.ClassFile.FieldType), Jvm.Cond.code ({ cls := "java/lang/StringUTF16", name := "compress", desc := "([CII)[B" } : Jvm.MethodName) jdk_52_method_16_code (6 : Nat) (Option.some (Jvm.ClassFile.FieldType.array Jvm.ClassFile.FieldType.byte)), Jvm.Cond.code ({ cls := "java/lang/StringUTF16", name := "compress", desc := "([CI[BII)I" } : Jvm.MethodName) jdk_52_method_21_code (7 : Nat) (Option.some Jvm.ClassFile.FieldType.int), Jvm.Cond.code ({ cls := "java/lang/StringUTF16", name := "coderFromArrayLen", desc := "([BI)B" } : Jvm.MethodName) jdk_52_method_15_code (2 : Nat) (Option.some Jvm.ClassFile.FieldType.byte), Jvm.Cond.code ({ cls := "nephrite/EvaluationException", name := "<init>", desc := "(Ljava/lang/String;)V" } : Jvm.MethodName) prog_36_method_1_code (2 : Nat) (Option.none : Option Jvm.ClassFile.FieldType), Jvm.Cond.code ({ cls := "java/lang/RuntimeException", name := "<init>", desc := "(Ljava/lang/String;)V" } : Jvm.MethodName) jdk_58_method_2_code (2 : Nat) (Option.none : Option Jvm.ClassFile.FieldType), Jvm.Cond.code ({ cls := "java/lang/Exception", name := "<init>", desc := "(Ljava/lang/String;)V" } : Jvm.MethodName) jdk_59_method_2_code (2 : Nat) (Option.none : Option Jvm.ClassFile.FieldType), Jvm.Cond.code ({ cls := "java/lang/Throwable", name := "<init>", desc := "(Ljava/lang/String;)V" } : Jvm.MethodName) jdk_78_method_2_code (2 : Nat) (Option.none : Option Jvm.ClassFile.FieldType), Jvm.Cond.code ({ cls := "java/lang/Throwable", name := "<init>", desc := "()V" } : Jvm.MethodName) jdk_78_method_1_code (1 : Nat) (Option.none : Option Jvm.ClassFile.FieldType), Jvm.Cond.code ({ cls := "nephrite/EvaluationException", name := "line", desc := "()I" } : Jvm.MethodName) prog_36_method_5_code (1 : Nat) (Option.some Jvm.ClassFile.FieldType.int), Jvm.Cond.code ({ cls := "nephrite/EvaluationException", name := "templateName", desc := "()Ljava/lang/String;" } : Jvm.MethodName) prog_36_method_4_code (1 : Nat) (Option.some (Jvm.ClassFile.FieldType.object "java/lang/String")), Jvm.Cond.code ({ cls := "nephrite/EvaluationException", name := "on", desc := "(Ljava/lang/String;I)Lnephrite/EvaluationException;" } : Jvm.MethodName) prog_36_method_3_code (3 : Nat) (Option.some (Jvm.ClassFile.FieldType.object "nephrite/EvaluationException"))]
set_option maxRecDepth 65536 in
theorem codes_eq : words1.filter isCode = codes1 := rfl
theorem w_codes : ∀ c ∈ words1.filter isCode, c.before args0 about1 = true := by
  rw [codes_eq]
  intro c hc
  simp only [codes1, List.mem_cons, List.not_mem_nil, or_false] at hc
  rcases hc with rfl | rfl | rfl | rfl | rfl | rfl | rfl | rfl | rfl | rfl | rfl | rfl | rfl | rfl | rfl | rfl
  · exact w_c0
  · exact w_c1
  · exact w_c2
  · exact w_c3
  · exact w_c4
  · exact w_c5
  · exact w_c6
  · exact w_c7
  · exact w_c8
  · exact w_c9
  · exact w_c10
  · exact w_c11
  · exact w_c12
  · exact w_c13
  · exact w_c14
  · exact w_c15
set_option maxRecDepth 65536 in
theorem w_t1 : (words1.take 24).all (fun c => isCode c || c.before args0 about1) = true := by decide +kernel
set_option maxRecDepth 65536 in
theorem w_t2 : ((words1.drop 24).take 24).all (fun c => isCode c || c.before args0 about1) = true := by decide +kernel
set_option maxRecDepth 65536 in
theorem w_t3 : (((words1.drop 24).drop 24).take 24).all (fun c => isCode c || c.before args0 about1) = true := by decide +kernel
set_option maxRecDepth 65536 in
theorem w_t4 : ((((words1.drop 24).drop 24).drop 24).take 24).all (fun c => isCode c || c.before args0 about1) = true := by decide +kernel
set_option maxRecDepth 65536 in
theorem w_t5 : ((((words1.drop 24).drop 24).drop 24).drop 24).all (fun c => isCode c || c.before args0 about1) = true := by decide +kernel
theorem w_tables : (allAtoms (Jvm.Cond.code x code maxLocals ret :: tables_1)).before args0 about1 = true := by
  rw [allAtoms_all]
  show words1.all (fun c => c.before args0 about1) = true
  refine all_split ?_ w_codes
  rw [← List.take_append_drop 24 words1, List.all_append, w_t1, ← List.take_append_drop 24 (words1.drop 24), List.all_append, w_t2, ← List.take_append_drop 24 ((words1.drop 24).drop 24), List.all_append, w_t3, ← List.take_append_drop 24 (((words1.drop 24).drop 24).drop 24), List.all_append, w_t4, w_t5]
  rfl
set_option maxRecDepth 65536 in
theorem w_rest : rest_1_c.before args0 about1 = true := by decide +kernel
set_option maxRecDepth 65536 in
theorem w_case : (Jvm.Cond.and given_1 narrow_1).before args0 about1 = true := by decide +kernel
theorem w_applies : (headSpec (Jvm.Cond.code x code maxLocals ret :: tables_1) room_1).applies x e0.platform about1 = true :=
  (Spec.applies_iff w_frames).mpr ⟨w_running, w_runnable, w_alone, w_named, w_hears, w_ripe, w_room, w_tables⟩
theorem atStart : AtStart classFile x code maxLocals ret World_1 tables_1 room_1 Calls_1 rest_1 Pre_1 launch0 p0 e0 about1 theMethod args0 below0 :=
  ⟨lists_1, trivial, launch0.admits_env _ _ _, launch0.least_env, fairChoices_fair.cas, fairChoices_fair.clock, w_frames, w_args, w_heap, w_applies, ⟨(by decide +kernel : framesKnown about1 = true), ⟨(by decide +kernel : tablesKnown about1 = true), trivial⟩⟩, w_rest, w_case⟩
end start1
theorem witness_1 : WitnessClaimed_1 := ⟨start1.p0, start1.e0, start1.about1, start1.theMethod, start1.args0, start1.below0, start1.atStart⟩
end Jvm.Pilot.@@N@@
