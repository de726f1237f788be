import JvmDerived
import JvmDerived.Pilot.@@N@@Statement
import JvmDerived.Pilot.@@N@@Code
set_option linter.unusedVariables false
set_option linter.unusedSimpArgs false
namespace Jvm.RoadKit
open Sem ClassFile Op Lib Jvm.Stand Jvm.Free Jvm.LawKit
section New
variable {p : Program} {l : Launch} {e : Env} {R : Room} {s : State} {m : MethodId} {args : Array Value} {below : List Frame} {meth : Method} {c : Code} {T : State} {locs : List Loc} {cells slots : Nat}
theorem retI (X : Stand p l e R s m args below meth c T locs cells slots) (hx : p.tables.exec = Jvm.exec) {pc : Nat} {Ls : Array Slot} {z : Int32} {rest : List Value} (hret : meth.sig.returnType = some .int) (hd : decode c.code pc = .ok (.ireturn, 1)) {fs : List Frame}
    (hl : ∀ (f : JFrame) (acts : List Action), f.method = m → f.locked = none → f.entered = [] → (doReturn e (T.setTop f) acts (some (.int z))).1 = T.setFrames fs) : Steps p.tables e below (T.setTop (mkF m pc Ls (.int z :: rest))) (T.setFrames fs) := by
  have hm' : T.vm.method? m = some meth := X.method'
  have hn : narrow .int (.int z) = .int z := rfl
  show Steps p.tables e below (T.setTop { method := m, pc := pc, locals := Ls, stack := _ :: rest, locked := none }) _
  jvm_step X.here [X.here.top, hx, hd, hm', hret, hn]
  first | (intro acts; rw [hl _ acts rfl rfl rfl]) | rw [hl _ _ rfl rfl rfl]
  exact Steps.refl _
end New
end Jvm.RoadKit
namespace Jvm.Pilot.@@N@@
open Jvm Jvm.ClassFile Sem Op Lib Jvm.Free Jvm.Stand Jvm.LawKit Jvm.RoadKit Bundle Jvm.Pilot.@@N@@.Jvm.D
theorem own_irem (x y : Int32) (d : Int) (hy : y.toInt = d) (hd : 0 < d) (hx : 0 ≤ x.toInt) : (x - (x / y) * y).toInt = x.toInt % d := by
  have hq : (x / y).toInt = x.toInt / d := by
    rw [Int32.toInt_div_of_ne_right x y (by intro e; rw [e] at hy; have : (-1 : Int32).toInt = -1 := by decide
                                            omega), hy, Int.tdiv_eq_ediv_of_nonneg hx]
  have h1 := Int.mul_ediv_add_emod x.toInt d
  have h2 := Int.emod_nonneg x.toInt (by omega : d ≠ 0)
  have h3 := Int.emod_lt_of_pos x.toInt hd
  have h5 := x.toInt_lt
  have h6 : x.toInt % d ≤ x.toInt := by
    have := Int.ediv_nonneg hx (Int.le_of_lt hd)
    have := Int.mul_nonneg (Int.le_of_lt hd) this
    omega
  have h4 : x.toInt / d * d = x.toInt - x.toInt % d := by rw [Int.mul_comm]; omega
  have h7 : (x.toInt - x.toInt % d).bmod (2 ^ 32) = x.toInt - x.toInt % d := Int.bmod_eq_of_le (by omega) (by omega)
  rw [Int32.toInt_sub, Int32.toInt_mul, hq, hy, h4, h7, show x.toInt - (x.toInt - x.toInt % d) = x.toInt % d by omega]
  exact Int.bmod_eq_of_le (by omega) (by omega)
def own_term (i off len w : Int32) : Int32 := if i < off then (0 : Int32) else if i < (off + len) then (w &&& (255 : Int32)) else (0 : Int32)
def own_t (n m : Nat) (f : Nat → Int32) (j : Nat) : Int32 := if n ≤ j ∧ j < n + m then f j &&& (255 : Int32) else 0
def own_ref (n m : Nat) (f : Nat → Int32) : Nat → Int32
  | 0 => 0
  | j + 1 => own_ref n m f j + own_t n m f j
def own_part (n m : Nat) (f : Nat → Int32) : Nat → Int32
  | 0 => 0
  | j + 1 => own_part n m f j + (if n ≤ j ∧ j < n + m then f j else 0)
theorem own_part_lo (n m : Nat) (f : Nat → Int32) : ∀ j, j ≤ n → own_part n m f j = 0
  | 0, _ => rfl
  | j + 1, h => by
    rw [own_part, own_part_lo n m f j (by omega), if_neg (by omega)]; rfl
theorem own_part_in (n m : Nat) (f : Nat → Int32) (j : Nat) (h1 : n ≤ j) (h2 : j < n + m) : own_part n m f (j + 1) = own_part n m f j + f j := by
  rw [own_part, if_pos ⟨h1, h2⟩]
theorem own_part_hi (n m : Nat) (f : Nat → Int32) (j : Nat) (h : n + m ≤ j) : own_part n m f j = own_part n m f (n + m) := by
  obtain ⟨k, rfl⟩ : ∃ k, j = n + m + k := ⟨j - (n + m), by omega⟩
  induction k with
  | zero => rfl
  | succ k ih =>
    have e : n + m + (k + 1) = (n + m + k) + 1 := by omega
    rw [e, own_part, if_neg (by omega), ih (by omega), Int32.add_zero]
theorem own_add_small {a b : Int32} (h1 : -2147483648 ≤ a.toInt + b.toInt) (h2 : a.toInt + b.toInt < 2147483648) : (a + b).toInt = a.toInt + b.toInt := by
  rw [Int32.toInt_add]; exact Int.bmod_eq_of_le (by omega) (by omega)
theorem own_ref_part (n m : Nat) (f : Nat → Int32) : ∀ j, j ≤ 8 → 0 ≤ (own_ref n m f j).toInt ∧ (own_ref n m f j).toInt ≤ 255 * j ∧ (own_ref n m f j).toInt % 256 = (own_part n m f j).toInt % 256
  | 0, _ => ⟨by show (0 : Int) ≤ (0 : Int32).toInt; decide, by show (0 : Int32).toInt ≤ 255 * ((0 : Nat) : Int); decide, rfl⟩
  | j + 1, h => by
    obtain ⟨i1, i2, i3⟩ := own_ref_part n m f j (by omega)
    have k0 : (0 : Int32).toInt = 0 := by decide
    by_cases hq : n ≤ j ∧ j < n + m
    · have hm : (f j &&& (255 : Int32)).toInt = (f j).toInt % 256 := c_mask (f j) 255 8 (by decide) (by decide)
      have ha : (own_ref n m f j + (f j &&& (255 : Int32))).toInt = (own_ref n m f j).toInt + (f j &&& (255 : Int32)).toInt := own_add_small (by omega) (by omega)
      have hp := c_iadd (own_part n m f j) (f j)
      rw [own_ref, own_part, own_t, if_pos hq, if_pos hq, ha]
      refine ⟨?_, ?_, ?_⟩ <;> omega
    · rw [own_ref, own_part, own_t, if_neg hq, if_neg hq, Int32.add_zero, Int32.add_zero]
      refine ⟨i1, ?_, i3⟩; omega
theorem own_term_t {i off len : Int32} {n m j : Nat} (f : Nat → Int32) (hi : i.toInt = j) (hn : off.toInt = n) (hm : len.toInt = m) (hs : n + m ≤ 8) : own_term i off len (f j) = own_t n m f j := by
  have ha : (off + len).toInt = off.toInt + len.toInt := own_add_small (by omega) (by omega)
  unfold own_term own_t
  by_cases h1 : i < off
  · rw [if_pos h1, if_neg (by rw [Int32.lt_iff_toInt_lt] at h1; omega)]
  · rw [if_neg h1]
    by_cases h2 : i < off + len
    · rw [if_pos h2, if_pos (by rw [Int32.lt_iff_toInt_lt] at h1 h2; omega)]
    · rw [if_neg h2, if_neg (by rw [Int32.lt_iff_toInt_lt] at h1 h2; omega)]
theorem own_law {off len : Int32} {n m : Nat} (f : Nat → Int32) (hn : off.toInt = n) (hm : len.toInt = m) (hs : n + m ≤ 8) {r : Int32}
    (hr : r = (((((((own_term 0 off len (f 0) + own_term 1 off len (f 1)) + own_term 2 off len (f 2)) + own_term 3 off len (f 3)) + own_term 4 off len (f 4)) + own_term 5 off len (f 5)) + own_term 6 off len (f 6)) + own_term 7 off len (f 7))) :
    (own_part n m f (n + m) &&& (255 : Int32)) = r - (r / (256 : Int32)) * (256 : Int32) := by
  have e : r = own_ref n m f 8 := by
    rw [hr, own_term_t f (j := 0) (by decide) hn hm hs, own_term_t f (j := 1) (by decide) hn hm hs, own_term_t f (j := 2) (by decide) hn hm hs, own_term_t f (j := 3) (by decide) hn hm hs, own_term_t f (j := 4) (by decide) hn hm hs, own_term_t f (j := 5) (by decide) hn hm hs, own_term_t f (j := 6) (by decide) hn hm hs, own_term_t f (j := 7) (by decide) hn hm hs]
    simp only [own_ref, Int32.zero_add]
  obtain ⟨h1, h2, h3⟩ := own_ref_part n m f 8 (by omega)
  rw [own_part_hi n m f 8 hs] at h3
  apply Int32.toInt_inj.mp
  have hm' : (own_part n m f (n + m) &&& (255 : Int32)).toInt = (own_part n m f (n + m)).toInt % 256 := c_mask _ 255 8 (by decide) (by decide)
  rw [hm', own_irem r 256 256 (by decide) (by decide) (by rw [e]; exact h1), e]
  exact h3.symm
theorem own_range (o l : Int32) {off len : Int32} (h1 : off = (o &&& (2147483647 : Int32)) - ((o &&& (2147483647 : Int32)) / (9 : Int32)) * (9 : Int32)) : (¬ ((9 : Int32) - off = 0)) ∧
    (len = (l &&& (2147483647 : Int32)) - ((l &&& (2147483647 : Int32)) / ((9 : Int32) - off)) * ((9 : Int32) - off) → ∃ n m : Nat, off.toInt = n ∧ len.toInt = m ∧ n + m ≤ 8) := by
  have ho : (o &&& (2147483647 : Int32)).toInt = o.toInt % (2 ^ 31 : Nat) := c_mask o 2147483647 31 (by decide) (by decide)
  have hl : (l &&& (2147483647 : Int32)).toInt = l.toInt % (2 ^ 31 : Nat) := c_mask l 2147483647 31 (by decide) (by decide)
  have h9 : (9 : Int32).toInt = 9 := by decide
  have h0 : (0 : Int32).toInt = 0 := by decide
  have hr := own_irem (o &&& (2147483647 : Int32)) 9 9 h9 (by decide) (by omega)
  rw [← h1] at hr
  have hd : ((9 : Int32) - off).toInt = 9 - off.toInt := by rw [Int32.toInt_sub, h9]; exact Int.bmod_eq_of_le (by omega) (by omega)
  refine ⟨fun q => ?_, fun h2 => ?_⟩
  · rw [q, h0] at hd; omega
  · have hr2 := own_irem (l &&& (2147483647 : Int32)) ((9 : Int32) - off) (9 - off.toInt) hd (by omega) (by omega)
    rw [← h2] at hr2
    have h5 : 0 ≤ len.toInt := by rw [hr2]; exact Int.emod_nonneg _ (by omega)
    have h6 : len.toInt < 9 - off.toInt := by rw [hr2]; exact Int.emod_lt_of_pos _ (by omega)
    exact ⟨off.toInt.toNat, len.toInt.toNat, by omega, by omega, by omega⟩
theorem own_bytes {c : Cell} {vs : List Value} {d : Value} (hs : c.slots.size = 8) (H : Has c vs d) (G : ∀ i, i < c.slots.size → fits .byte (vs.getD i d) = true) : ∃ f : Nat → Int32, ∀ j, j < 8 → c.slots[j]? = some (.int (f j)) := by
  refine ⟨fun j => match vs.getD j d with | .int x => x | _ => 0, fun j hj => ?_⟩
  rw [H j (by omega)]
  obtain ⟨x, hx⟩ := fit_I (G j (by omega)) (by simp)
  simp only [hx]
theorem d1_0 : decode method_2_code 0 = .ok (.iload_n 1, 1) := by decide +kernel
theorem d1_1 : decode method_2_code 1 = .ok (.iload_n 2, 1) := by decide +kernel
theorem d1_2 : decode method_2_code 2 = .ok (.if_icmp .lt 18, 3) := by decide +kernel
theorem d1_5 : decode method_2_code 5 = .ok (.iload_n 1, 1) := by decide +kernel
theorem d1_6 : decode method_2_code 6 = .ok (.iload_n 2, 1) := by decide +kernel
theorem d1_7 : decode method_2_code 7 = .ok (.iload_n 3, 1) := by decide +kernel
theorem d1_8 : decode method_2_code 8 = .ok (.iadd, 1) := by decide +kernel
theorem d1_9 : decode method_2_code 9 = .ok (.if_icmp .ge 11, 3) := by decide +kernel
theorem d1_12 : decode method_2_code 12 = .ok (.aload_n 0, 1) := by decide +kernel
theorem d1_13 : decode method_2_code 13 = .ok (.iload_n 1, 1) := by decide +kernel
theorem d1_14 : decode method_2_code 14 = .ok (.baload, 1) := by decide +kernel
theorem d1_15 : decode method_2_code 15 = .ok (.sipush 255, 3) := by decide +kernel
theorem d1_18 : decode method_2_code 18 = .ok (.iand, 1) := by decide +kernel
theorem d1_19 : decode method_2_code 19 = .ok (.ireturn, 1) := by decide +kernel
theorem pn_1 : plainName "com/example/shiokaze/shiokaze/fix/CheckSumOfPinLaw" = true := by first | (simp [plainName, overriddenIn]; done) | decide +kernel
theorem ef_1 (m : MethodId) (x0 : Addr) (x1 : Int32) (x2 : Int32) (x3 : Int32) : entryFrame m #[(.ref x0), (.int x1), (.int x2), (.int x3)] 4 = mkF m 0 #[.val (.ref x0), .val (.int x1), .val (.int x2), .val (.int x3)] [] := by first | (simp [entryFrame, mkF, argsToLocals, Value.category]; done) | rfl
def Q1a (Z : State) (a1 : Addr) (p2 : Int32) (p3 : Int32) (p4 : Int32) (w5 : Int32) (cl_a1 : Cell) (h0 : Heap) (n0 : Nat) (v : Option Value) (h : Heap) (L : List Loc) : Prop := v = some (.int (w5 &&& (255 : Int32))) ∧ Fr n0 L ∧ h = h0
set_option maxRecDepth 65536 in
set_option maxHeartbeats 40000000 in
theorem rm1a (l : Launch) (Z : State) (a0 : Array Value) (hw : ∀ d ∈ tables_1, d.before a0 Z = true) (ws : List Jvm.Cond) (a1 : Addr) (p2 : Int32) (p3 : Int32) (p4 : Int32) (w5 : Int32) (cl_a1 : Cell) (h0 : Heap) (n0 : Nat) (Z0 : n0 ≤ h0.size) (Ar_a1 : Arr Z h0 a1 cl_a1 .byte) (hin14 : ¬ (p2 < 0 ∨ cl_a1.slots.size ≤ (p2).toNatClampNeg)) (hat14 : cl_a1.slots[(p2).toNatClampNeg]? = some (.int w5)) (hc2 : ¬ (p2 < p3)) (hc9 : p2 < (p3 + p4)) :
    MetFree l (⟨"com/example/shiokaze/shiokaze/fix/CheckSumOfPinLaw", "term", "([BIII)I"⟩ : MethodName) (head1 (Jvm.Cond.code (⟨"com/example/shiokaze/shiokaze/fix/CheckSumOfPinLaw", "term", "([BIII)I"⟩ : MethodName) method_2_code 4 (some .int) :: ws) ({ frames := 0, cells := 0, slots := 0, locals := 0 } : Room)) (fun a U => a = #[(.ref a1), (.int p2), (.int p3), (.int p4)] ∧ Z.Warmed39 U.vm ∧ U.heap = h0) (fun _ _ _ _ _ => True) (fun _ U o U' => ∃ v L, o = .returned v ∧ Q1a Z a1 p2 p3 p4 w5 cl_a1 h0 n0 v U'.heap L ∧ FrameEnd U o U' L ({ frames := 0, cells := 0, slots := 0, locals := 0 } : Room).cells ({ frames := 0, cells := 0, slots := 0, locals := 0 } : Room).slots) := by
  refine MetFree.of_bodySF (plainFor_of_name pn_1) hisR ?_
  intro p e s m args below meth c s₁ Bd hml0 hP hK
  obtain ⟨rfl, hZ, hh⟩ := hP
  have hx := Bd.exec
  have hby := Bd.bytes
  have hml : c.maxLocals = 4 := hml0
  have hown : s.vm.findClass "com/example/shiokaze/shiokaze/fix/CheckSumOfPinLaw" = some m.cls := findClass_of_methodNamed Bd.named
  have hnm := (name_of_methodNamed Bd.named Bd.method).1
  have X0 : Stand p l e ({ frames := 0, cells := 0, slots := 0, locals := 0 } : Room) s m #[(.ref a1), (.int p2), (.int p3), (.int p4)] below meth c s₁ [] 0 0 := Stand.of_body Bd
  have e0 : s₁.heap = h0 := by rw [← hh, Bd.state]; rfl
  have N0 := Fr.nil n0
  have pre0 : ∀ t, Steps p.tables e below (s₁.setTop (mkF m 0 #[.val (.ref a1), .val (.int p2), .val (.int p3), .val (.int p4)] [])) t → Steps p.tables e below (s₁.setTop (entryFrame m #[(.ref a1), (.int p2), (.int p3), (.int p4)] 4)) t := fun t k => castTop (ef_1 m a1 p2 p3 p4) k

  obtain ⟨fs, hr, hrun, hended, hW, hsame⟩ := X0.leave (v := some (.int (w5 &&& (255 : Int32)))) (fun h => by rw [Bd.returns] at h; cases h)
  refine ⟨_, _, pre0 _ ?_, hrun, hended, _, _, rfl, ?_, ⟨_, rfl⟩, hW, hsame.mono (by decide) (by decide)⟩
  · show Steps p.tables e below (s₁.setTop (mkF m 0 #[.val (.ref a1), .val (.int p2), .val (.int p3), .val (.int p4)] [])) _
    refine XS.iloadN X0.here hx rfl (hb hby d1_0) rfl ?_
    show Steps p.tables e below (s₁.setTop (mkF m 1 #[.val (.ref a1), .val (.int p2), .val (.int p3), .val (.int p4)] [(.int p2)])) _
    refine XS.iloadN X0.here hx rfl (hb hby d1_1) rfl ?_
    show Steps p.tables e below (s₁.setTop (mkF m 2 #[.val (.ref a1), .val (.int p2), .val (.int p3), .val (.int p4)] [(.int p3), (.int p2)])) _
    refine XS.icmpNo X0.here hx rfl (hb hby d1_2) rfl (flt hc2).1 ?_
    show Steps p.tables e below (s₁.setTop (mkF m 5 #[.val (.ref a1), .val (.int p2), .val (.int p3), .val (.int p4)] [])) _
    refine XS.iloadN X0.here hx rfl (hb hby d1_5) rfl ?_
    show Steps p.tables e below (s₁.setTop (mkF m 6 #[.val (.ref a1), .val (.int p2), .val (.int p3), .val (.int p4)] [(.int p2)])) _
    refine XS.iloadN X0.here hx rfl (hb hby d1_6) rfl ?_
    show Steps p.tables e below (s₁.setTop (mkF m 7 #[.val (.ref a1), .val (.int p2), .val (.int p3), .val (.int p4)] [(.int p3), (.int p2)])) _
    refine XS.iloadN X0.here hx rfl (hb hby d1_7) rfl ?_
    show Steps p.tables e below (s₁.setTop (mkF m 8 #[.val (.ref a1), .val (.int p2), .val (.int p3), .val (.int p4)] [(.int p4), (.int p3), (.int p2)])) _
    refine XS.iadd X0.here hx rfl (hb hby d1_8) rfl ?_
    show Steps p.tables e below (s₁.setTop (mkF m 9 #[.val (.ref a1), .val (.int p2), .val (.int p3), .val (.int p4)] [(.int (p3 + p4)), (.int p2)])) _
    refine XS.icmpNo X0.here hx rfl (hb hby d1_9) rfl (tlt hc9).2.1 ?_
    show Steps p.tables e below (s₁.setTop (mkF m 12 #[.val (.ref a1), .val (.int p2), .val (.int p3), .val (.int p4)] [])) _
    refine XS.aloadN X0.here hx rfl (hb hby d1_12) rfl rfl ?_
    show Steps p.tables e below (s₁.setTop (mkF m 13 #[.val (.ref a1), .val (.int p2), .val (.int p3), .val (.int p4)] [(.ref a1)])) _
    refine XS.iloadN X0.here hx rfl (hb hby d1_13) rfl ?_
    show Steps p.tables e below (s₁.setTop (mkF m 14 #[.val (.ref a1), .val (.int p2), .val (.int p3), .val (.int p4)] [(.int p2), (.ref a1)])) _
    refine X0.baloadBytes hx (j := p2) (v := (.int w5)) (by rw [e0]; exact Ar_a1.1) (State.isArrayOf_alike hZ.alike Ar_a1.2.1) Ar_a1.2.2 hin14 hat14 (g := (mkF m 14 #[.val (.ref a1), .val (.int p2), .val (.int p3), .val (.int p4)] [(.int p2), (.ref a1)])) rfl rfl (hb hby d1_14) _ ?_
    show Steps p.tables e below (s₁.setTop (mkF m 15 #[.val (.ref a1), .val (.int p2), .val (.int p3), .val (.int p4)] [(.int w5)])) _
    refine XS.sipush X0.here hx rfl (hb hby d1_15) ?_
    show Steps p.tables e below (s₁.setTop (mkF m 18 #[.val (.ref a1), .val (.int p2), .val (.int p3), .val (.int p4)] [(.int (255 : Int32)), (.int w5)])) _
    refine XS.iand X0.here hx rfl (hb hby d1_18) rfl ?_
    show Steps p.tables e below (s₁.setTop (mkF m 19 #[.val (.ref a1), .val (.int p2), .val (.int p3), .val (.int p4)] [(.int (w5 &&& (255 : Int32)))])) _
    exact retI X0 hx Bd.returns (hb hby d1_19) hr
  · show Q1a Z a1 p2 p3 p4 w5 cl_a1 h0 n0 _ s₁.heap _
    rw [e0]
    exact ⟨rfl, N0, rfl⟩
theorem d1_20 : decode method_2_code 20 = .ok (.iconst 0, 1) := by decide +kernel
theorem d1_21 : decode method_2_code 21 = .ok (.ireturn, 1) := by decide +kernel
def Q1b (Z : State) (a1 : Addr) (p2 : Int32) (p3 : Int32) (p4 : Int32) (h0 : Heap) (n0 : Nat) (v : Option Value) (h : Heap) (L : List Loc) : Prop := v = some (.int (0 : Int32)) ∧ Fr n0 L ∧ h = h0
set_option maxRecDepth 65536 in
set_option maxHeartbeats 40000000 in
theorem rm1b (l : Launch) (Z : State) (a0 : Array Value) (hw : ∀ d ∈ tables_1, d.before a0 Z = true) (ws : List Jvm.Cond) (a1 : Addr) (p2 : Int32) (p3 : Int32) (p4 : Int32) (h0 : Heap) (n0 : Nat) (Z0 : n0 ≤ h0.size) (hc2 : p2 < p3) :
    MetFree l (⟨"com/example/shiokaze/shiokaze/fix/CheckSumOfPinLaw", "term", "([BIII)I"⟩ : MethodName) (head1 (Jvm.Cond.code (⟨"com/example/shiokaze/shiokaze/fix/CheckSumOfPinLaw", "term", "([BIII)I"⟩ : MethodName) method_2_code 4 (some .int) :: ws) ({ frames := 0, cells := 0, slots := 0, locals := 0 } : Room)) (fun a U => a = #[(.ref a1), (.int p2), (.int p3), (.int p4)] ∧ Z.Warmed39 U.vm ∧ U.heap = h0) (fun _ _ _ _ _ => True) (fun _ U o U' => ∃ v L, o = .returned v ∧ Q1b Z a1 p2 p3 p4 h0 n0 v U'.heap L ∧ FrameEnd U o U' L ({ frames := 0, cells := 0, slots := 0, locals := 0 } : Room).cells ({ frames := 0, cells := 0, slots := 0, locals := 0 } : Room).slots) := by
  refine MetFree.of_bodySF (plainFor_of_name pn_1) hisR ?_
  intro p e s m args below meth c s₁ Bd hml0 hP hK
  obtain ⟨rfl, hZ, hh⟩ := hP
  have hx := Bd.exec
  have hby := Bd.bytes
  have hml : c.maxLocals = 4 := hml0
  have hown : s.vm.findClass "com/example/shiokaze/shiokaze/fix/CheckSumOfPinLaw" = some m.cls := findClass_of_methodNamed Bd.named
  have hnm := (name_of_methodNamed Bd.named Bd.method).1
  have X0 : Stand p l e ({ frames := 0, cells := 0, slots := 0, locals := 0 } : Room) s m #[(.ref a1), (.int p2), (.int p3), (.int p4)] below meth c s₁ [] 0 0 := Stand.of_body Bd
  have e0 : s₁.heap = h0 := by rw [← hh, Bd.state]; rfl
  have N0 := Fr.nil n0
  have pre0 : ∀ t, Steps p.tables e below (s₁.setTop (mkF m 0 #[.val (.ref a1), .val (.int p2), .val (.int p3), .val (.int p4)] [])) t → Steps p.tables e below (s₁.setTop (entryFrame m #[(.ref a1), (.int p2), (.int p3), (.int p4)] 4)) t := fun t k => castTop (ef_1 m a1 p2 p3 p4) k

  obtain ⟨fs, hr, hrun, hended, hW, hsame⟩ := X0.leave (v := some (.int (0 : Int32))) (fun h => by rw [Bd.returns] at h; cases h)
  refine ⟨_, _, pre0 _ ?_, hrun, hended, _, _, rfl, ?_, ⟨_, rfl⟩, hW, hsame.mono (by decide) (by decide)⟩
  · show Steps p.tables e below (s₁.setTop (mkF m 0 #[.val (.ref a1), .val (.int p2), .val (.int p3), .val (.int p4)] [])) _
    refine XS.iloadN X0.here hx rfl (hb hby d1_0) rfl ?_
    show Steps p.tables e below (s₁.setTop (mkF m 1 #[.val (.ref a1), .val (.int p2), .val (.int p3), .val (.int p4)] [(.int p2)])) _
    refine XS.iloadN X0.here hx rfl (hb hby d1_1) rfl ?_
    show Steps p.tables e below (s₁.setTop (mkF m 2 #[.val (.ref a1), .val (.int p2), .val (.int p3), .val (.int p4)] [(.int p3), (.int p2)])) _
    refine XS.icmpYes X0.here hx rfl (pc0 := 2) (pc' := 20) rfl (hb hby d1_2) rfl (tlt hc2).1 (by decide) (by decide) ?_
    show Steps p.tables e below (s₁.setTop (mkF m 20 #[.val (.ref a1), .val (.int p2), .val (.int p3), .val (.int p4)] [])) _
    refine XS.iconst X0.here hx rfl (hb hby d1_20) ?_
    show Steps p.tables e below (s₁.setTop (mkF m 21 #[.val (.ref a1), .val (.int p2), .val (.int p3), .val (.int p4)] [(.int (0 : Int32))])) _
    exact retI X0 hx Bd.returns (hb hby d1_21) hr
  · show Q1b Z a1 p2 p3 p4 h0 n0 _ s₁.heap _
    rw [e0]
    exact ⟨rfl, N0, rfl⟩
def Q1c (Z : State) (a1 : Addr) (p2 : Int32) (p3 : Int32) (p4 : Int32) (h0 : Heap) (n0 : Nat) (v : Option Value) (h : Heap) (L : List Loc) : Prop := v = some (.int (0 : Int32)) ∧ Fr n0 L ∧ h = h0
set_option maxRecDepth 65536 in
set_option maxHeartbeats 40000000 in
theorem rm1c (l : Launch) (Z : State) (a0 : Array Value) (hw : ∀ d ∈ tables_1, d.before a0 Z = true) (ws : List Jvm.Cond) (a1 : Addr) (p2 : Int32) (p3 : Int32) (p4 : Int32) (h0 : Heap) (n0 : Nat) (Z0 : n0 ≤ h0.size) (hc2 : ¬ (p2 < p3)) (hc9 : ¬ (p2 < (p3 + p4))) :
    MetFree l (⟨"com/example/shiokaze/shiokaze/fix/CheckSumOfPinLaw", "term", "([BIII)I"⟩ : MethodName) (head1 (Jvm.Cond.code (⟨"com/example/shiokaze/shiokaze/fix/CheckSumOfPinLaw", "term", "([BIII)I"⟩ : MethodName) method_2_code 4 (some .int) :: ws) ({ frames := 0, cells := 0, slots := 0, locals := 0 } : Room)) (fun a U => a = #[(.ref a1), (.int p2), (.int p3), (.int p4)] ∧ Z.Warmed39 U.vm ∧ U.heap = h0) (fun _ _ _ _ _ => True) (fun _ U o U' => ∃ v L, o = .returned v ∧ Q1c Z a1 p2 p3 p4 h0 n0 v U'.heap L ∧ FrameEnd U o U' L ({ frames := 0, cells := 0, slots := 0, locals := 0 } : Room).cells ({ frames := 0, cells := 0, slots := 0, locals := 0 } : Room).slots) := by
  refine MetFree.of_bodySF (plainFor_of_name pn_1) hisR ?_
  intro p e s m args below meth c s₁ Bd hml0 hP hK
  obtain ⟨rfl, hZ, hh⟩ := hP
  have hx := Bd.exec
  have hby := Bd.bytes
  have hml : c.maxLocals = 4 := hml0
  have hown : s.vm.findClass "com/example/shiokaze/shiokaze/fix/CheckSumOfPinLaw" = some m.cls := findClass_of_methodNamed Bd.named
  have hnm := (name_of_methodNamed Bd.named Bd.method).1
  have X0 : Stand p l e ({ frames := 0, cells := 0, slots := 0, locals := 0 } : Room) s m #[(.ref a1), (.int p2), (.int p3), (.int p4)] below meth c s₁ [] 0 0 := Stand.of_body Bd
  have e0 : s₁.heap = h0 := by rw [← hh, Bd.state]; rfl
  have N0 := Fr.nil n0
  have pre0 : ∀ t, Steps p.tables e below (s₁.setTop (mkF m 0 #[.val (.ref a1), .val (.int p2), .val (.int p3), .val (.int p4)] [])) t → Steps p.tables e below (s₁.setTop (entryFrame m #[(.ref a1), (.int p2), (.int p3), (.int p4)] 4)) t := fun t k => castTop (ef_1 m a1 p2 p3 p4) k

  obtain ⟨fs, hr, hrun, hended, hW, hsame⟩ := X0.leave (v := some (.int (0 : Int32))) (fun h => by rw [Bd.returns] at h; cases h)
  refine ⟨_, _, pre0 _ ?_, hrun, hended, _, _, rfl, ?_, ⟨_, rfl⟩, hW, hsame.mono (by decide) (by decide)⟩
  · show Steps p.tables e below (s₁.setTop (mkF m 0 #[.val (.ref a1), .val (.int p2), .val (.int p3), .val (.int p4)] [])) _
    refine XS.iloadN X0.here hx rfl (hb hby d1_0) rfl ?_
    show Steps p.tables e below (s₁.setTop (mkF m 1 #[.val (.ref a1), .val (.int p2), .val (.int p3), .val (.int p4)] [(.int p2)])) _
    refine XS.iloadN X0.here hx rfl (hb hby d1_1) rfl ?_
    show Steps p.tables e below (s₁.setTop (mkF m 2 #[.val (.ref a1), .val (.int p2), .val (.int p3), .val (.int p4)] [(.int p3), (.int p2)])) _
    refine XS.icmpNo X0.here hx rfl (hb hby d1_2) rfl (flt hc2).1 ?_
    show Steps p.tables e below (s₁.setTop (mkF m 5 #[.val (.ref a1), .val (.int p2), .val (.int p3), .val (.int p4)] [])) _
    refine XS.iloadN X0.here hx rfl (hb hby d1_5) rfl ?_
    show Steps p.tables e below (s₁.setTop (mkF m 6 #[.val (.ref a1), .val (.int p2), .val (.int p3), .val (.int p4)] [(.int p2)])) _
    refine XS.iloadN X0.here hx rfl (hb hby d1_6) rfl ?_
    show Steps p.tables e below (s₁.setTop (mkF m 7 #[.val (.ref a1), .val (.int p2), .val (.int p3), .val (.int p4)] [(.int p3), (.int p2)])) _
    refine XS.iloadN X0.here hx rfl (hb hby d1_7) rfl ?_
    show Steps p.tables e below (s₁.setTop (mkF m 8 #[.val (.ref a1), .val (.int p2), .val (.int p3), .val (.int p4)] [(.int p4), (.int p3), (.int p2)])) _
    refine XS.iadd X0.here hx rfl (hb hby d1_8) rfl ?_
    show Steps p.tables e below (s₁.setTop (mkF m 9 #[.val (.ref a1), .val (.int p2), .val (.int p3), .val (.int p4)] [(.int (p3 + p4)), (.int p2)])) _
    refine XS.icmpYes X0.here hx rfl (pc0 := 9) (pc' := 20) rfl (hb hby d1_9) rfl (flt hc9).2.1 (by decide) (by decide) ?_
    show Steps p.tables e below (s₁.setTop (mkF m 20 #[.val (.ref a1), .val (.int p2), .val (.int p3), .val (.int p4)] [])) _
    refine XS.iconst X0.here hx rfl (hb hby d1_20) ?_
    show Steps p.tables e below (s₁.setTop (mkF m 21 #[.val (.ref a1), .val (.int p2), .val (.int p3), .val (.int p4)] [(.int (0 : Int32))])) _
    exact retI X0 hx Bd.returns (hb hby d1_21) hr
  · show Q1c Z a1 p2 p3 p4 h0 n0 _ s₁.heap _
    rw [e0]
    exact ⟨rfl, N0, rfl⟩
def Q1 (Z : State) (a1 : Addr) (p2 : Int32) (p3 : Int32) (p4 : Int32) (w5 : Int32) (cl_a1 : Cell) (h0 : Heap) (n0 : Nat) (v : Option Value) (h : Heap) (L : List Loc) : Prop := v = some (.int (own_term p2 p3 p4 w5)) ∧ Fr n0 L ∧ h = h0
theorem rm1 (l : Launch) (Z : State) (a0 : Array Value) (hw : ∀ d ∈ tables_1, d.before a0 Z = true) (ws : List Jvm.Cond) (a1 : Addr) (p2 : Int32) (p3 : Int32) (p4 : Int32) (w5 : Int32) (cl_a1 : Cell) (h0 : Heap) (n0 : Nat) (Z0 : n0 ≤ h0.size) (Ar_a1 : Arr Z h0 a1 cl_a1 .byte) (hin14 : ¬ (p2 < 0 ∨ cl_a1.slots.size ≤ (p2).toNatClampNeg)) (hat14 : cl_a1.slots[(p2).toNatClampNeg]? = some (.int w5)) :
    MetFree l (⟨"com/example/shiokaze/shiokaze/fix/CheckSumOfPinLaw", "term", "([BIII)I"⟩ : MethodName) (head1 (Jvm.Cond.code (⟨"com/example/shiokaze/shiokaze/fix/CheckSumOfPinLaw", "term", "([BIII)I"⟩ : MethodName) method_2_code 4 (some .int) :: ws) ({ frames := 0, cells := 0, slots := 0, locals := 0 } : Room)) (fun a U => a = #[(.ref a1), (.int p2), (.int p3), (.int p4)] ∧ Z.Warmed39 U.vm ∧ U.heap = h0) (fun _ _ _ _ _ => True) (fun _ U o U' => ∃ v L, o = .returned v ∧ Q1 Z a1 p2 p3 p4 w5 cl_a1 h0 n0 v U'.heap L ∧ FrameEnd U o U' L ({ frames := 0, cells := 0, slots := 0, locals := 0 } : Room).cells ({ frames := 0, cells := 0, slots := 0, locals := 0 } : Room).slots) := by
  by_cases h1 : p2 < p3
  · have q := rm1b l Z a0 hw ws a1 p2 p3 p4 h0 n0 Z0 h1
    have e : own_term p2 p3 p4 w5 = (0 : Int32) := if_pos h1
    simp only [Q1, e]
    exact q
  · by_cases h2 : p2 < (p3 + p4)
    · have q := rm1a l Z a0 hw ws a1 p2 p3 p4 w5 cl_a1 h0 n0 Z0 Ar_a1 hin14 hat14 h1 h2
      have e : own_term p2 p3 p4 w5 = (w5 &&& (255 : Int32)) := by rw [own_term, if_neg h1, if_pos h2]
      simp only [Q1, e]
      exact q
    · have q := rm1c l Z a0 hw ws a1 p2 p3 p4 h0 n0 Z0 h1 h2
      have e : own_term p2 p3 p4 w5 = (0 : Int32) := by rw [own_term, if_neg h1, if_neg h2]
      simp only [Q1, e]
      exact q
theorem d2_5 : decode prog_6_method_2_code 5 = .ok (.iload 4, 2) := by decide +kernel
theorem d2_7 : decode prog_6_method_2_code 7 = .ok (.iload_n 1, 1) := by decide +kernel
theorem d2_8 : decode prog_6_method_2_code 8 = .ok (.iload_n 2, 1) := by decide +kernel
theorem d2_9 : decode prog_6_method_2_code 9 = .ok (.iadd, 1) := by decide +kernel
theorem d2_10 : decode prog_6_method_2_code 10 = .ok (.if_icmp .ge 16, 3) := by decide +kernel
theorem d2_13 : decode prog_6_method_2_code 13 = .ok (.iload_n 3, 1) := by decide +kernel
theorem d2_14 : decode prog_6_method_2_code 14 = .ok (.aload_n 0, 1) := by decide +kernel
theorem d2_15 : decode prog_6_method_2_code 15 = .ok (.iload 4, 2) := by decide +kernel
theorem d2_17 : decode prog_6_method_2_code 17 = .ok (.baload, 1) := by decide +kernel
theorem d2_18 : decode prog_6_method_2_code 18 = .ok (.iadd, 1) := by decide +kernel
theorem d2_19 : decode prog_6_method_2_code 19 = .ok (.istore_n 3, 1) := by decide +kernel
theorem d2_20 : decode prog_6_method_2_code 20 = .ok (.iinc 4 1, 3) := by decide +kernel
theorem d2_23 : decode prog_6_method_2_code 23 = .ok (.goto (-18), 3) := by decide +kernel
set_option maxRecDepth 65536 in
set_option maxHeartbeats 40000000 in
theorem tn2_5_5 {p : Program} {l : Launch} {e : Env} {R : Room} {s : State} {m : MethodId} {args : Array Value} {below : List Frame} {meth : Method} {c : Code} {T0 : State} {locs : List Loc} {cells slots : Nat} {Z : State} {a0 : Array Value} {h0 : Heap} (o0 : Addr) (i1 : Int32) (i2 : Int32) (i3 : Int32) (i4 : Int32) (w4 : Int32) (cl_o0 : Cell)
    (X0 : Stand p l e R s m args below meth c T0 locs cells slots) (hx : p.tables.exec = Jvm.exec) (hZ : Z.Warmed39 s.vm) (hw : ∀ d ∈ tables_1, d.before a0 Z = true) (hby : c.code = prog_6_method_2_code) (hml : c.maxLocals = 5) (hown : s.vm.findClass "com/example/shiokaze/shiokaze/fix/CheckSum" = some m.cls) (e0 : T0.heap = h0) (Ar_o0 : Arr Z h0 o0 cl_o0 .byte) (hin17 : ¬ (i4 < 0 ∨ cl_o0.slots.size ≤ (i4).toNatClampNeg)) (hat17 : cl_o0.slots[(i4).toNatClampNeg]? = some (.int w4)) (hc10 : i4 < (i1 + i2)) :
    ∃ (T' : State), Stand p l e R s m args below meth c T' locs cells slots ∧ T'.heap = h0 ∧
      ∀ target, Steps p.tables e below (T'.setTop (mkF m 5 #[.val (.ref o0), .val (.int i1), .val (.int i2), .val (.int (i3 + w4)), .val (.int (i4 + (1 : Int32)))] [])) target → Steps p.tables e below (T0.setTop (mkF m 5 #[.val (.ref o0), .val (.int i1), .val (.int i2), .val (.int i3), .val (.int i4)] [])) target := by

  refine ⟨T0, X0, e0, fun target kt => ?_⟩
  show Steps p.tables e below (T0.setTop (mkF m 5 #[.val (.ref o0), .val (.int i1), .val (.int i2), .val (.int i3), .val (.int i4)] [])) _
  refine XS.iload X0.here hx rfl (hb hby d2_5) rfl ?_
  show Steps p.tables e below (T0.setTop (mkF m 7 #[.val (.ref o0), .val (.int i1), .val (.int i2), .val (.int i3), .val (.int i4)] [(.int i4)])) _
  refine XS.iloadN X0.here hx rfl (hb hby d2_7) rfl ?_
  show Steps p.tables e below (T0.setTop (mkF m 8 #[.val (.ref o0), .val (.int i1), .val (.int i2), .val (.int i3), .val (.int i4)] [(.int i1), (.int i4)])) _
  refine XS.iloadN X0.here hx rfl (hb hby d2_8) rfl ?_
  show Steps p.tables e below (T0.setTop (mkF m 9 #[.val (.ref o0), .val (.int i1), .val (.int i2), .val (.int i3), .val (.int i4)] [(.int i2), (.int i1), (.int i4)])) _
  refine XS.iadd X0.here hx rfl (hb hby d2_9) rfl ?_
  show Steps p.tables e below (T0.setTop (mkF m 10 #[.val (.ref o0), .val (.int i1), .val (.int i2), .val (.int i3), .val (.int i4)] [(.int (i1 + i2)), (.int i4)])) _
  refine XS.icmpNo X0.here hx rfl (hb hby d2_10) rfl (tlt hc10).2.1 ?_
  show Steps p.tables e below (T0.setTop (mkF m 13 #[.val (.ref o0), .val (.int i1), .val (.int i2), .val (.int i3), .val (.int i4)] [])) _
  refine XS.iloadN X0.here hx rfl (hb hby d2_13) rfl ?_
  show Steps p.tables e below (T0.setTop (mkF m 14 #[.val (.ref o0), .val (.int i1), .val (.int i2), .val (.int i3), .val (.int i4)] [(.int i3)])) _
  refine XS.aloadN X0.here hx rfl (hb hby d2_14) rfl rfl ?_
  show Steps p.tables e below (T0.setTop (mkF m 15 #[.val (.ref o0), .val (.int i1), .val (.int i2), .val (.int i3), .val (.int i4)] [(.ref o0), (.int i3)])) _
  refine XS.iload X0.here hx rfl (hb hby d2_15) rfl ?_
  show Steps p.tables e below (T0.setTop (mkF m 17 #[.val (.ref o0), .val (.int i1), .val (.int i2), .val (.int i3), .val (.int i4)] [(.int i4), (.ref o0), (.int i3)])) _
  refine X0.baloadBytes hx (j := i4) (v := (.int w4)) (by rw [e0]; exact Ar_o0.1) (State.isArrayOf_alike hZ.alike Ar_o0.2.1) Ar_o0.2.2 hin17 hat17 (g := (mkF m 17 #[.val (.ref o0), .val (.int i1), .val (.int i2), .val (.int i3), .val (.int i4)] [(.int i4), (.ref o0), (.int i3)])) rfl rfl (hb hby d2_17) _ ?_
  show Steps p.tables e below (T0.setTop (mkF m 18 #[.val (.ref o0), .val (.int i1), .val (.int i2), .val (.int i3), .val (.int i4)] [(.int w4), (.int i3)])) _
  refine XS.iadd X0.here hx rfl (hb hby d2_18) rfl ?_
  show Steps p.tables e below (T0.setTop (mkF m 19 #[.val (.ref o0), .val (.int i1), .val (.int i2), .val (.int i3), .val (.int i4)] [(.int (i3 + w4))])) _
  refine XS.istoreN X0.here hx rfl (hb hby d2_19) rfl (l' := #[.val (.ref o0), .val (.int i1), .val (.int i2), .val (.int (i3 + w4)), .val (.int i4)]) rfl ?_
  show Steps p.tables e below (T0.setTop (mkF m 20 #[.val (.ref o0), .val (.int i1), .val (.int i2), .val (.int (i3 + w4)), .val (.int i4)] [])) _
  refine XS.iinc X0.here hx rfl (hb hby d2_20) rfl (l' := #[.val (.ref o0), .val (.int i1), .val (.int i2), .val (.int (i3 + w4)), .val (.int (i4 + (1 : Int32)))]) rfl ?_
  show Steps p.tables e below (T0.setTop (mkF m 23 #[.val (.ref o0), .val (.int i1), .val (.int i2), .val (.int (i3 + w4)), .val (.int (i4 + (1 : Int32)))] [])) _
  refine XS.goto X0.here hx rfl (pc0 := 23) (pc' := 5) rfl (hb hby d2_23) (by decide) (by decide) ?_
  exact kt
set_option maxRecDepth 65536 in
set_option maxHeartbeats 40000000 in
theorem tn2_5_26 {p : Program} {l : Launch} {e : Env} {R : Room} {s : State} {m : MethodId} {args : Array Value} {below : List Frame} {meth : Method} {c : Code} {T0 : State} {locs : List Loc} {cells slots : Nat} {Z : State} {a0 : Array Value} {h0 : Heap} (s0 : Slot) (i1 : Int32) (i2 : Int32) (s3 : Slot) (i4 : Int32)
    (X0 : Stand p l e R s m args below meth c T0 locs cells slots) (hx : p.tables.exec = Jvm.exec) (hZ : Z.Warmed39 s.vm) (hw : ∀ d ∈ tables_1, d.before a0 Z = true) (hby : c.code = prog_6_method_2_code) (hml : c.maxLocals = 5) (hown : s.vm.findClass "com/example/shiokaze/shiokaze/fix/CheckSum" = some m.cls) (e0 : T0.heap = h0) (hc10 : ¬ (i4 < (i1 + i2))) :
    ∃ (T' : State), Stand p l e R s m args below meth c T' locs cells slots ∧ T'.heap = h0 ∧
      ∀ target, Steps p.tables e below (T'.setTop (mkF m 26 #[s0, .val (.int i1), .val (.int i2), s3, .val (.int i4)] [])) target → Steps p.tables e below (T0.setTop (mkF m 5 #[s0, .val (.int i1), .val (.int i2), s3, .val (.int i4)] [])) target := by

  refine ⟨T0, X0, e0, fun target kt => ?_⟩
  show Steps p.tables e below (T0.setTop (mkF m 5 #[s0, .val (.int i1), .val (.int i2), s3, .val (.int i4)] [])) _
  refine XS.iload X0.here hx rfl (hb hby d2_5) rfl ?_
  show Steps p.tables e below (T0.setTop (mkF m 7 #[s0, .val (.int i1), .val (.int i2), s3, .val (.int i4)] [(.int i4)])) _
  refine XS.iloadN X0.here hx rfl (hb hby d2_7) rfl ?_
  show Steps p.tables e below (T0.setTop (mkF m 8 #[s0, .val (.int i1), .val (.int i2), s3, .val (.int i4)] [(.int i1), (.int i4)])) _
  refine XS.iloadN X0.here hx rfl (hb hby d2_8) rfl ?_
  show Steps p.tables e below (T0.setTop (mkF m 9 #[s0, .val (.int i1), .val (.int i2), s3, .val (.int i4)] [(.int i2), (.int i1), (.int i4)])) _
  refine XS.iadd X0.here hx rfl (hb hby d2_9) rfl ?_
  show Steps p.tables e below (T0.setTop (mkF m 10 #[s0, .val (.int i1), .val (.int i2), s3, .val (.int i4)] [(.int (i1 + i2)), (.int i4)])) _
  refine XS.icmpYes X0.here hx rfl (pc0 := 10) (pc' := 26) rfl (hb hby d2_10) rfl (flt hc10).2.1 (by decide) (by decide) ?_
  exact kt
theorem loop2 {p : Program} {l : Launch} {e : Env} {R : Room} {s : State} {m : MethodId} {args : Array Value} {below : List Frame} {meth : Method} {c : Code} {locs : List Loc} {cells slots : Nat} {Z : State} {a0 : Array Value} {h0 : Heap} (o0 : Addr) (i1 i2 : Int32) (f : Nat → Int32) (n m' : Nat) (hn : i1.toInt = n) (hm : i2.toInt = m') (hs : n + m' ≤ 8) (hx : p.tables.exec = Jvm.exec) (hZ : Z.Warmed39 s.vm) (hw : ∀ d ∈ tables_1, d.before a0 Z = true) (hby : c.code = prog_6_method_2_code) (hml : c.maxLocals = 5) (hown : s.vm.findClass "com/example/shiokaze/shiokaze/fix/CheckSum" = some m.cls) (cl_o0 : Cell) (Ar_o0 : Arr Z h0 o0 cl_o0 .byte) (S_o0 : cl_o0.slots.size = 8) (hat : ∀ j, j < 8 → cl_o0.slots[j]? = some (.int (f j))) :
    ∀ (k j : Nat) (i4 : Int32) (T0 : State), j + k = n + m' → n ≤ j → i4.toInt = j → Stand p l e R s m args below meth c T0 locs cells slots → T0.heap = h0 →
      ∃ (T' : State) (i4' : Int32), Stand p l e R s m args below meth c T' locs cells slots ∧ T'.heap = h0 ∧
        ∀ target, Steps p.tables e below (T'.setTop (mkF m 26 #[.val (.ref o0), .val (.int i1), .val (.int i2), .val (.int (own_part n m' f (n + m'))), .val (.int i4')] [])) target → Steps p.tables e below (T0.setTop (mkF m 5 #[.val (.ref o0), .val (.int i1), .val (.int i2), .val (.int (own_part n m' f j)), .val (.int i4)] [])) target := by
  have ha : (i1 + i2).toInt = i1.toInt + i2.toInt := own_add_small (by omega) (by omega)
  have k0 : (0 : Int32).toInt = 0 := by decide
  have k1 : (1 : Int32).toInt = 1 := by decide
  intro k
  induction k with
  | zero =>
    intro j i4 T0 hj hnj hi X0 e0
    obtain rfl : j = n + m' := by omega
    obtain ⟨T', X', e', st⟩ := tn2_5_26 (.val (.ref o0)) i1 i2 (.val (.int (own_part n m' f (n + m')))) i4 X0 hx hZ hw hby hml hown e0 (by rw [Int32.lt_iff_toInt_lt]; omega)
    exact ⟨T', i4, X', e', st⟩
  | succ k ih =>
    intro j i4 T0 hj hnj hi X0 e0
    have hc : i4.toNatClampNeg = j := by rw [Int32.toNatClampNeg]; omega
    have hin : ¬ (i4 < 0 ∨ cl_o0.slots.size ≤ i4.toNatClampNeg) := by
      rw [S_o0, hc, Int32.lt_iff_toInt_lt]
      exact fun q => q.elim (fun q => by omega) (fun q => by omega)
    have hai : cl_o0.slots[i4.toNatClampNeg]? = some (.int (f j)) := by rw [hc]; exact hat j (by omega)
    obtain ⟨T1, X1, e1, st1⟩ := tn2_5_5 o0 i1 i2 (own_part n m' f j) i4 (f j) cl_o0 X0 hx hZ hw hby hml hown e0 Ar_o0 hin hai (by rw [Int32.lt_iff_toInt_lt]; omega)
    obtain ⟨T', i4', X', e', st⟩ := ih (j + 1) (i4 + 1) T1 (by omega) (by omega) (by rw [own_add_small (by omega) (by omega)]; omega) X1 e1
    refine ⟨T', i4', X', e', fun target h => st1 target ?_⟩
    have q := st target h
    rw [own_part_in n m' f j hnj (by omega)] at q
    exact q
theorem d2_0 : decode prog_6_method_2_code 0 = .ok (.iconst 0, 1) := by decide +kernel
theorem d2_1 : decode prog_6_method_2_code 1 = .ok (.istore_n 3, 1) := by decide +kernel
theorem d2_2 : decode prog_6_method_2_code 2 = .ok (.iload_n 1, 1) := by decide +kernel
theorem d2_3 : decode prog_6_method_2_code 3 = .ok (.istore 4, 2) := by decide +kernel
theorem d2_26 : decode prog_6_method_2_code 26 = .ok (.iload_n 3, 1) := by decide +kernel
theorem d2_27 : decode prog_6_method_2_code 27 = .ok (.sipush 255, 3) := by decide +kernel
theorem d2_30 : decode prog_6_method_2_code 30 = .ok (.iand, 1) := by decide +kernel
theorem d2_31 : decode prog_6_method_2_code 31 = .ok (.ireturn, 1) := by decide +kernel
theorem pn_2 : plainName "com/example/shiokaze/shiokaze/fix/CheckSum" = true := by first | (simp [plainName, overriddenIn]; done) | decide +kernel
theorem ef_2 (m : MethodId) (x0 : Addr) (x1 : Int32) (x2 : Int32) : entryFrame m #[(.ref x0), (.int x1), (.int x2)] 5 = mkF m 0 #[.val (.ref x0), .val (.int x1), .val (.int x2), .unset, .unset] [] := by first | (simp [entryFrame, mkF, argsToLocals, Value.category]; done) | rfl
def Q2 (Z : State) (a1 : Addr) (p2 : Int32) (p3 : Int32) (f : Nat → Int32) (n m' : Nat) (h0 : Heap) (n0 : Nat) (v : Option Value) (h : Heap) (L : List Loc) : Prop := v = some (.int ((own_part n m' f (n + m')) &&& (255 : Int32))) ∧ Fr n0 L ∧ h = h0
set_option maxRecDepth 65536 in
set_option maxHeartbeats 40000000 in
theorem rm2 (l : Launch) (Z : State) (a0 : Array Value) (hw : ∀ d ∈ tables_1, d.before a0 Z = true) (ws : List Jvm.Cond) (a1 : Addr) (p2 : Int32) (p3 : Int32) (cl_a1 : Cell) (f : Nat → Int32) (n m' : Nat) (h0 : Heap) (n0 : Nat) (Z0 : n0 ≤ h0.size) (Ar_a1 : Arr Z h0 a1 cl_a1 .byte) (S_a1 : cl_a1.slots.size = 8) (hat : ∀ j, j < 8 → cl_a1.slots[j]? = some (.int (f j))) (hn : p2.toInt = n) (hm : p3.toInt = m') (hs : n + m' ≤ 8) :
    MetFree l (⟨"com/example/shiokaze/shiokaze/fix/CheckSum", "of", "([BII)I"⟩ : MethodName) (head1 (Jvm.Cond.code (⟨"com/example/shiokaze/shiokaze/fix/CheckSum", "of", "([BII)I"⟩ : MethodName) prog_6_method_2_code 5 (some .int) :: ws) ({ frames := 0, cells := 0, slots := 0, locals := 0 } : Room)) (fun a U => a = #[(.ref a1), (.int p2), (.int p3)] ∧ Z.Warmed39 U.vm ∧ U.heap = h0) (fun _ _ _ _ _ => True) (fun _ U o U' => ∃ v L, o = .returned v ∧ Q2 Z a1 p2 p3 f n m' h0 n0 v U'.heap L ∧ FrameEnd U o U' L ({ frames := 0, cells := 0, slots := 0, locals := 0 } : Room).cells ({ frames := 0, cells := 0, slots := 0, locals := 0 } : Room).slots) := by
  refine MetFree.of_bodySF (plainFor_of_name pn_2) hisR ?_
  intro p e s m args below meth c s₁ Bd hml0 hP hK
  obtain ⟨rfl, hZ, hh⟩ := hP
  have hx := Bd.exec
  have hby := Bd.bytes
  have hml : c.maxLocals = 5 := hml0
  have hown : s.vm.findClass "com/example/shiokaze/shiokaze/fix/CheckSum" = some m.cls := findClass_of_methodNamed Bd.named
  have hnm := (name_of_methodNamed Bd.named Bd.method).1
  have X0 : Stand p l e ({ frames := 0, cells := 0, slots := 0, locals := 0 } : Room) s m #[(.ref a1), (.int p2), (.int p3)] below meth c s₁ [] 0 0 := Stand.of_body Bd
  have e0 : s₁.heap = h0 := by rw [← hh, Bd.state]; rfl
  have N0 := Fr.nil n0
  have pre0 : ∀ t, Steps p.tables e below (s₁.setTop (mkF m 0 #[.val (.ref a1), .val (.int p2), .val (.int p3), .unset, .unset] [])) t → Steps p.tables e below (s₁.setTop (entryFrame m #[(.ref a1), (.int p2), (.int p3)] 5)) t := fun t k => castTop (ef_2 m a1 p2 p3) k

  obtain ⟨T1, i4', X1, e1, st1⟩ := loop2 a1 p2 p3 f n m' hn hm hs hx hZ hw hby hml hown cl_a1 Ar_a1 S_a1 hat m' n p2 s₁ rfl (Nat.le_refl _) hn X0 e0
  rw [own_part_lo n m' f n (Nat.le_refl _)] at st1
  obtain ⟨fs, hr, hrun, hended, hW, hsame⟩ := X1.leave (v := some (.int ((own_part n m' f (n + m')) &&& (255 : Int32)))) (fun h => by rw [Bd.returns] at h; cases h)
  refine ⟨_, _, pre0 _ ?_, hrun, hended, _, _, rfl, ?_, ⟨_, rfl⟩, hW, hsame.mono (by decide) (by decide)⟩
  · show Steps p.tables e below (s₁.setTop (mkF m 0 #[.val (.ref a1), .val (.int p2), .val (.int p3), .unset, .unset] [])) _
    refine XS.iconst X0.here hx rfl (hb hby d2_0) ?_
    show Steps p.tables e below (s₁.setTop (mkF m 1 #[.val (.ref a1), .val (.int p2), .val (.int p3), .unset, .unset] [(.int (0 : Int32))])) _
    refine XS.istoreN X0.here hx rfl (hb hby d2_1) rfl (l' := #[.val (.ref a1), .val (.int p2), .val (.int p3), .val (.int (0 : Int32)), .unset]) rfl ?_
    show Steps p.tables e below (s₁.setTop (mkF m 2 #[.val (.ref a1), .val (.int p2), .val (.int p3), .val (.int (0 : Int32)), .unset] [])) _
    refine XS.iloadN X0.here hx rfl (hb hby d2_2) rfl ?_
    show Steps p.tables e below (s₁.setTop (mkF m 3 #[.val (.ref a1), .val (.int p2), .val (.int p3), .val (.int (0 : Int32)), .unset] [(.int p2)])) _
    refine XS.istore X0.here hx rfl (hb hby d2_3) rfl (l' := #[.val (.ref a1), .val (.int p2), .val (.int p3), .val (.int (0 : Int32)), .val (.int p2)]) rfl ?_
    show Steps p.tables e below (s₁.setTop (mkF m 5 #[.val (.ref a1), .val (.int p2), .val (.int p3), .val (.int (0 : Int32)), .val (.int p2)] [])) _
    refine st1 _ ?_
    show Steps p.tables e below (T1.setTop (mkF m 26 #[.val (.ref a1), .val (.int p2), .val (.int p3), .val (.int (own_part n m' f (n + m'))), .val (.int i4')] [])) _
    refine XS.iloadN X1.here hx rfl (hb hby d2_26) rfl ?_
    show Steps p.tables e below (T1.setTop (mkF m 27 #[.val (.ref a1), .val (.int p2), .val (.int p3), .val (.int (own_part n m' f (n + m'))), .val (.int i4')] [(.int (own_part n m' f (n + m')))])) _
    refine XS.sipush X1.here hx rfl (hb hby d2_27) ?_
    show Steps p.tables e below (T1.setTop (mkF m 30 #[.val (.ref a1), .val (.int p2), .val (.int p3), .val (.int (own_part n m' f (n + m'))), .val (.int i4')] [(.int (255 : Int32)), (.int (own_part n m' f (n + m')))])) _
    refine XS.iand X1.here hx rfl (hb hby d2_30) rfl ?_
    show Steps p.tables e below (T1.setTop (mkF m 31 #[.val (.ref a1), .val (.int p2), .val (.int p3), .val (.int (own_part n m' f (n + m'))), .val (.int i4')] [(.int ((own_part n m' f (n + m')) &&& (255 : Int32)))])) _
    exact retI X1 hx Bd.returns (hb hby d2_31) hr
  · show Q2 Z a1 p2 p3 f n m' h0 n0 _ T1.heap _
    rw [e1]
    exact ⟨rfl, N0, rfl⟩
theorem pn_0 : plainName "com/example/shiokaze/shiokaze/fix/CheckSumOfPinLaw" = true := by first | (simp [plainName, overriddenIn]; done) | decide +kernel
theorem pd_0_0 : parseMethodDescriptor "([BIII)I" = some ⟨[(.array .byte), .int, .int, .int], some .int⟩ := by decide +kernel
theorem pd_0_1 : parseMethodDescriptor "([BII)I" = some ⟨[(.array .byte), .int, .int], some .int⟩ := by decide +kernel
theorem ef_0 (m : MethodId) (x0 : Int64) (x1 : Int32) (x2 : Int32) : entryFrame m #[(.long x0), (.int x1), (.int x2)] maxLocals = mkF m 0 #[.val (.long x0), .second, .val (.int x1), .val (.int x2), .unset, .unset, .unset, .unset, .unset, .unset] [] := by first | (simp [entryFrame, mkF, argsToLocals, Value.category, maxLocals]; done) | rfl
def Q0 (Z : State) (q1 : Int64) (p2 : Int32) (p3 : Int32) (vn92 : Int32) (vn104 : Int32) (h0 : Heap) (n0 : Nat) (v : Option Value) (h : Heap) (L : List Loc) : Prop := v = some (.int (1 : Int32)) ∧ Fr n0 L
set_option maxRecDepth 65536 in
set_option maxHeartbeats 40000000 in
theorem rm0 (l : Launch) (Z : State) (a0 : Array Value) (hw : ∀ d ∈ tables_1, d.before a0 Z = true) (ws : List Jvm.Cond) (q1 : Int64) (p2 : Int32) (p3 : Int32) (vn92 : Int32) (vn104 : Int32) (h0 : Heap) (n0 : Nat) (Z0 : n0 ≤ h0.size) (hvn92 : vn92 = ((p2 &&& (2147483647 : Int32)) - ((p2 &&& (2147483647 : Int32)) / (9 : Int32)) * (9 : Int32))) (hvn104 : vn104 = ((p3 &&& (2147483647 : Int32)) - ((p3 &&& (2147483647 : Int32)) / ((9 : Int32) - vn92)) * ((9 : Int32) - vn92))) :
    MetFree l x (head1 (Jvm.Cond.code x code maxLocals ret :: ws) room_1) (fun a U => a = #[(.long q1), (.int p2), (.int p3)] ∧ Z.Warmed39 U.vm ∧ U.heap = h0) (fun _ _ _ _ _ => True) (fun _ U o U' => ∃ v L, o = .returned v ∧ Q0 Z q1 p2 p3 vn92 vn104 h0 n0 v U'.heap L ∧ FrameEnd U o U' L room_1.cells room_1.slots) := by
  refine MetFree.of_bodySF (plainFor_of_name pn_0) hisR ?_
  intro p e s m args below meth c s₁ Bd hml0 hP hK
  obtain ⟨rfl, hZ, hh⟩ := hP
  have hx := Bd.exec
  have hby := Bd.bytes
  have hml : c.maxLocals = 10 := hml0
  have hown : s.vm.findClass "com/example/shiokaze/shiokaze/fix/CheckSumOfPinLaw" = some m.cls := findClass_of_methodNamed Bd.named
  have hnm := (name_of_methodNamed Bd.named Bd.method).1
  have X0 : Stand p l e room_1 s m #[(.long q1), (.int p2), (.int p3)] below meth c s₁ [] 0 0 := Stand.of_body Bd
  have e0 : s₁.heap = h0 := by rw [← hh, Bd.state]; rfl
  have N0 := Fr.nil n0
  have pre0 : ∀ t, Steps p.tables e below (s₁.setTop (mkF m 0 #[.val (.long q1), .second, .val (.int p2), .val (.int p3), .unset, .unset, .unset, .unset, .unset, .unset] [])) t → Steps p.tables e below (s₁.setTop (entryFrame m #[(.long q1), (.int p2), (.int p3)] maxLocals)) t := fun t k => castTop (ef_0 m q1 p2 p3) k
  obtain ⟨T4, h4, k4, X4, e4, E4, A4, st4⟩ := newP X0 hx hZ (hw _ (List.mem_of_getElem? (i := 0) rfl)) e0 (g := (mkF m 2 #[.val (.long q1), .second, .val (.int p2), .val (.int p3), .unset, .unset, .unset, .unset, .unset, .unset] [(.int (8 : Int32))])) rfl (hb hby at_2) rfl (by decide) (cap := 8) (by decide) (by decide) (by decide) (by decide)
  obtain ⟨b4, g4⟩ : ∃ z, z = h0.size := ⟨_, rfl⟩
  rw [← g4] at A4 st4
  have V_b4 : Arv Z h4 b4 k4 .byte (8 : Int32) [(.int (0 : Int32)), (.int (0 : Int32)), (.int (0 : Int32)), (.int (0 : Int32)), (.int (0 : Int32)), (.int (0 : Int32)), (.int (0 : Int32)), (.int (0 : Int32))] (.int (0 : Int32)) := (Arv.new A4 (by decide)).pad (pad_rep [] (.int (0 : Int32)) 8)
  have g_b4 : n0 ≤ b4 := Nat.le_trans Z0 (Nat.le_of_eq g4.symm)
  have sz_b4 : h0.size ≤ b4 := (Nat.le_trans (Keep.refl h0 []).1 (Nat.le_of_eq g4.symm))
  have K4 : Keep h0 h4 [] := (Keep.refl h0 []).ext E4
  obtain ⟨cl_b4_12, Ar_b4, q_b4, S_b4, N_b4, H_b4, G_b4⟩ := V_b4
  have hin12 : ¬ ((0 : Int32) < 0 ∨ cl_b4_12.slots.size ≤ ((0 : Int32)).toNatClampNeg) := inb_of S_b4 ⟨by decide, by decide⟩
  obtain ⟨T5, h5, X5, e5, W5, st5⟩ := stB X4 hx hZ e4 Ar_b4 (j := (0 : Int32)) hin12 (g := (mkF m 12 #[.val (.long q1), .second, .val (.int p2), .val (.int p3), .val (.ref b4), .unset, .unset, .unset, .unset, .unset] [(.int ((q1.toInt32).toInt8.toInt32)), (.int (0 : Int32)), (.ref b4)])) rfl rfl (hb hby at_12)
  have V_b4_5 := Arv.set Ar_b4 q_b4 S_b4 N_b4 H_b4 G_b4 (fits_nar_byte _) W5 0 rfl (Nat.le_of_ble_eq_true rfl)
  have K5 : Keep h0 h5 [] := K4.wr W5 (Or.inr sz_b4)
  have N5 := Fr.snoc X5 N0 g_b4
  obtain ⟨cl_b4_22, Ar_b4, q_b4, S_b4, N_b4, H_b4, G_b4⟩ := V_b4_5
  have hin22 : ¬ ((1 : Int32) < 0 ∨ cl_b4_22.slots.size ≤ ((1 : Int32)).toNatClampNeg) := inb_of S_b4 ⟨by decide, by decide⟩
  obtain ⟨T6, h6, X6, e6, W6, st6⟩ := stB X5 hx hZ e5 Ar_b4 (j := (1 : Int32)) hin22 (g := (mkF m 22 #[.val (.long q1), .second, .val (.int p2), .val (.int p3), .val (.ref b4), .unset, .unset, .unset, .unset, .unset] [(.int ((((q1.toUInt64 >>> ((8 : Int32) &&& 0x3f).toInt64.toUInt64).toInt64).toInt32).toInt8.toInt32)), (.int (1 : Int32)), (.ref b4)])) rfl rfl (hb hby at_22)
  have V_b4_6 := Arv.set Ar_b4 q_b4 S_b4 N_b4 H_b4 G_b4 (fits_nar_byte _) W6 1 rfl (Nat.le_of_ble_eq_true rfl)
  have K6 : Keep h0 h6 [] := K5.wr W6 (Or.inr sz_b4)
  have N6 := Fr.snoc X6 N5 g_b4
  obtain ⟨cl_b4_32, Ar_b4, q_b4, S_b4, N_b4, H_b4, G_b4⟩ := V_b4_6
  have hin32 : ¬ ((2 : Int32) < 0 ∨ cl_b4_32.slots.size ≤ ((2 : Int32)).toNatClampNeg) := inb_of S_b4 ⟨by decide, by decide⟩
  obtain ⟨T7, h7, X7, e7, W7, st7⟩ := stB X6 hx hZ e6 Ar_b4 (j := (2 : Int32)) hin32 (g := (mkF m 32 #[.val (.long q1), .second, .val (.int p2), .val (.int p3), .val (.ref b4), .unset, .unset, .unset, .unset, .unset] [(.int ((((q1.toUInt64 >>> ((16 : Int32) &&& 0x3f).toInt64.toUInt64).toInt64).toInt32).toInt8.toInt32)), (.int (2 : Int32)), (.ref b4)])) rfl rfl (hb hby at_32)
  have V_b4_7 := Arv.set Ar_b4 q_b4 S_b4 N_b4 H_b4 G_b4 (fits_nar_byte _) W7 2 rfl (Nat.le_of_ble_eq_true rfl)
  have K7 : Keep h0 h7 [] := K6.wr W7 (Or.inr sz_b4)
  have N7 := Fr.snoc X7 N6 g_b4
  obtain ⟨cl_b4_42, Ar_b4, q_b4, S_b4, N_b4, H_b4, G_b4⟩ := V_b4_7
  have hin42 : ¬ ((3 : Int32) < 0 ∨ cl_b4_42.slots.size ≤ ((3 : Int32)).toNatClampNeg) := inb_of S_b4 ⟨by decide, by decide⟩
  obtain ⟨T8, h8, X8, e8, W8, st8⟩ := stB X7 hx hZ e7 Ar_b4 (j := (3 : Int32)) hin42 (g := (mkF m 42 #[.val (.long q1), .second, .val (.int p2), .val (.int p3), .val (.ref b4), .unset, .unset, .unset, .unset, .unset] [(.int ((((q1.toUInt64 >>> ((24 : Int32) &&& 0x3f).toInt64.toUInt64).toInt64).toInt32).toInt8.toInt32)), (.int (3 : Int32)), (.ref b4)])) rfl rfl (hb hby at_42)
  have V_b4_8 := Arv.set Ar_b4 q_b4 S_b4 N_b4 H_b4 G_b4 (fits_nar_byte _) W8 3 rfl (Nat.le_of_ble_eq_true rfl)
  have K8 : Keep h0 h8 [] := K7.wr W8 (Or.inr sz_b4)
  have N8 := Fr.snoc X8 N7 g_b4
  obtain ⟨cl_b4_52, Ar_b4, q_b4, S_b4, N_b4, H_b4, G_b4⟩ := V_b4_8
  have hin52 : ¬ ((4 : Int32) < 0 ∨ cl_b4_52.slots.size ≤ ((4 : Int32)).toNatClampNeg) := inb_of S_b4 ⟨by decide, by decide⟩
  obtain ⟨T9, h9, X9, e9, W9, st9⟩ := stB X8 hx hZ e8 Ar_b4 (j := (4 : Int32)) hin52 (g := (mkF m 52 #[.val (.long q1), .second, .val (.int p2), .val (.int p3), .val (.ref b4), .unset, .unset, .unset, .unset, .unset] [(.int ((((q1.toUInt64 >>> ((32 : Int32) &&& 0x3f).toInt64.toUInt64).toInt64).toInt32).toInt8.toInt32)), (.int (4 : Int32)), (.ref b4)])) rfl rfl (hb hby at_52)
  have V_b4_9 := Arv.set Ar_b4 q_b4 S_b4 N_b4 H_b4 G_b4 (fits_nar_byte _) W9 4 rfl (Nat.le_of_ble_eq_true rfl)
  have K9 : Keep h0 h9 [] := K8.wr W9 (Or.inr sz_b4)
  have N9 := Fr.snoc X9 N8 g_b4
  obtain ⟨cl_b4_62, Ar_b4, q_b4, S_b4, N_b4, H_b4, G_b4⟩ := V_b4_9
  have hin62 : ¬ ((5 : Int32) < 0 ∨ cl_b4_62.slots.size ≤ ((5 : Int32)).toNatClampNeg) := inb_of S_b4 ⟨by decide, by decide⟩
  obtain ⟨T10, h10, X10, e10, W10, st10⟩ := stB X9 hx hZ e9 Ar_b4 (j := (5 : Int32)) hin62 (g := (mkF m 62 #[.val (.long q1), .second, .val (.int p2), .val (.int p3), .val (.ref b4), .unset, .unset, .unset, .unset, .unset] [(.int ((((q1.toUInt64 >>> ((40 : Int32) &&& 0x3f).toInt64.toUInt64).toInt64).toInt32).toInt8.toInt32)), (.int (5 : Int32)), (.ref b4)])) rfl rfl (hb hby at_62)
  have V_b4_10 := Arv.set Ar_b4 q_b4 S_b4 N_b4 H_b4 G_b4 (fits_nar_byte _) W10 5 rfl (Nat.le_of_ble_eq_true rfl)
  have K10 : Keep h0 h10 [] := K9.wr W10 (Or.inr sz_b4)
  have N10 := Fr.snoc X10 N9 g_b4
  obtain ⟨cl_b4_73, Ar_b4, q_b4, S_b4, N_b4, H_b4, G_b4⟩ := V_b4_10
  have hin73 : ¬ ((6 : Int32) < 0 ∨ cl_b4_73.slots.size ≤ ((6 : Int32)).toNatClampNeg) := inb_of S_b4 ⟨by decide, by decide⟩
  obtain ⟨T11, h11, X11, e11, W11, st11⟩ := stB X10 hx hZ e10 Ar_b4 (j := (6 : Int32)) hin73 (g := (mkF m 73 #[.val (.long q1), .second, .val (.int p2), .val (.int p3), .val (.ref b4), .unset, .unset, .unset, .unset, .unset] [(.int ((((q1.toUInt64 >>> ((48 : Int32) &&& 0x3f).toInt64.toUInt64).toInt64).toInt32).toInt8.toInt32)), (.int (6 : Int32)), (.ref b4)])) rfl rfl (hb hby at_73)
  have V_b4_11 := Arv.set Ar_b4 q_b4 S_b4 N_b4 H_b4 G_b4 (fits_nar_byte _) W11 6 rfl (Nat.le_of_ble_eq_true rfl)
  have K11 : Keep h0 h11 [] := K10.wr W11 (Or.inr sz_b4)
  have N11 := Fr.snoc X11 N10 g_b4
  obtain ⟨cl_b4_84, Ar_b4, q_b4, S_b4, N_b4, H_b4, G_b4⟩ := V_b4_11
  have hin84 : ¬ ((7 : Int32) < 0 ∨ cl_b4_84.slots.size ≤ ((7 : Int32)).toNatClampNeg) := inb_of S_b4 ⟨by decide, by decide⟩
  obtain ⟨T12, h12, X12, e12, W12, st12⟩ := stB X11 hx hZ e11 Ar_b4 (j := (7 : Int32)) hin84 (g := (mkF m 84 #[.val (.long q1), .second, .val (.int p2), .val (.int p3), .val (.ref b4), .unset, .unset, .unset, .unset, .unset] [(.int ((((q1.toUInt64 >>> ((56 : Int32) &&& 0x3f).toInt64.toUInt64).toInt64).toInt32).toInt8.toInt32)), (.int (7 : Int32)), (.ref b4)])) rfl rfl (hb hby at_84)
  obtain ⟨n, m', hn, hm, hs⟩ := (own_range p2 p3 hvn92).2 hvn104
  have hnz103 := (own_range (len := 0) p2 p3 hvn92).1
  have V_b4_12 := Arv.set Ar_b4 q_b4 S_b4 N_b4 H_b4 G_b4 (fits_nar_byte _) W12 7 rfl (Nat.le_of_ble_eq_true rfl)
  obtain ⟨clb, Arb, -, Sb, -, Hb, Gb⟩ := V_b4_12
  have Sb8 : clb.slots.size = 8 := Sb.trans (by decide)
  obtain ⟨f, hf⟩ := own_bytes Sb8 Hb Gb
  have hat : ∀ (j : Nat) (i : Int32), j < 8 → i.toNatClampNeg = j → clb.slots[i.toNatClampNeg]? = some (.int (f j)) := fun j i h1 h2 => by rw [h2]; exact hf j h1
  have K12 : Keep h0 h12 [] := K11.wr W12 (Or.inr sz_b4)
  have N12 := Fr.snoc X12 N11 g_b4
  obtain ⟨_, _, ⟨T13, L13, k13, n13⟩, -, X13, ⟨Lc13, hQ13, l13, y13, z13⟩, st13⟩ := Jvm.LawKit.callS X12 hx (y := (⟨"com/example/shiokaze/shiokaze/fix/CheckSumOfPinLaw", "term", "([BIII)I"⟩ : MethodName)) hown (mvT hZ (hw _ (List.mem_of_getElem? (i := 2) rfl))) (mvT hZ (hw _ (List.mem_of_getElem? (i := 3) rfl))) (mvT hZ (hw _ (List.mem_of_getElem? (i := 4) rfl))) (mvT hZ (hw _ (List.mem_of_getElem? (i := 5) rfl))) (by decide) (backOf (W := 0) (rm1 l Z a0 hw [] b4 (0 : Int32) vn92 vn104 (f 0) clb h12 n0 (Nat.le_trans (Nat.le_trans (Nat.le_trans (Nat.le_trans (Nat.le_trans (Nat.le_trans (Nat.le_trans (Nat.le_trans (Nat.le_trans Z0 E4.1) (Keep.of_wr W5).1) (Keep.of_wr W6).1) (Keep.of_wr W7).1) (Keep.of_wr W8).1) (Keep.of_wr W9).1) (Keep.of_wr W10).1) (Keep.of_wr W11).1) (Keep.of_wr W12).1) Arb (inb_of Sb ⟨by decide, by decide⟩) (hat 0 (0 : Int32) (by decide) (by decide))) hZ (hw _ (List.mem_of_getElem? (i := 5) rfl)) (hw _ (List.mem_of_getElem? (i := 4) rfl)) (by decide) (by decide)) (g := (mkF m 113 #[.val (.long q1), .second, .val (.int p2), .val (.int p3), .val (.ref b4), .val (.int vn92), .val (.int vn104), .unset, .unset, .unset] [(.int vn104), (.int vn92), (.int (0 : Int32)), (.ref b4)])) rfl (by rw [hml]; rfl) (argsL := [(.ref b4), (.int (0 : Int32)), (.int vn92), (.int vn104)]) (rest := []) (lenOf pd_0_0 rfl) rfl (by show 2 * 0 + _ ≤ _; exact Nat.le_of_eq rfl) (hb hby at_113) (fun _ _ => ⟨rfl, e12, (by decide : 1 + 0 ≤ _), (by decide : 8 + 0 ≤ _)⟩)
  dsimp only [Pt.U, Pt.locs, Pt.cells, Pt.slots] at X13 l13 y13 z13 st13 hQ13
  subst l13 y13 z13
  obtain ⟨rfl, N13q, e13⟩ := hQ13
  have N13 := Fr.app N12 N13q
  obtain ⟨_, _, ⟨T14, L14, k14, n14⟩, -, X14, ⟨Lc14, hQ14, l14, y14, z14⟩, st14⟩ := Jvm.LawKit.callS X13 hx (y := (⟨"com/example/shiokaze/shiokaze/fix/CheckSumOfPinLaw", "term", "([BIII)I"⟩ : MethodName)) hown (mvT hZ (hw _ (List.mem_of_getElem? (i := 2) rfl))) (mvT hZ (hw _ (List.mem_of_getElem? (i := 3) rfl))) (mvT hZ (hw _ (List.mem_of_getElem? (i := 4) rfl))) (mvT hZ (hw _ (List.mem_of_getElem? (i := 5) rfl))) (by decide) (backOf (W := 1) (rm1 l Z a0 hw [] b4 (1 : Int32) vn92 vn104 (f 1) clb h12 n0 (Nat.le_trans (Nat.le_trans (Nat.le_trans (Nat.le_trans (Nat.le_trans (Nat.le_trans (Nat.le_trans (Nat.le_trans (Nat.le_trans Z0 E4.1) (Keep.of_wr W5).1) (Keep.of_wr W6).1) (Keep.of_wr W7).1) (Keep.of_wr W8).1) (Keep.of_wr W9).1) (Keep.of_wr W10).1) (Keep.of_wr W11).1) (Keep.of_wr W12).1) Arb (inb_of Sb ⟨by decide, by decide⟩) (hat 1 (1 : Int32) (by decide) (by decide))) hZ (hw _ (List.mem_of_getElem? (i := 5) rfl)) (hw _ (List.mem_of_getElem? (i := 4) rfl)) (by decide) (by decide)) (g := (mkF m 123 #[.val (.long q1), .second, .val (.int p2), .val (.int p3), .val (.ref b4), .val (.int vn92), .val (.int vn104), .unset, .unset, .unset] [(.int vn104), (.int vn92), (.int (1 : Int32)), (.ref b4), (.int (own_term (0 : Int32) vn92 vn104 (f 0)))])) rfl (by rw [hml]; rfl) (argsL := [(.ref b4), (.int (1 : Int32)), (.int vn92), (.int vn104)]) (rest := [(.int (own_term (0 : Int32) vn92 vn104 (f 0)))]) (lenOf pd_0_0 rfl) rfl (by show 2 * 0 + _ ≤ _; exact Nat.le_of_eq rfl) (hb hby at_123) (fun _ _ => ⟨rfl, e13, (by decide : 1 + 0 ≤ _), (by decide : 8 + 0 ≤ _)⟩)
  dsimp only [Pt.U, Pt.locs, Pt.cells, Pt.slots] at X14 l14 y14 z14 st14 hQ14
  subst l14 y14 z14
  obtain ⟨rfl, N14q, e14⟩ := hQ14
  have N14 := Fr.app N13 N14q
  obtain ⟨_, _, ⟨T15, L15, k15, n15⟩, -, X15, ⟨Lc15, hQ15, l15, y15, z15⟩, st15⟩ := Jvm.LawKit.callS X14 hx (y := (⟨"com/example/shiokaze/shiokaze/fix/CheckSumOfPinLaw", "term", "([BIII)I"⟩ : MethodName)) hown (mvT hZ (hw _ (List.mem_of_getElem? (i := 2) rfl))) (mvT hZ (hw _ (List.mem_of_getElem? (i := 3) rfl))) (mvT hZ (hw _ (List.mem_of_getElem? (i := 4) rfl))) (mvT hZ (hw _ (List.mem_of_getElem? (i := 5) rfl))) (by decide) (backOf (W := 1) (rm1 l Z a0 hw [] b4 (2 : Int32) vn92 vn104 (f 2) clb h12 n0 (Nat.le_trans (Nat.le_trans (Nat.le_trans (Nat.le_trans (Nat.le_trans (Nat.le_trans (Nat.le_trans (Nat.le_trans (Nat.le_trans Z0 E4.1) (Keep.of_wr W5).1) (Keep.of_wr W6).1) (Keep.of_wr W7).1) (Keep.of_wr W8).1) (Keep.of_wr W9).1) (Keep.of_wr W10).1) (Keep.of_wr W11).1) (Keep.of_wr W12).1) Arb (inb_of Sb ⟨by decide, by decide⟩) (hat 2 (2 : Int32) (by decide) (by decide))) hZ (hw _ (List.mem_of_getElem? (i := 5) rfl)) (hw _ (List.mem_of_getElem? (i := 4) rfl)) (by decide) (by decide)) (g := (mkF m 134 #[.val (.long q1), .second, .val (.int p2), .val (.int p3), .val (.ref b4), .val (.int vn92), .val (.int vn104), .unset, .unset, .unset] [(.int vn104), (.int vn92), (.int (2 : Int32)), (.ref b4), (.int ((own_term (0 : Int32) vn92 vn104 (f 0)) + (own_term (1 : Int32) vn92 vn104 (f 1))))])) rfl (by rw [hml]; rfl) (argsL := [(.ref b4), (.int (2 : Int32)), (.int vn92), (.int vn104)]) (rest := [(.int ((own_term (0 : Int32) vn92 vn104 (f 0)) + (own_term (1 : Int32) vn92 vn104 (f 1))))]) (lenOf pd_0_0 rfl) rfl (by show 2 * 0 + _ ≤ _; exact Nat.le_of_eq rfl) (hb hby at_134) (fun _ _ => ⟨rfl, e14, (by decide : 1 + 0 ≤ _), (by decide : 8 + 0 ≤ _)⟩)
  dsimp only [Pt.U, Pt.locs, Pt.cells, Pt.slots] at X15 l15 y15 z15 st15 hQ15
  subst l15 y15 z15
  obtain ⟨rfl, N15q, e15⟩ := hQ15
  have N15 := Fr.app N14 N15q
  obtain ⟨_, _, ⟨T16, L16, k16, n16⟩, -, X16, ⟨Lc16, hQ16, l16, y16, z16⟩, st16⟩ := Jvm.LawKit.callS X15 hx (y := (⟨"com/example/shiokaze/shiokaze/fix/CheckSumOfPinLaw", "term", "([BIII)I"⟩ : MethodName)) hown (mvT hZ (hw _ (List.mem_of_getElem? (i := 2) rfl))) (mvT hZ (hw _ (List.mem_of_getElem? (i := 3) rfl))) (mvT hZ (hw _ (List.mem_of_getElem? (i := 4) rfl))) (mvT hZ (hw _ (List.mem_of_getElem? (i := 5) rfl))) (by decide) (backOf (W := 1) (rm1 l Z a0 hw [] b4 (3 : Int32) vn92 vn104 (f 3) clb h12 n0 (Nat.le_trans (Nat.le_trans (Nat.le_trans (Nat.le_trans (Nat.le_trans (Nat.le_trans (Nat.le_trans (Nat.le_trans (Nat.le_trans Z0 E4.1) (Keep.of_wr W5).1) (Keep.of_wr W6).1) (Keep.of_wr W7).1) (Keep.of_wr W8).1) (Keep.of_wr W9).1) (Keep.of_wr W10).1) (Keep.of_wr W11).1) (Keep.of_wr W12).1) Arb (inb_of Sb ⟨by decide, by decide⟩) (hat 3 (3 : Int32) (by decide) (by decide))) hZ (hw _ (List.mem_of_getElem? (i := 5) rfl)) (hw _ (List.mem_of_getElem? (i := 4) rfl)) (by decide) (by decide)) (g := (mkF m 145 #[.val (.long q1), .second, .val (.int p2), .val (.int p3), .val (.ref b4), .val (.int vn92), .val (.int vn104), .unset, .unset, .unset] [(.int vn104), (.int vn92), (.int (3 : Int32)), (.ref b4), (.int (((own_term (0 : Int32) vn92 vn104 (f 0)) + (own_term (1 : Int32) vn92 vn104 (f 1))) + (own_term (2 : Int32) vn92 vn104 (f 2))))])) rfl (by rw [hml]; rfl) (argsL := [(.ref b4), (.int (3 : Int32)), (.int vn92), (.int vn104)]) (rest := [(.int (((own_term (0 : Int32) vn92 vn104 (f 0)) + (own_term (1 : Int32) vn92 vn104 (f 1))) + (own_term (2 : Int32) vn92 vn104 (f 2))))]) (lenOf pd_0_0 rfl) rfl (by show 2 * 0 + _ ≤ _; exact Nat.le_of_eq rfl) (hb hby at_145) (fun _ _ => ⟨rfl, e15, (by decide : 1 + 0 ≤ _), (by decide : 8 + 0 ≤ _)⟩)
  dsimp only [Pt.U, Pt.locs, Pt.cells, Pt.slots] at X16 l16 y16 z16 st16 hQ16
  subst l16 y16 z16
  obtain ⟨rfl, N16q, e16⟩ := hQ16
  have N16 := Fr.app N15 N16q
  obtain ⟨_, _, ⟨T17, L17, k17, n17⟩, -, X17, ⟨Lc17, hQ17, l17, y17, z17⟩, st17⟩ := Jvm.LawKit.callS X16 hx (y := (⟨"com/example/shiokaze/shiokaze/fix/CheckSumOfPinLaw", "term", "([BIII)I"⟩ : MethodName)) hown (mvT hZ (hw _ (List.mem_of_getElem? (i := 2) rfl))) (mvT hZ (hw _ (List.mem_of_getElem? (i := 3) rfl))) (mvT hZ (hw _ (List.mem_of_getElem? (i := 4) rfl))) (mvT hZ (hw _ (List.mem_of_getElem? (i := 5) rfl))) (by decide) (backOf (W := 1) (rm1 l Z a0 hw [] b4 (4 : Int32) vn92 vn104 (f 4) clb h12 n0 (Nat.le_trans (Nat.le_trans (Nat.le_trans (Nat.le_trans (Nat.le_trans (Nat.le_trans (Nat.le_trans (Nat.le_trans (Nat.le_trans Z0 E4.1) (Keep.of_wr W5).1) (Keep.of_wr W6).1) (Keep.of_wr W7).1) (Keep.of_wr W8).1) (Keep.of_wr W9).1) (Keep.of_wr W10).1) (Keep.of_wr W11).1) (Keep.of_wr W12).1) Arb (inb_of Sb ⟨by decide, by decide⟩) (hat 4 (4 : Int32) (by decide) (by decide))) hZ (hw _ (List.mem_of_getElem? (i := 5) rfl)) (hw _ (List.mem_of_getElem? (i := 4) rfl)) (by decide) (by decide)) (g := (mkF m 156 #[.val (.long q1), .second, .val (.int p2), .val (.int p3), .val (.ref b4), .val (.int vn92), .val (.int vn104), .unset, .unset, .unset] [(.int vn104), (.int vn92), (.int (4 : Int32)), (.ref b4), (.int ((((own_term (0 : Int32) vn92 vn104 (f 0)) + (own_term (1 : Int32) vn92 vn104 (f 1))) + (own_term (2 : Int32) vn92 vn104 (f 2))) + (own_term (3 : Int32) vn92 vn104 (f 3))))])) rfl (by rw [hml]; rfl) (argsL := [(.ref b4), (.int (4 : Int32)), (.int vn92), (.int vn104)]) (rest := [(.int ((((own_term (0 : Int32) vn92 vn104 (f 0)) + (own_term (1 : Int32) vn92 vn104 (f 1))) + (own_term (2 : Int32) vn92 vn104 (f 2))) + (own_term (3 : Int32) vn92 vn104 (f 3))))]) (lenOf pd_0_0 rfl) rfl (by show 2 * 0 + _ ≤ _; exact Nat.le_of_eq rfl) (hb hby at_156) (fun _ _ => ⟨rfl, e16, (by decide : 1 + 0 ≤ _), (by decide : 8 + 0 ≤ _)⟩)
  dsimp only [Pt.U, Pt.locs, Pt.cells, Pt.slots] at X17 l17 y17 z17 st17 hQ17
  subst l17 y17 z17
  obtain ⟨rfl, N17q, e17⟩ := hQ17
  have N17 := Fr.app N16 N17q
  obtain ⟨_, _, ⟨T18, L18, k18, n18⟩, -, X18, ⟨Lc18, hQ18, l18, y18, z18⟩, st18⟩ := Jvm.LawKit.callS X17 hx (y := (⟨"com/example/shiokaze/shiokaze/fix/CheckSumOfPinLaw", "term", "([BIII)I"⟩ : MethodName)) hown (mvT hZ (hw _ (List.mem_of_getElem? (i := 2) rfl))) (mvT hZ (hw _ (List.mem_of_getElem? (i := 3) rfl))) (mvT hZ (hw _ (List.mem_of_getElem? (i := 4) rfl))) (mvT hZ (hw _ (List.mem_of_getElem? (i := 5) rfl))) (by decide) (backOf (W := 1) (rm1 l Z a0 hw [] b4 (5 : Int32) vn92 vn104 (f 5) clb h12 n0 (Nat.le_trans (Nat.le_trans (Nat.le_trans (Nat.le_trans (Nat.le_trans (Nat.le_trans (Nat.le_trans (Nat.le_trans (Nat.le_trans Z0 E4.1) (Keep.of_wr W5).1) (Keep.of_wr W6).1) (Keep.of_wr W7).1) (Keep.of_wr W8).1) (Keep.of_wr W9).1) (Keep.of_wr W10).1) (Keep.of_wr W11).1) (Keep.of_wr W12).1) Arb (inb_of Sb ⟨by decide, by decide⟩) (hat 5 (5 : Int32) (by decide) (by decide))) hZ (hw _ (List.mem_of_getElem? (i := 5) rfl)) (hw _ (List.mem_of_getElem? (i := 4) rfl)) (by decide) (by decide)) (g := (mkF m 167 #[.val (.long q1), .second, .val (.int p2), .val (.int p3), .val (.ref b4), .val (.int vn92), .val (.int vn104), .unset, .unset, .unset] [(.int vn104), (.int vn92), (.int (5 : Int32)), (.ref b4), (.int (((((own_term (0 : Int32) vn92 vn104 (f 0)) + (own_term (1 : Int32) vn92 vn104 (f 1))) + (own_term (2 : Int32) vn92 vn104 (f 2))) + (own_term (3 : Int32) vn92 vn104 (f 3))) + (own_term (4 : Int32) vn92 vn104 (f 4))))])) rfl (by rw [hml]; rfl) (argsL := [(.ref b4), (.int (5 : Int32)), (.int vn92), (.int vn104)]) (rest := [(.int (((((own_term (0 : Int32) vn92 vn104 (f 0)) + (own_term (1 : Int32) vn92 vn104 (f 1))) + (own_term (2 : Int32) vn92 vn104 (f 2))) + (own_term (3 : Int32) vn92 vn104 (f 3))) + (own_term (4 : Int32) vn92 vn104 (f 4))))]) (lenOf pd_0_0 rfl) rfl (by show 2 * 0 + _ ≤ _; exact Nat.le_of_eq rfl) (hb hby at_167) (fun _ _ => ⟨rfl, e17, (by decide : 1 + 0 ≤ _), (by decide : 8 + 0 ≤ _)⟩)
  dsimp only [Pt.U, Pt.locs, Pt.cells, Pt.slots] at X18 l18 y18 z18 st18 hQ18
  subst l18 y18 z18
  obtain ⟨rfl, N18q, e18⟩ := hQ18
  have N18 := Fr.app N17 N18q
  obtain ⟨_, _, ⟨T19, L19, k19, n19⟩, -, X19, ⟨Lc19, hQ19, l19, y19, z19⟩, st19⟩ := Jvm.LawKit.callS X18 hx (y := (⟨"com/example/shiokaze/shiokaze/fix/CheckSumOfPinLaw", "term", "([BIII)I"⟩ : MethodName)) hown (mvT hZ (hw _ (List.mem_of_getElem? (i := 2) rfl))) (mvT hZ (hw _ (List.mem_of_getElem? (i := 3) rfl))) (mvT hZ (hw _ (List.mem_of_getElem? (i := 4) rfl))) (mvT hZ (hw _ (List.mem_of_getElem? (i := 5) rfl))) (by decide) (backOf (W := 1) (rm1 l Z a0 hw [] b4 (6 : Int32) vn92 vn104 (f 6) clb h12 n0 (Nat.le_trans (Nat.le_trans (Nat.le_trans (Nat.le_trans (Nat.le_trans (Nat.le_trans (Nat.le_trans (Nat.le_trans (Nat.le_trans Z0 E4.1) (Keep.of_wr W5).1) (Keep.of_wr W6).1) (Keep.of_wr W7).1) (Keep.of_wr W8).1) (Keep.of_wr W9).1) (Keep.of_wr W10).1) (Keep.of_wr W11).1) (Keep.of_wr W12).1) Arb (inb_of Sb ⟨by decide, by decide⟩) (hat 6 (6 : Int32) (by decide) (by decide))) hZ (hw _ (List.mem_of_getElem? (i := 5) rfl)) (hw _ (List.mem_of_getElem? (i := 4) rfl)) (by decide) (by decide)) (g := (mkF m 179 #[.val (.long q1), .second, .val (.int p2), .val (.int p3), .val (.ref b4), .val (.int vn92), .val (.int vn104), .unset, .unset, .unset] [(.int vn104), (.int vn92), (.int (6 : Int32)), (.ref b4), (.int ((((((own_term (0 : Int32) vn92 vn104 (f 0)) + (own_term (1 : Int32) vn92 vn104 (f 1))) + (own_term (2 : Int32) vn92 vn104 (f 2))) + (own_term (3 : Int32) vn92 vn104 (f 3))) + (own_term (4 : Int32) vn92 vn104 (f 4))) + (own_term (5 : Int32) vn92 vn104 (f 5))))])) rfl (by rw [hml]; rfl) (argsL := [(.ref b4), (.int (6 : Int32)), (.int vn92), (.int vn104)]) (rest := [(.int ((((((own_term (0 : Int32) vn92 vn104 (f 0)) + (own_term (1 : Int32) vn92 vn104 (f 1))) + (own_term (2 : Int32) vn92 vn104 (f 2))) + (own_term (3 : Int32) vn92 vn104 (f 3))) + (own_term (4 : Int32) vn92 vn104 (f 4))) + (own_term (5 : Int32) vn92 vn104 (f 5))))]) (lenOf pd_0_0 rfl) rfl (by show 2 * 0 + _ ≤ _; exact Nat.le_of_eq rfl) (hb hby at_179) (fun _ _ => ⟨rfl, e18, (by decide : 1 + 0 ≤ _), (by decide : 8 + 0 ≤ _)⟩)
  dsimp only [Pt.U, Pt.locs, Pt.cells, Pt.slots] at X19 l19 y19 z19 st19 hQ19
  subst l19 y19 z19
  obtain ⟨rfl, N19q, e19⟩ := hQ19
  have N19 := Fr.app N18 N19q
  obtain ⟨_, _, ⟨T20, L20, k20, n20⟩, -, X20, ⟨Lc20, hQ20, l20, y20, z20⟩, st20⟩ := Jvm.LawKit.callS X19 hx (y := (⟨"com/example/shiokaze/shiokaze/fix/CheckSumOfPinLaw", "term", "([BIII)I"⟩ : MethodName)) hown (mvT hZ (hw _ (List.mem_of_getElem? (i := 2) rfl))) (mvT hZ (hw _ (List.mem_of_getElem? (i := 3) rfl))) (mvT hZ (hw _ (List.mem_of_getElem? (i := 4) rfl))) (mvT hZ (hw _ (List.mem_of_getElem? (i := 5) rfl))) (by decide) (backOf (W := 1) (rm1 l Z a0 hw [] b4 (7 : Int32) vn92 vn104 (f 7) clb h12 n0 (Nat.le_trans (Nat.le_trans (Nat.le_trans (Nat.le_trans (Nat.le_trans (Nat.le_trans (Nat.le_trans (Nat.le_trans (Nat.le_trans Z0 E4.1) (Keep.of_wr W5).1) (Keep.of_wr W6).1) (Keep.of_wr W7).1) (Keep.of_wr W8).1) (Keep.of_wr W9).1) (Keep.of_wr W10).1) (Keep.of_wr W11).1) (Keep.of_wr W12).1) Arb (inb_of Sb ⟨by decide, by decide⟩) (hat 7 (7 : Int32) (by decide) (by decide))) hZ (hw _ (List.mem_of_getElem? (i := 5) rfl)) (hw _ (List.mem_of_getElem? (i := 4) rfl)) (by decide) (by decide)) (g := (mkF m 191 #[.val (.long q1), .second, .val (.int p2), .val (.int p3), .val (.ref b4), .val (.int vn92), .val (.int vn104), .unset, .unset, .unset] [(.int vn104), (.int vn92), (.int (7 : Int32)), (.ref b4), (.int (((((((own_term (0 : Int32) vn92 vn104 (f 0)) + (own_term (1 : Int32) vn92 vn104 (f 1))) + (own_term (2 : Int32) vn92 vn104 (f 2))) + (own_term (3 : Int32) vn92 vn104 (f 3))) + (own_term (4 : Int32) vn92 vn104 (f 4))) + (own_term (5 : Int32) vn92 vn104 (f 5))) + (own_term (6 : Int32) vn92 vn104 (f 6))))])) rfl (by rw [hml]; rfl) (argsL := [(.ref b4), (.int (7 : Int32)), (.int vn92), (.int vn104)]) (rest := [(.int (((((((own_term (0 : Int32) vn92 vn104 (f 0)) + (own_term (1 : Int32) vn92 vn104 (f 1))) + (own_term (2 : Int32) vn92 vn104 (f 2))) + (own_term (3 : Int32) vn92 vn104 (f 3))) + (own_term (4 : Int32) vn92 vn104 (f 4))) + (own_term (5 : Int32) vn92 vn104 (f 5))) + (own_term (6 : Int32) vn92 vn104 (f 6))))]) (lenOf pd_0_0 rfl) rfl (by show 2 * 0 + _ ≤ _; exact Nat.le_of_eq rfl) (hb hby at_191) (fun _ _ => ⟨rfl, e19, (by decide : 1 + 0 ≤ _), (by decide : 8 + 0 ≤ _)⟩)
  dsimp only [Pt.U, Pt.locs, Pt.cells, Pt.slots] at X20 l20 y20 z20 st20 hQ20
  subst l20 y20 z20
  obtain ⟨rfl, N20q, e20⟩ := hQ20
  have N20 := Fr.app N19 N20q
  obtain ⟨_, _, ⟨T21, L21, k21, n21⟩, -, X21, ⟨Lc21, hQ21, l21, y21, z21⟩, st21⟩ := Jvm.LawKit.callS X20 hx (y := (⟨"com/example/shiokaze/shiokaze/fix/CheckSum", "of", "([BII)I"⟩ : MethodName)) hown (mvT hZ (hw _ (List.mem_of_getElem? (i := 6) rfl))) (mvT hZ (hw _ (List.mem_of_getElem? (i := 7) rfl))) (mvT hZ (hw _ (List.mem_of_getElem? (i := 8) rfl))) (mvT hZ (hw _ (List.mem_of_getElem? (i := 9) rfl))) (by decide) (backOf (W := 0) (rm2 l Z a0 hw [] b4 vn92 vn104 clb f n m' h12 n0 (Nat.le_trans (Nat.le_trans (Nat.le_trans (Nat.le_trans (Nat.le_trans (Nat.le_trans (Nat.le_trans (Nat.le_trans (Nat.le_trans Z0 E4.1) (Keep.of_wr W5).1) (Keep.of_wr W6).1) (Keep.of_wr W7).1) (Keep.of_wr W8).1) (Keep.of_wr W9).1) (Keep.of_wr W10).1) (Keep.of_wr W11).1) (Keep.of_wr W12).1) Arb Sb8 hf hn hm hs) hZ (hw _ (List.mem_of_getElem? (i := 9) rfl)) (hw _ (List.mem_of_getElem? (i := 8) rfl)) (by decide) (by decide)) (g := (mkF m 211 #[.val (.long q1), .second, .val (.int p2), .val (.int p3), .val (.ref b4), .val (.int vn92), .val (.int vn104), .val (.int ((((((((own_term (0 : Int32) vn92 vn104 (f 0)) + (own_term (1 : Int32) vn92 vn104 (f 1))) + (own_term (2 : Int32) vn92 vn104 (f 2))) + (own_term (3 : Int32) vn92 vn104 (f 3))) + (own_term (4 : Int32) vn92 vn104 (f 4))) + (own_term (5 : Int32) vn92 vn104 (f 5))) + (own_term (6 : Int32) vn92 vn104 (f 6))) + (own_term (7 : Int32) vn92 vn104 (f 7)))), .val (.int (((((((((own_term (0 : Int32) vn92 vn104 (f 0)) + (own_term (1 : Int32) vn92 vn104 (f 1))) + (own_term (2 : Int32) vn92 vn104 (f 2))) + (own_term (3 : Int32) vn92 vn104 (f 3))) + (own_term (4 : Int32) vn92 vn104 (f 4))) + (own_term (5 : Int32) vn92 vn104 (f 5))) + (own_term (6 : Int32) vn92 vn104 (f 6))) + (own_term (7 : Int32) vn92 vn104 (f 7))) - (((((((((own_term (0 : Int32) vn92 vn104 (f 0)) + (own_term (1 : Int32) vn92 vn104 (f 1))) + (own_term (2 : Int32) vn92 vn104 (f 2))) + (own_term (3 : Int32) vn92 vn104 (f 3))) + (own_term (4 : Int32) vn92 vn104 (f 4))) + (own_term (5 : Int32) vn92 vn104 (f 5))) + (own_term (6 : Int32) vn92 vn104 (f 6))) + (own_term (7 : Int32) vn92 vn104 (f 7))) / (256 : Int32)) * (256 : Int32))), .unset] [(.int vn104), (.int vn92), (.ref b4)])) rfl (by rw [hml]; rfl) (argsL := [(.ref b4), (.int vn92), (.int vn104)]) (rest := []) (lenOf pd_0_1 rfl) rfl (by show 2 * 0 + _ ≤ _; exact Nat.le_of_eq rfl) (hb hby at_211) (fun _ _ => ⟨rfl, e20, (by decide : 1 + 0 ≤ _), (by decide : 8 + 0 ≤ _)⟩)
  dsimp only [Pt.U, Pt.locs, Pt.cells, Pt.slots] at X21 l21 y21 z21 st21 hQ21
  subst l21 y21 z21
  obtain ⟨rfl, N21q, e21⟩ := hQ21
  have N21 := Fr.app N20 N21q
  obtain ⟨fs, hr, hrun, hended, hW, hsame⟩ := X21.leave (v := some (.int (1 : Int32))) (fun h => by rw [Bd.returns] at h; cases h)
  refine ⟨_, _, pre0 _ ?_, hrun, hended, _, _, rfl, ?_, ⟨_, rfl⟩, hW, hsame.mono (by decide) (by decide)⟩
  · show Steps p.tables e below (s₁.setTop (mkF m 0 #[.val (.long q1), .second, .val (.int p2), .val (.int p3), .unset, .unset, .unset, .unset, .unset, .unset] [])) _
    refine XS.bipush X0.here hx rfl (hb hby at_0) ?_
    show Steps p.tables e below (s₁.setTop (mkF m 2 #[.val (.long q1), .second, .val (.int p2), .val (.int p3), .unset, .unset, .unset, .unset, .unset, .unset] [(.int (8 : Int32))])) _
    refine st4 _ ?_
    show Steps p.tables e below (T4.setTop (mkF m 4 #[.val (.long q1), .second, .val (.int p2), .val (.int p3), .unset, .unset, .unset, .unset, .unset, .unset] [(.ref b4)])) _
    refine XS.astore X4.here hx rfl (hb hby at_4) rfl rfl (l' := #[.val (.long q1), .second, .val (.int p2), .val (.int p3), .val (.ref b4), .unset, .unset, .unset, .unset, .unset]) rfl ?_
    show Steps p.tables e below (T4.setTop (mkF m 6 #[.val (.long q1), .second, .val (.int p2), .val (.int p3), .val (.ref b4), .unset, .unset, .unset, .unset, .unset] [])) _
    refine XS.aload X4.here hx rfl (hb hby at_6) rfl rfl ?_
    show Steps p.tables e below (T4.setTop (mkF m 8 #[.val (.long q1), .second, .val (.int p2), .val (.int p3), .val (.ref b4), .unset, .unset, .unset, .unset, .unset] [(.ref b4)])) _
    refine XS.iconst X4.here hx rfl (hb hby at_8) ?_
    show Steps p.tables e below (T4.setTop (mkF m 9 #[.val (.long q1), .second, .val (.int p2), .val (.int p3), .val (.ref b4), .unset, .unset, .unset, .unset, .unset] [(.int (0 : Int32)), (.ref b4)])) _
    refine XS.lloadN X4.here hx rfl (hb hby at_9) rfl ?_
    show Steps p.tables e below (T4.setTop (mkF m 10 #[.val (.long q1), .second, .val (.int p2), .val (.int p3), .val (.ref b4), .unset, .unset, .unset, .unset, .unset] [(.long q1), (.int (0 : Int32)), (.ref b4)])) _
    refine XS.l2i X4.here hx rfl (hb hby at_10) rfl ?_
    show Steps p.tables e below (T4.setTop (mkF m 11 #[.val (.long q1), .second, .val (.int p2), .val (.int p3), .val (.ref b4), .unset, .unset, .unset, .unset, .unset] [(.int (q1.toInt32)), (.int (0 : Int32)), (.ref b4)])) _
    refine XS.i2b X4.here hx rfl (hb hby at_11) rfl ?_
    show Steps p.tables e below (T4.setTop (mkF m 12 #[.val (.long q1), .second, .val (.int p2), .val (.int p3), .val (.ref b4), .unset, .unset, .unset, .unset, .unset] [(.int ((q1.toInt32).toInt8.toInt32)), (.int (0 : Int32)), (.ref b4)])) _
    refine st5 _ ?_
    show Steps p.tables e below (T5.setTop (mkF m 13 #[.val (.long q1), .second, .val (.int p2), .val (.int p3), .val (.ref b4), .unset, .unset, .unset, .unset, .unset] [])) _
    refine XS.aload X5.here hx rfl (hb hby at_13) rfl rfl ?_
    show Steps p.tables e below (T5.setTop (mkF m 15 #[.val (.long q1), .second, .val (.int p2), .val (.int p3), .val (.ref b4), .unset, .unset, .unset, .unset, .unset] [(.ref b4)])) _
    refine XS.iconst X5.here hx rfl (hb hby at_15) ?_
    show Steps p.tables e below (T5.setTop (mkF m 16 #[.val (.long q1), .second, .val (.int p2), .val (.int p3), .val (.ref b4), .unset, .unset, .unset, .unset, .unset] [(.int (1 : Int32)), (.ref b4)])) _
    refine XS.lloadN X5.here hx rfl (hb hby at_16) rfl ?_
    show Steps p.tables e below (T5.setTop (mkF m 17 #[.val (.long q1), .second, .val (.int p2), .val (.int p3), .val (.ref b4), .unset, .unset, .unset, .unset, .unset] [(.long q1), (.int (1 : Int32)), (.ref b4)])) _
    refine XS.bipush X5.here hx rfl (hb hby at_17) ?_
    show Steps p.tables e below (T5.setTop (mkF m 19 #[.val (.long q1), .second, .val (.int p2), .val (.int p3), .val (.ref b4), .unset, .unset, .unset, .unset, .unset] [(.int (8 : Int32)), (.long q1), (.int (1 : Int32)), (.ref b4)])) _
    refine XS.lushr X5.here hx rfl (hb hby at_19) rfl ?_
    show Steps p.tables e below (T5.setTop (mkF m 20 #[.val (.long q1), .second, .val (.int p2), .val (.int p3), .val (.ref b4), .unset, .unset, .unset, .unset, .unset] [(.long ((q1.toUInt64 >>> ((8 : Int32) &&& 0x3f).toInt64.toUInt64).toInt64)), (.int (1 : Int32)), (.ref b4)])) _
    refine XS.l2i X5.here hx rfl (hb hby at_20) rfl ?_
    show Steps p.tables e below (T5.setTop (mkF m 21 #[.val (.long q1), .second, .val (.int p2), .val (.int p3), .val (.ref b4), .unset, .unset, .unset, .unset, .unset] [(.int (((q1.toUInt64 >>> ((8 : Int32) &&& 0x3f).toInt64.toUInt64).toInt64).toInt32)), (.int (1 : Int32)), (.ref b4)])) _
    refine XS.i2b X5.here hx rfl (hb hby at_21) rfl ?_
    show Steps p.tables e below (T5.setTop (mkF m 22 #[.val (.long q1), .second, .val (.int p2), .val (.int p3), .val (.ref b4), .unset, .unset, .unset, .unset, .unset] [(.int ((((q1.toUInt64 >>> ((8 : Int32) &&& 0x3f).toInt64.toUInt64).toInt64).toInt32).toInt8.toInt32)), (.int (1 : Int32)), (.ref b4)])) _
    refine st6 _ ?_
    show Steps p.tables e below (T6.setTop (mkF m 23 #[.val (.long q1), .second, .val (.int p2), .val (.int p3), .val (.ref b4), .unset, .unset, .unset, .unset, .unset] [])) _
    refine XS.aload X6.here hx rfl (hb hby at_23) rfl rfl ?_
    show Steps p.tables e below (T6.setTop (mkF m 25 #[.val (.long q1), .second, .val (.int p2), .val (.int p3), .val (.ref b4), .unset, .unset, .unset, .unset, .unset] [(.ref b4)])) _
    refine XS.iconst X6.here hx rfl (hb hby at_25) ?_
    show Steps p.tables e below (T6.setTop (mkF m 26 #[.val (.long q1), .second, .val (.int p2), .val (.int p3), .val (.ref b4), .unset, .unset, .unset, .unset, .unset] [(.int (2 : Int32)), (.ref b4)])) _
    refine XS.lloadN X6.here hx rfl (hb hby at_26) rfl ?_
    show Steps p.tables e below (T6.setTop (mkF m 27 #[.val (.long q1), .second, .val (.int p2), .val (.int p3), .val (.ref b4), .unset, .unset, .unset, .unset, .unset] [(.long q1), (.int (2 : Int32)), (.ref b4)])) _
    refine XS.bipush X6.here hx rfl (hb hby at_27) ?_
    show Steps p.tables e below (T6.setTop (mkF m 29 #[.val (.long q1), .second, .val (.int p2), .val (.int p3), .val (.ref b4), .unset, .unset, .unset, .unset, .unset] [(.int (16 : Int32)), (.long q1), (.int (2 : Int32)), (.ref b4)])) _
    refine XS.lushr X6.here hx rfl (hb hby at_29) rfl ?_
    show Steps p.tables e below (T6.setTop (mkF m 30 #[.val (.long q1), .second, .val (.int p2), .val (.int p3), .val (.ref b4), .unset, .unset, .unset, .unset, .unset] [(.long ((q1.toUInt64 >>> ((16 : Int32) &&& 0x3f).toInt64.toUInt64).toInt64)), (.int (2 : Int32)), (.ref b4)])) _
    refine XS.l2i X6.here hx rfl (hb hby at_30) rfl ?_
    show Steps p.tables e below (T6.setTop (mkF m 31 #[.val (.long q1), .second, .val (.int p2), .val (.int p3), .val (.ref b4), .unset, .unset, .unset, .unset, .unset] [(.int (((q1.toUInt64 >>> ((16 : Int32) &&& 0x3f).toInt64.toUInt64).toInt64).toInt32)), (.int (2 : Int32)), (.ref b4)])) _
    refine XS.i2b X6.here hx rfl (hb hby at_31) rfl ?_
    show Steps p.tables e below (T6.setTop (mkF m 32 #[.val (.long q1), .second, .val (.int p2), .val (.int p3), .val (.ref b4), .unset, .unset, .unset, .unset, .unset] [(.int ((((q1.toUInt64 >>> ((16 : Int32) &&& 0x3f).toInt64.toUInt64).toInt64).toInt32).toInt8.toInt32)), (.int (2 : Int32)), (.ref b4)])) _
    refine st7 _ ?_
    show Steps p.tables e below (T7.setTop (mkF m 33 #[.val (.long q1), .second, .val (.int p2), .val (.int p3), .val (.ref b4), .unset, .unset, .unset, .unset, .unset] [])) _
    refine XS.aload X7.here hx rfl (hb hby at_33) rfl rfl ?_
    show Steps p.tables e below (T7.setTop (mkF m 35 #[.val (.long q1), .second, .val (.int p2), .val (.int p3), .val (.ref b4), .unset, .unset, .unset, .unset, .unset] [(.ref b4)])) _
    refine XS.iconst X7.here hx rfl (hb hby at_35) ?_
    show Steps p.tables e below (T7.setTop (mkF m 36 #[.val (.long q1), .second, .val (.int p2), .val (.int p3), .val (.ref b4), .unset, .unset, .unset, .unset, .unset] [(.int (3 : Int32)), (.ref b4)])) _
    refine XS.lloadN X7.here hx rfl (hb hby at_36) rfl ?_
    show Steps p.tables e below (T7.setTop (mkF m 37 #[.val (.long q1), .second, .val (.int p2), .val (.int p3), .val (.ref b4), .unset, .unset, .unset, .unset, .unset] [(.long q1), (.int (3 : Int32)), (.ref b4)])) _
    refine XS.bipush X7.here hx rfl (hb hby at_37) ?_
    show Steps p.tables e below (T7.setTop (mkF m 39 #[.val (.long q1), .second, .val (.int p2), .val (.int p3), .val (.ref b4), .unset, .unset, .unset, .unset, .unset] [(.int (24 : Int32)), (.long q1), (.int (3 : Int32)), (.ref b4)])) _
    refine XS.lushr X7.here hx rfl (hb hby at_39) rfl ?_
    show Steps p.tables e below (T7.setTop (mkF m 40 #[.val (.long q1), .second, .val (.int p2), .val (.int p3), .val (.ref b4), .unset, .unset, .unset, .unset, .unset] [(.long ((q1.toUInt64 >>> ((24 : Int32) &&& 0x3f).toInt64.toUInt64).toInt64)), (.int (3 : Int32)), (.ref b4)])) _
    refine XS.l2i X7.here hx rfl (hb hby at_40) rfl ?_
    show Steps p.tables e below (T7.setTop (mkF m 41 #[.val (.long q1), .second, .val (.int p2), .val (.int p3), .val (.ref b4), .unset, .unset, .unset, .unset, .unset] [(.int (((q1.toUInt64 >>> ((24 : Int32) &&& 0x3f).toInt64.toUInt64).toInt64).toInt32)), (.int (3 : Int32)), (.ref b4)])) _
    refine XS.i2b X7.here hx rfl (hb hby at_41) rfl ?_
    show Steps p.tables e below (T7.setTop (mkF m 42 #[.val (.long q1), .second, .val (.int p2), .val (.int p3), .val (.ref b4), .unset, .unset, .unset, .unset, .unset] [(.int ((((q1.toUInt64 >>> ((24 : Int32) &&& 0x3f).toInt64.toUInt64).toInt64).toInt32).toInt8.toInt32)), (.int (3 : Int32)), (.ref b4)])) _
    refine st8 _ ?_
    show Steps p.tables e below (T8.setTop (mkF m 43 #[.val (.long q1), .second, .val (.int p2), .val (.int p3), .val (.ref b4), .unset, .unset, .unset, .unset, .unset] [])) _
    refine XS.aload X8.here hx rfl (hb hby at_43) rfl rfl ?_
    show Steps p.tables e below (T8.setTop (mkF m 45 #[.val (.long q1), .second, .val (.int p2), .val (.int p3), .val (.ref b4), .unset, .unset, .unset, .unset, .unset] [(.ref b4)])) _
    refine XS.iconst X8.here hx rfl (hb hby at_45) ?_
    show Steps p.tables e below (T8.setTop (mkF m 46 #[.val (.long q1), .second, .val (.int p2), .val (.int p3), .val (.ref b4), .unset, .unset, .unset, .unset, .unset] [(.int (4 : Int32)), (.ref b4)])) _
    refine XS.lloadN X8.here hx rfl (hb hby at_46) rfl ?_
    show Steps p.tables e below (T8.setTop (mkF m 47 #[.val (.long q1), .second, .val (.int p2), .val (.int p3), .val (.ref b4), .unset, .unset, .unset, .unset, .unset] [(.long q1), (.int (4 : Int32)), (.ref b4)])) _
    refine XS.bipush X8.here hx rfl (hb hby at_47) ?_
    show Steps p.tables e below (T8.setTop (mkF m 49 #[.val (.long q1), .second, .val (.int p2), .val (.int p3), .val (.ref b4), .unset, .unset, .unset, .unset, .unset] [(.int (32 : Int32)), (.long q1), (.int (4 : Int32)), (.ref b4)])) _
    refine XS.lushr X8.here hx rfl (hb hby at_49) rfl ?_
    show Steps p.tables e below (T8.setTop (mkF m 50 #[.val (.long q1), .second, .val (.int p2), .val (.int p3), .val (.ref b4), .unset, .unset, .unset, .unset, .unset] [(.long ((q1.toUInt64 >>> ((32 : Int32) &&& 0x3f).toInt64.toUInt64).toInt64)), (.int (4 : Int32)), (.ref b4)])) _
    refine XS.l2i X8.here hx rfl (hb hby at_50) rfl ?_
    show Steps p.tables e below (T8.setTop (mkF m 51 #[.val (.long q1), .second, .val (.int p2), .val (.int p3), .val (.ref b4), .unset, .unset, .unset, .unset, .unset] [(.int (((q1.toUInt64 >>> ((32 : Int32) &&& 0x3f).toInt64.toUInt64).toInt64).toInt32)), (.int (4 : Int32)), (.ref b4)])) _
    refine XS.i2b X8.here hx rfl (hb hby at_51) rfl ?_
    show Steps p.tables e below (T8.setTop (mkF m 52 #[.val (.long q1), .second, .val (.int p2), .val (.int p3), .val (.ref b4), .unset, .unset, .unset, .unset, .unset] [(.int ((((q1.toUInt64 >>> ((32 : Int32) &&& 0x3f).toInt64.toUInt64).toInt64).toInt32).toInt8.toInt32)), (.int (4 : Int32)), (.ref b4)])) _
    refine st9 _ ?_
    show Steps p.tables e below (T9.setTop (mkF m 53 #[.val (.long q1), .second, .val (.int p2), .val (.int p3), .val (.ref b4), .unset, .unset, .unset, .unset, .unset] [])) _
    refine XS.aload X9.here hx rfl (hb hby at_53) rfl rfl ?_
    show Steps p.tables e below (T9.setTop (mkF m 55 #[.val (.long q1), .second, .val (.int p2), .val (.int p3), .val (.ref b4), .unset, .unset, .unset, .unset, .unset] [(.ref b4)])) _
    refine XS.iconst X9.here hx rfl (hb hby at_55) ?_
    show Steps p.tables e below (T9.setTop (mkF m 56 #[.val (.long q1), .second, .val (.int p2), .val (.int p3), .val (.ref b4), .unset, .unset, .unset, .unset, .unset] [(.int (5 : Int32)), (.ref b4)])) _
    refine XS.lloadN X9.here hx rfl (hb hby at_56) rfl ?_
    show Steps p.tables e below (T9.setTop (mkF m 57 #[.val (.long q1), .second, .val (.int p2), .val (.int p3), .val (.ref b4), .unset, .unset, .unset, .unset, .unset] [(.long q1), (.int (5 : Int32)), (.ref b4)])) _
    refine XS.bipush X9.here hx rfl (hb hby at_57) ?_
    show Steps p.tables e below (T9.setTop (mkF m 59 #[.val (.long q1), .second, .val (.int p2), .val (.int p3), .val (.ref b4), .unset, .unset, .unset, .unset, .unset] [(.int (40 : Int32)), (.long q1), (.int (5 : Int32)), (.ref b4)])) _
    refine XS.lushr X9.here hx rfl (hb hby at_59) rfl ?_
    show Steps p.tables e below (T9.setTop (mkF m 60 #[.val (.long q1), .second, .val (.int p2), .val (.int p3), .val (.ref b4), .unset, .unset, .unset, .unset, .unset] [(.long ((q1.toUInt64 >>> ((40 : Int32) &&& 0x3f).toInt64.toUInt64).toInt64)), (.int (5 : Int32)), (.ref b4)])) _
    refine XS.l2i X9.here hx rfl (hb hby at_60) rfl ?_
    show Steps p.tables e below (T9.setTop (mkF m 61 #[.val (.long q1), .second, .val (.int p2), .val (.int p3), .val (.ref b4), .unset, .unset, .unset, .unset, .unset] [(.int (((q1.toUInt64 >>> ((40 : Int32) &&& 0x3f).toInt64.toUInt64).toInt64).toInt32)), (.int (5 : Int32)), (.ref b4)])) _
    refine XS.i2b X9.here hx rfl (hb hby at_61) rfl ?_
    show Steps p.tables e below (T9.setTop (mkF m 62 #[.val (.long q1), .second, .val (.int p2), .val (.int p3), .val (.ref b4), .unset, .unset, .unset, .unset, .unset] [(.int ((((q1.toUInt64 >>> ((40 : Int32) &&& 0x3f).toInt64.toUInt64).toInt64).toInt32).toInt8.toInt32)), (.int (5 : Int32)), (.ref b4)])) _
    refine st10 _ ?_
    show Steps p.tables e below (T10.setTop (mkF m 63 #[.val (.long q1), .second, .val (.int p2), .val (.int p3), .val (.ref b4), .unset, .unset, .unset, .unset, .unset] [])) _
    refine XS.aload X10.here hx rfl (hb hby at_63) rfl rfl ?_
    show Steps p.tables e below (T10.setTop (mkF m 65 #[.val (.long q1), .second, .val (.int p2), .val (.int p3), .val (.ref b4), .unset, .unset, .unset, .unset, .unset] [(.ref b4)])) _
    refine XS.bipush X10.here hx rfl (hb hby at_65) ?_
    show Steps p.tables e below (T10.setTop (mkF m 67 #[.val (.long q1), .second, .val (.int p2), .val (.int p3), .val (.ref b4), .unset, .unset, .unset, .unset, .unset] [(.int (6 : Int32)), (.ref b4)])) _
    refine XS.lloadN X10.here hx rfl (hb hby at_67) rfl ?_
    show Steps p.tables e below (T10.setTop (mkF m 68 #[.val (.long q1), .second, .val (.int p2), .val (.int p3), .val (.ref b4), .unset, .unset, .unset, .unset, .unset] [(.long q1), (.int (6 : Int32)), (.ref b4)])) _
    refine XS.bipush X10.here hx rfl (hb hby at_68) ?_
    show Steps p.tables e below (T10.setTop (mkF m 70 #[.val (.long q1), .second, .val (.int p2), .val (.int p3), .val (.ref b4), .unset, .unset, .unset, .unset, .unset] [(.int (48 : Int32)), (.long q1), (.int (6 : Int32)), (.ref b4)])) _
    refine XS.lushr X10.here hx rfl (hb hby at_70) rfl ?_
    show Steps p.tables e below (T10.setTop (mkF m 71 #[.val (.long q1), .second, .val (.int p2), .val (.int p3), .val (.ref b4), .unset, .unset, .unset, .unset, .unset] [(.long ((q1.toUInt64 >>> ((48 : Int32) &&& 0x3f).toInt64.toUInt64).toInt64)), (.int (6 : Int32)), (.ref b4)])) _
    refine XS.l2i X10.here hx rfl (hb hby at_71) rfl ?_
    show Steps p.tables e below (T10.setTop (mkF m 72 #[.val (.long q1), .second, .val (.int p2), .val (.int p3), .val (.ref b4), .unset, .unset, .unset, .unset, .unset] [(.int (((q1.toUInt64 >>> ((48 : Int32) &&& 0x3f).toInt64.toUInt64).toInt64).toInt32)), (.int (6 : Int32)), (.ref b4)])) _
    refine XS.i2b X10.here hx rfl (hb hby at_72) rfl ?_
    show Steps p.tables e below (T10.setTop (mkF m 73 #[.val (.long q1), .second, .val (.int p2), .val (.int p3), .val (.ref b4), .unset, .unset, .unset, .unset, .unset] [(.int ((((q1.toUInt64 >>> ((48 : Int32) &&& 0x3f).toInt64.toUInt64).toInt64).toInt32).toInt8.toInt32)), (.int (6 : Int32)), (.ref b4)])) _
    refine st11 _ ?_
    show Steps p.tables e below (T11.setTop (mkF m 74 #[.val (.long q1), .second, .val (.int p2), .val (.int p3), .val (.ref b4), .unset, .unset, .unset, .unset, .unset] [])) _
    refine XS.aload X11.here hx rfl (hb hby at_74) rfl rfl ?_
    show Steps p.tables e below (T11.setTop (mkF m 76 #[.val (.long q1), .second, .val (.int p2), .val (.int p3), .val (.ref b4), .unset, .unset, .unset, .unset, .unset] [(.ref b4)])) _
    refine XS.bipush X11.here hx rfl (hb hby at_76) ?_
    show Steps p.tables e below (T11.setTop (mkF m 78 #[.val (.long q1), .second, .val (.int p2), .val (.int p3), .val (.ref b4), .unset, .unset, .unset, .unset, .unset] [(.int (7 : Int32)), (.ref b4)])) _
    refine XS.lloadN X11.here hx rfl (hb hby at_78) rfl ?_
    show Steps p.tables e below (T11.setTop (mkF m 79 #[.val (.long q1), .second, .val (.int p2), .val (.int p3), .val (.ref b4), .unset, .unset, .unset, .unset, .unset] [(.long q1), (.int (7 : Int32)), (.ref b4)])) _
    refine XS.bipush X11.here hx rfl (hb hby at_79) ?_
    show Steps p.tables e below (T11.setTop (mkF m 81 #[.val (.long q1), .second, .val (.int p2), .val (.int p3), .val (.ref b4), .unset, .unset, .unset, .unset, .unset] [(.int (56 : Int32)), (.long q1), (.int (7 : Int32)), (.ref b4)])) _
    refine XS.lushr X11.here hx rfl (hb hby at_81) rfl ?_
    show Steps p.tables e below (T11.setTop (mkF m 82 #[.val (.long q1), .second, .val (.int p2), .val (.int p3), .val (.ref b4), .unset, .unset, .unset, .unset, .unset] [(.long ((q1.toUInt64 >>> ((56 : Int32) &&& 0x3f).toInt64.toUInt64).toInt64)), (.int (7 : Int32)), (.ref b4)])) _
    refine XS.l2i X11.here hx rfl (hb hby at_82) rfl ?_
    show Steps p.tables e below (T11.setTop (mkF m 83 #[.val (.long q1), .second, .val (.int p2), .val (.int p3), .val (.ref b4), .unset, .unset, .unset, .unset, .unset] [(.int (((q1.toUInt64 >>> ((56 : Int32) &&& 0x3f).toInt64.toUInt64).toInt64).toInt32)), (.int (7 : Int32)), (.ref b4)])) _
    refine XS.i2b X11.here hx rfl (hb hby at_83) rfl ?_
    show Steps p.tables e below (T11.setTop (mkF m 84 #[.val (.long q1), .second, .val (.int p2), .val (.int p3), .val (.ref b4), .unset, .unset, .unset, .unset, .unset] [(.int ((((q1.toUInt64 >>> ((56 : Int32) &&& 0x3f).toInt64.toUInt64).toInt64).toInt32).toInt8.toInt32)), (.int (7 : Int32)), (.ref b4)])) _
    refine st12 _ ?_
    show Steps p.tables e below (T12.setTop (mkF m 85 #[.val (.long q1), .second, .val (.int p2), .val (.int p3), .val (.ref b4), .unset, .unset, .unset, .unset, .unset] [])) _
    refine XS.iloadN X12.here hx rfl (hb hby at_85) rfl ?_
    show Steps p.tables e below (T12.setTop (mkF m 86 #[.val (.long q1), .second, .val (.int p2), .val (.int p3), .val (.ref b4), .unset, .unset, .unset, .unset, .unset] [(.int p2)])) _
    refine X12.ldcInt hx hown (mvT hZ (hw _ (List.mem_of_getElem? (i := 1) rfl))) (g := (mkF m 86 #[.val (.long q1), .second, .val (.int p2), .val (.int p3), .val (.ref b4), .unset, .unset, .unset, .unset, .unset] [(.int p2)])) rfl (hb hby at_86) _ ?_
    show Steps p.tables e below (T12.setTop (mkF m 88 #[.val (.long q1), .second, .val (.int p2), .val (.int p3), .val (.ref b4), .unset, .unset, .unset, .unset, .unset] [(.int (2147483647 : Int32)), (.int p2)])) _
    refine XS.iand X12.here hx rfl (hb hby at_88) rfl ?_
    show Steps p.tables e below (T12.setTop (mkF m 89 #[.val (.long q1), .second, .val (.int p2), .val (.int p3), .val (.ref b4), .unset, .unset, .unset, .unset, .unset] [(.int (p2 &&& (2147483647 : Int32)))])) _
    refine XS.bipush X12.here hx rfl (hb hby at_89) ?_
    show Steps p.tables e below (T12.setTop (mkF m 91 #[.val (.long q1), .second, .val (.int p2), .val (.int p3), .val (.ref b4), .unset, .unset, .unset, .unset, .unset] [(.int (9 : Int32)), (.int (p2 &&& (2147483647 : Int32)))])) _
    refine XS.irem X12.here hx rfl (hb hby at_91) rfl (by decide) ?_
    show Steps p.tables e below (T12.setTop (mkF m 92 #[.val (.long q1), .second, .val (.int p2), .val (.int p3), .val (.ref b4), .unset, .unset, .unset, .unset, .unset] [(.int ((p2 &&& (2147483647 : Int32)) - ((p2 &&& (2147483647 : Int32)) / (9 : Int32)) * (9 : Int32)))])) _
    rw [← hvn92]
    show Steps p.tables e below (T12.setTop (mkF m 92 #[.val (.long q1), .second, .val (.int p2), .val (.int p3), .val (.ref b4), .unset, .unset, .unset, .unset, .unset] [(.int vn92)])) _
    refine XS.istore X12.here hx rfl (hb hby at_92) rfl (l' := #[.val (.long q1), .second, .val (.int p2), .val (.int p3), .val (.ref b4), .val (.int vn92), .unset, .unset, .unset, .unset]) rfl ?_
    show Steps p.tables e below (T12.setTop (mkF m 94 #[.val (.long q1), .second, .val (.int p2), .val (.int p3), .val (.ref b4), .val (.int vn92), .unset, .unset, .unset, .unset] [])) _
    refine XS.iloadN X12.here hx rfl (hb hby at_94) rfl ?_
    show Steps p.tables e below (T12.setTop (mkF m 95 #[.val (.long q1), .second, .val (.int p2), .val (.int p3), .val (.ref b4), .val (.int vn92), .unset, .unset, .unset, .unset] [(.int p3)])) _
    refine X12.ldcInt hx hown (mvT hZ (hw _ (List.mem_of_getElem? (i := 1) rfl))) (g := (mkF m 95 #[.val (.long q1), .second, .val (.int p2), .val (.int p3), .val (.ref b4), .val (.int vn92), .unset, .unset, .unset, .unset] [(.int p3)])) rfl (hb hby at_95) _ ?_
    show Steps p.tables e below (T12.setTop (mkF m 97 #[.val (.long q1), .second, .val (.int p2), .val (.int p3), .val (.ref b4), .val (.int vn92), .unset, .unset, .unset, .unset] [(.int (2147483647 : Int32)), (.int p3)])) _
    refine XS.iand X12.here hx rfl (hb hby at_97) rfl ?_
    show Steps p.tables e below (T12.setTop (mkF m 98 #[.val (.long q1), .second, .val (.int p2), .val (.int p3), .val (.ref b4), .val (.int vn92), .unset, .unset, .unset, .unset] [(.int (p3 &&& (2147483647 : Int32)))])) _
    refine XS.bipush X12.here hx rfl (hb hby at_98) ?_
    show Steps p.tables e below (T12.setTop (mkF m 100 #[.val (.long q1), .second, .val (.int p2), .val (.int p3), .val (.ref b4), .val (.int vn92), .unset, .unset, .unset, .unset] [(.int (9 : Int32)), (.int (p3 &&& (2147483647 : Int32)))])) _
    refine XS.iload X12.here hx rfl (hb hby at_100) rfl ?_
    show Steps p.tables e below (T12.setTop (mkF m 102 #[.val (.long q1), .second, .val (.int p2), .val (.int p3), .val (.ref b4), .val (.int vn92), .unset, .unset, .unset, .unset] [(.int vn92), (.int (9 : Int32)), (.int (p3 &&& (2147483647 : Int32)))])) _
    refine XS.isub X12.here hx rfl (hb hby at_102) rfl ?_
    show Steps p.tables e below (T12.setTop (mkF m 103 #[.val (.long q1), .second, .val (.int p2), .val (.int p3), .val (.ref b4), .val (.int vn92), .unset, .unset, .unset, .unset] [(.int ((9 : Int32) - vn92)), (.int (p3 &&& (2147483647 : Int32)))])) _
    refine XS.irem X12.here hx rfl (hb hby at_103) rfl hnz103 ?_
    show Steps p.tables e below (T12.setTop (mkF m 104 #[.val (.long q1), .second, .val (.int p2), .val (.int p3), .val (.ref b4), .val (.int vn92), .unset, .unset, .unset, .unset] [(.int ((p3 &&& (2147483647 : Int32)) - ((p3 &&& (2147483647 : Int32)) / ((9 : Int32) - vn92)) * ((9 : Int32) - vn92)))])) _
    rw [← hvn104]
    show Steps p.tables e below (T12.setTop (mkF m 104 #[.val (.long q1), .second, .val (.int p2), .val (.int p3), .val (.ref b4), .val (.int vn92), .unset, .unset, .unset, .unset] [(.int vn104)])) _
    refine XS.istore X12.here hx rfl (hb hby at_104) rfl (l' := #[.val (.long q1), .second, .val (.int p2), .val (.int p3), .val (.ref b4), .val (.int vn92), .val (.int vn104), .unset, .unset, .unset]) rfl ?_
    show Steps p.tables e below (T12.setTop (mkF m 106 #[.val (.long q1), .second, .val (.int p2), .val (.int p3), .val (.ref b4), .val (.int vn92), .val (.int vn104), .unset, .unset, .unset] [])) _
    refine XS.aload X12.here hx rfl (hb hby at_106) rfl rfl ?_
    show Steps p.tables e below (T12.setTop (mkF m 108 #[.val (.long q1), .second, .val (.int p2), .val (.int p3), .val (.ref b4), .val (.int vn92), .val (.int vn104), .unset, .unset, .unset] [(.ref b4)])) _
    refine XS.iconst X12.here hx rfl (hb hby at_108) ?_
    show Steps p.tables e below (T12.setTop (mkF m 109 #[.val (.long q1), .second, .val (.int p2), .val (.int p3), .val (.ref b4), .val (.int vn92), .val (.int vn104), .unset, .unset, .unset] [(.int (0 : Int32)), (.ref b4)])) _
    refine XS.iload X12.here hx rfl (hb hby at_109) rfl ?_
    show Steps p.tables e below (T12.setTop (mkF m 111 #[.val (.long q1), .second, .val (.int p2), .val (.int p3), .val (.ref b4), .val (.int vn92), .val (.int vn104), .unset, .unset, .unset] [(.int vn92), (.int (0 : Int32)), (.ref b4)])) _
    refine XS.iload X12.here hx rfl (hb hby at_111) rfl ?_
    show Steps p.tables e below (T12.setTop (mkF m 113 #[.val (.long q1), .second, .val (.int p2), .val (.int p3), .val (.ref b4), .val (.int vn92), .val (.int vn104), .unset, .unset, .unset] [(.int vn104), (.int vn92), (.int (0 : Int32)), (.ref b4)])) _
    refine st13 _ ?_
    show Steps p.tables e below (T13.setTop (mkF m 116 #[.val (.long q1), .second, .val (.int p2), .val (.int p3), .val (.ref b4), .val (.int vn92), .val (.int vn104), .unset, .unset, .unset] [(.int (own_term (0 : Int32) vn92 vn104 (f 0)))])) _
    refine XS.aload X13.here hx rfl (hb hby at_116) rfl rfl ?_
    show Steps p.tables e below (T13.setTop (mkF m 118 #[.val (.long q1), .second, .val (.int p2), .val (.int p3), .val (.ref b4), .val (.int vn92), .val (.int vn104), .unset, .unset, .unset] [(.ref b4), (.int (own_term (0 : Int32) vn92 vn104 (f 0)))])) _
    refine XS.iconst X13.here hx rfl (hb hby at_118) ?_
    show Steps p.tables e below (T13.setTop (mkF m 119 #[.val (.long q1), .second, .val (.int p2), .val (.int p3), .val (.ref b4), .val (.int vn92), .val (.int vn104), .unset, .unset, .unset] [(.int (1 : Int32)), (.ref b4), (.int (own_term (0 : Int32) vn92 vn104 (f 0)))])) _
    refine XS.iload X13.here hx rfl (hb hby at_119) rfl ?_
    show Steps p.tables e below (T13.setTop (mkF m 121 #[.val (.long q1), .second, .val (.int p2), .val (.int p3), .val (.ref b4), .val (.int vn92), .val (.int vn104), .unset, .unset, .unset] [(.int vn92), (.int (1 : Int32)), (.ref b4), (.int (own_term (0 : Int32) vn92 vn104 (f 0)))])) _
    refine XS.iload X13.here hx rfl (hb hby at_121) rfl ?_
    show Steps p.tables e below (T13.setTop (mkF m 123 #[.val (.long q1), .second, .val (.int p2), .val (.int p3), .val (.ref b4), .val (.int vn92), .val (.int vn104), .unset, .unset, .unset] [(.int vn104), (.int vn92), (.int (1 : Int32)), (.ref b4), (.int (own_term (0 : Int32) vn92 vn104 (f 0)))])) _
    refine st14 _ ?_
    show Steps p.tables e below (T14.setTop (mkF m 126 #[.val (.long q1), .second, .val (.int p2), .val (.int p3), .val (.ref b4), .val (.int vn92), .val (.int vn104), .unset, .unset, .unset] [(.int (own_term (1 : Int32) vn92 vn104 (f 1))), (.int (own_term (0 : Int32) vn92 vn104 (f 0)))])) _
    refine XS.iadd X14.here hx rfl (hb hby at_126) rfl ?_
    show Steps p.tables e below (T14.setTop (mkF m 127 #[.val (.long q1), .second, .val (.int p2), .val (.int p3), .val (.ref b4), .val (.int vn92), .val (.int vn104), .unset, .unset, .unset] [(.int ((own_term (0 : Int32) vn92 vn104 (f 0)) + (own_term (1 : Int32) vn92 vn104 (f 1))))])) _
    refine XS.aload X14.here hx rfl (hb hby at_127) rfl rfl ?_
    show Steps p.tables e below (T14.setTop (mkF m 129 #[.val (.long q1), .second, .val (.int p2), .val (.int p3), .val (.ref b4), .val (.int vn92), .val (.int vn104), .unset, .unset, .unset] [(.ref b4), (.int ((own_term (0 : Int32) vn92 vn104 (f 0)) + (own_term (1 : Int32) vn92 vn104 (f 1))))])) _
    refine XS.iconst X14.here hx rfl (hb hby at_129) ?_
    show Steps p.tables e below (T14.setTop (mkF m 130 #[.val (.long q1), .second, .val (.int p2), .val (.int p3), .val (.ref b4), .val (.int vn92), .val (.int vn104), .unset, .unset, .unset] [(.int (2 : Int32)), (.ref b4), (.int ((own_term (0 : Int32) vn92 vn104 (f 0)) + (own_term (1 : Int32) vn92 vn104 (f 1))))])) _
    refine XS.iload X14.here hx rfl (hb hby at_130) rfl ?_
    show Steps p.tables e below (T14.setTop (mkF m 132 #[.val (.long q1), .second, .val (.int p2), .val (.int p3), .val (.ref b4), .val (.int vn92), .val (.int vn104), .unset, .unset, .unset] [(.int vn92), (.int (2 : Int32)), (.ref b4), (.int ((own_term (0 : Int32) vn92 vn104 (f 0)) + (own_term (1 : Int32) vn92 vn104 (f 1))))])) _
    refine XS.iload X14.here hx rfl (hb hby at_132) rfl ?_
    show Steps p.tables e below (T14.setTop (mkF m 134 #[.val (.long q1), .second, .val (.int p2), .val (.int p3), .val (.ref b4), .val (.int vn92), .val (.int vn104), .unset, .unset, .unset] [(.int vn104), (.int vn92), (.int (2 : Int32)), (.ref b4), (.int ((own_term (0 : Int32) vn92 vn104 (f 0)) + (own_term (1 : Int32) vn92 vn104 (f 1))))])) _
    refine st15 _ ?_
    show Steps p.tables e below (T15.setTop (mkF m 137 #[.val (.long q1), .second, .val (.int p2), .val (.int p3), .val (.ref b4), .val (.int vn92), .val (.int vn104), .unset, .unset, .unset] [(.int (own_term (2 : Int32) vn92 vn104 (f 2))), (.int ((own_term (0 : Int32) vn92 vn104 (f 0)) + (own_term (1 : Int32) vn92 vn104 (f 1))))])) _
    refine XS.iadd X15.here hx rfl (hb hby at_137) rfl ?_
    show Steps p.tables e below (T15.setTop (mkF m 138 #[.val (.long q1), .second, .val (.int p2), .val (.int p3), .val (.ref b4), .val (.int vn92), .val (.int vn104), .unset, .unset, .unset] [(.int (((own_term (0 : Int32) vn92 vn104 (f 0)) + (own_term (1 : Int32) vn92 vn104 (f 1))) + (own_term (2 : Int32) vn92 vn104 (f 2))))])) _
    refine XS.aload X15.here hx rfl (hb hby at_138) rfl rfl ?_
    show Steps p.tables e below (T15.setTop (mkF m 140 #[.val (.long q1), .second, .val (.int p2), .val (.int p3), .val (.ref b4), .val (.int vn92), .val (.int vn104), .unset, .unset, .unset] [(.ref b4), (.int (((own_term (0 : Int32) vn92 vn104 (f 0)) + (own_term (1 : Int32) vn92 vn104 (f 1))) + (own_term (2 : Int32) vn92 vn104 (f 2))))])) _
    refine XS.iconst X15.here hx rfl (hb hby at_140) ?_
    show Steps p.tables e below (T15.setTop (mkF m 141 #[.val (.long q1), .second, .val (.int p2), .val (.int p3), .val (.ref b4), .val (.int vn92), .val (.int vn104), .unset, .unset, .unset] [(.int (3 : Int32)), (.ref b4), (.int (((own_term (0 : Int32) vn92 vn104 (f 0)) + (own_term (1 : Int32) vn92 vn104 (f 1))) + (own_term (2 : Int32) vn92 vn104 (f 2))))])) _
    refine XS.iload X15.here hx rfl (hb hby at_141) rfl ?_
    show Steps p.tables e below (T15.setTop (mkF m 143 #[.val (.long q1), .second, .val (.int p2), .val (.int p3), .val (.ref b4), .val (.int vn92), .val (.int vn104), .unset, .unset, .unset] [(.int vn92), (.int (3 : Int32)), (.ref b4), (.int (((own_term (0 : Int32) vn92 vn104 (f 0)) + (own_term (1 : Int32) vn92 vn104 (f 1))) + (own_term (2 : Int32) vn92 vn104 (f 2))))])) _
    refine XS.iload X15.here hx rfl (hb hby at_143) rfl ?_
    show Steps p.tables e below (T15.setTop (mkF m 145 #[.val (.long q1), .second, .val (.int p2), .val (.int p3), .val (.ref b4), .val (.int vn92), .val (.int vn104), .unset, .unset, .unset] [(.int vn104), (.int vn92), (.int (3 : Int32)), (.ref b4), (.int (((own_term (0 : Int32) vn92 vn104 (f 0)) + (own_term (1 : Int32) vn92 vn104 (f 1))) + (own_term (2 : Int32) vn92 vn104 (f 2))))])) _
    refine st16 _ ?_
    show Steps p.tables e below (T16.setTop (mkF m 148 #[.val (.long q1), .second, .val (.int p2), .val (.int p3), .val (.ref b4), .val (.int vn92), .val (.int vn104), .unset, .unset, .unset] [(.int (own_term (3 : Int32) vn92 vn104 (f 3))), (.int (((own_term (0 : Int32) vn92 vn104 (f 0)) + (own_term (1 : Int32) vn92 vn104 (f 1))) + (own_term (2 : Int32) vn92 vn104 (f 2))))])) _
    refine XS.iadd X16.here hx rfl (hb hby at_148) rfl ?_
    show Steps p.tables e below (T16.setTop (mkF m 149 #[.val (.long q1), .second, .val (.int p2), .val (.int p3), .val (.ref b4), .val (.int vn92), .val (.int vn104), .unset, .unset, .unset] [(.int ((((own_term (0 : Int32) vn92 vn104 (f 0)) + (own_term (1 : Int32) vn92 vn104 (f 1))) + (own_term (2 : Int32) vn92 vn104 (f 2))) + (own_term (3 : Int32) vn92 vn104 (f 3))))])) _
    refine XS.aload X16.here hx rfl (hb hby at_149) rfl rfl ?_
    show Steps p.tables e below (T16.setTop (mkF m 151 #[.val (.long q1), .second, .val (.int p2), .val (.int p3), .val (.ref b4), .val (.int vn92), .val (.int vn104), .unset, .unset, .unset] [(.ref b4), (.int ((((own_term (0 : Int32) vn92 vn104 (f 0)) + (own_term (1 : Int32) vn92 vn104 (f 1))) + (own_term (2 : Int32) vn92 vn104 (f 2))) + (own_term (3 : Int32) vn92 vn104 (f 3))))])) _
    refine XS.iconst X16.here hx rfl (hb hby at_151) ?_
    show Steps p.tables e below (T16.setTop (mkF m 152 #[.val (.long q1), .second, .val (.int p2), .val (.int p3), .val (.ref b4), .val (.int vn92), .val (.int vn104), .unset, .unset, .unset] [(.int (4 : Int32)), (.ref b4), (.int ((((own_term (0 : Int32) vn92 vn104 (f 0)) + (own_term (1 : Int32) vn92 vn104 (f 1))) + (own_term (2 : Int32) vn92 vn104 (f 2))) + (own_term (3 : Int32) vn92 vn104 (f 3))))])) _
    refine XS.iload X16.here hx rfl (hb hby at_152) rfl ?_
    show Steps p.tables e below (T16.setTop (mkF m 154 #[.val (.long q1), .second, .val (.int p2), .val (.int p3), .val (.ref b4), .val (.int vn92), .val (.int vn104), .unset, .unset, .unset] [(.int vn92), (.int (4 : Int32)), (.ref b4), (.int ((((own_term (0 : Int32) vn92 vn104 (f 0)) + (own_term (1 : Int32) vn92 vn104 (f 1))) + (own_term (2 : Int32) vn92 vn104 (f 2))) + (own_term (3 : Int32) vn92 vn104 (f 3))))])) _
    refine XS.iload X16.here hx rfl (hb hby at_154) rfl ?_
    show Steps p.tables e below (T16.setTop (mkF m 156 #[.val (.long q1), .second, .val (.int p2), .val (.int p3), .val (.ref b4), .val (.int vn92), .val (.int vn104), .unset, .unset, .unset] [(.int vn104), (.int vn92), (.int (4 : Int32)), (.ref b4), (.int ((((own_term (0 : Int32) vn92 vn104 (f 0)) + (own_term (1 : Int32) vn92 vn104 (f 1))) + (own_term (2 : Int32) vn92 vn104 (f 2))) + (own_term (3 : Int32) vn92 vn104 (f 3))))])) _
    refine st17 _ ?_
    show Steps p.tables e below (T17.setTop (mkF m 159 #[.val (.long q1), .second, .val (.int p2), .val (.int p3), .val (.ref b4), .val (.int vn92), .val (.int vn104), .unset, .unset, .unset] [(.int (own_term (4 : Int32) vn92 vn104 (f 4))), (.int ((((own_term (0 : Int32) vn92 vn104 (f 0)) + (own_term (1 : Int32) vn92 vn104 (f 1))) + (own_term (2 : Int32) vn92 vn104 (f 2))) + (own_term (3 : Int32) vn92 vn104 (f 3))))])) _
    refine XS.iadd X17.here hx rfl (hb hby at_159) rfl ?_
    show Steps p.tables e below (T17.setTop (mkF m 160 #[.val (.long q1), .second, .val (.int p2), .val (.int p3), .val (.ref b4), .val (.int vn92), .val (.int vn104), .unset, .unset, .unset] [(.int (((((own_term (0 : Int32) vn92 vn104 (f 0)) + (own_term (1 : Int32) vn92 vn104 (f 1))) + (own_term (2 : Int32) vn92 vn104 (f 2))) + (own_term (3 : Int32) vn92 vn104 (f 3))) + (own_term (4 : Int32) vn92 vn104 (f 4))))])) _
    refine XS.aload X17.here hx rfl (hb hby at_160) rfl rfl ?_
    show Steps p.tables e below (T17.setTop (mkF m 162 #[.val (.long q1), .second, .val (.int p2), .val (.int p3), .val (.ref b4), .val (.int vn92), .val (.int vn104), .unset, .unset, .unset] [(.ref b4), (.int (((((own_term (0 : Int32) vn92 vn104 (f 0)) + (own_term (1 : Int32) vn92 vn104 (f 1))) + (own_term (2 : Int32) vn92 vn104 (f 2))) + (own_term (3 : Int32) vn92 vn104 (f 3))) + (own_term (4 : Int32) vn92 vn104 (f 4))))])) _
    refine XS.iconst X17.here hx rfl (hb hby at_162) ?_
    show Steps p.tables e below (T17.setTop (mkF m 163 #[.val (.long q1), .second, .val (.int p2), .val (.int p3), .val (.ref b4), .val (.int vn92), .val (.int vn104), .unset, .unset, .unset] [(.int (5 : Int32)), (.ref b4), (.int (((((own_term (0 : Int32) vn92 vn104 (f 0)) + (own_term (1 : Int32) vn92 vn104 (f 1))) + (own_term (2 : Int32) vn92 vn104 (f 2))) + (own_term (3 : Int32) vn92 vn104 (f 3))) + (own_term (4 : Int32) vn92 vn104 (f 4))))])) _
    refine XS.iload X17.here hx rfl (hb hby at_163) rfl ?_
    show Steps p.tables e below (T17.setTop (mkF m 165 #[.val (.long q1), .second, .val (.int p2), .val (.int p3), .val (.ref b4), .val (.int vn92), .val (.int vn104), .unset, .unset, .unset] [(.int vn92), (.int (5 : Int32)), (.ref b4), (.int (((((own_term (0 : Int32) vn92 vn104 (f 0)) + (own_term (1 : Int32) vn92 vn104 (f 1))) + (own_term (2 : Int32) vn92 vn104 (f 2))) + (own_term (3 : Int32) vn92 vn104 (f 3))) + (own_term (4 : Int32) vn92 vn104 (f 4))))])) _
    refine XS.iload X17.here hx rfl (hb hby at_165) rfl ?_
    show Steps p.tables e below (T17.setTop (mkF m 167 #[.val (.long q1), .second, .val (.int p2), .val (.int p3), .val (.ref b4), .val (.int vn92), .val (.int vn104), .unset, .unset, .unset] [(.int vn104), (.int vn92), (.int (5 : Int32)), (.ref b4), (.int (((((own_term (0 : Int32) vn92 vn104 (f 0)) + (own_term (1 : Int32) vn92 vn104 (f 1))) + (own_term (2 : Int32) vn92 vn104 (f 2))) + (own_term (3 : Int32) vn92 vn104 (f 3))) + (own_term (4 : Int32) vn92 vn104 (f 4))))])) _
    refine st18 _ ?_
    show Steps p.tables e below (T18.setTop (mkF m 170 #[.val (.long q1), .second, .val (.int p2), .val (.int p3), .val (.ref b4), .val (.int vn92), .val (.int vn104), .unset, .unset, .unset] [(.int (own_term (5 : Int32) vn92 vn104 (f 5))), (.int (((((own_term (0 : Int32) vn92 vn104 (f 0)) + (own_term (1 : Int32) vn92 vn104 (f 1))) + (own_term (2 : Int32) vn92 vn104 (f 2))) + (own_term (3 : Int32) vn92 vn104 (f 3))) + (own_term (4 : Int32) vn92 vn104 (f 4))))])) _
    refine XS.iadd X18.here hx rfl (hb hby at_170) rfl ?_
    show Steps p.tables e below (T18.setTop (mkF m 171 #[.val (.long q1), .second, .val (.int p2), .val (.int p3), .val (.ref b4), .val (.int vn92), .val (.int vn104), .unset, .unset, .unset] [(.int ((((((own_term (0 : Int32) vn92 vn104 (f 0)) + (own_term (1 : Int32) vn92 vn104 (f 1))) + (own_term (2 : Int32) vn92 vn104 (f 2))) + (own_term (3 : Int32) vn92 vn104 (f 3))) + (own_term (4 : Int32) vn92 vn104 (f 4))) + (own_term (5 : Int32) vn92 vn104 (f 5))))])) _
    refine XS.aload X18.here hx rfl (hb hby at_171) rfl rfl ?_
    show Steps p.tables e below (T18.setTop (mkF m 173 #[.val (.long q1), .second, .val (.int p2), .val (.int p3), .val (.ref b4), .val (.int vn92), .val (.int vn104), .unset, .unset, .unset] [(.ref b4), (.int ((((((own_term (0 : Int32) vn92 vn104 (f 0)) + (own_term (1 : Int32) vn92 vn104 (f 1))) + (own_term (2 : Int32) vn92 vn104 (f 2))) + (own_term (3 : Int32) vn92 vn104 (f 3))) + (own_term (4 : Int32) vn92 vn104 (f 4))) + (own_term (5 : Int32) vn92 vn104 (f 5))))])) _
    refine XS.bipush X18.here hx rfl (hb hby at_173) ?_
    show Steps p.tables e below (T18.setTop (mkF m 175 #[.val (.long q1), .second, .val (.int p2), .val (.int p3), .val (.ref b4), .val (.int vn92), .val (.int vn104), .unset, .unset, .unset] [(.int (6 : Int32)), (.ref b4), (.int ((((((own_term (0 : Int32) vn92 vn104 (f 0)) + (own_term (1 : Int32) vn92 vn104 (f 1))) + (own_term (2 : Int32) vn92 vn104 (f 2))) + (own_term (3 : Int32) vn92 vn104 (f 3))) + (own_term (4 : Int32) vn92 vn104 (f 4))) + (own_term (5 : Int32) vn92 vn104 (f 5))))])) _
    refine XS.iload X18.here hx rfl (hb hby at_175) rfl ?_
    show Steps p.tables e below (T18.setTop (mkF m 177 #[.val (.long q1), .second, .val (.int p2), .val (.int p3), .val (.ref b4), .val (.int vn92), .val (.int vn104), .unset, .unset, .unset] [(.int vn92), (.int (6 : Int32)), (.ref b4), (.int ((((((own_term (0 : Int32) vn92 vn104 (f 0)) + (own_term (1 : Int32) vn92 vn104 (f 1))) + (own_term (2 : Int32) vn92 vn104 (f 2))) + (own_term (3 : Int32) vn92 vn104 (f 3))) + (own_term (4 : Int32) vn92 vn104 (f 4))) + (own_term (5 : Int32) vn92 vn104 (f 5))))])) _
    refine XS.iload X18.here hx rfl (hb hby at_177) rfl ?_
    show Steps p.tables e below (T18.setTop (mkF m 179 #[.val (.long q1), .second, .val (.int p2), .val (.int p3), .val (.ref b4), .val (.int vn92), .val (.int vn104), .unset, .unset, .unset] [(.int vn104), (.int vn92), (.int (6 : Int32)), (.ref b4), (.int ((((((own_term (0 : Int32) vn92 vn104 (f 0)) + (own_term (1 : Int32) vn92 vn104 (f 1))) + (own_term (2 : Int32) vn92 vn104 (f 2))) + (own_term (3 : Int32) vn92 vn104 (f 3))) + (own_term (4 : Int32) vn92 vn104 (f 4))) + (own_term (5 : Int32) vn92 vn104 (f 5))))])) _
    refine st19 _ ?_
    show Steps p.tables e below (T19.setTop (mkF m 182 #[.val (.long q1), .second, .val (.int p2), .val (.int p3), .val (.ref b4), .val (.int vn92), .val (.int vn104), .unset, .unset, .unset] [(.int (own_term (6 : Int32) vn92 vn104 (f 6))), (.int ((((((own_term (0 : Int32) vn92 vn104 (f 0)) + (own_term (1 : Int32) vn92 vn104 (f 1))) + (own_term (2 : Int32) vn92 vn104 (f 2))) + (own_term (3 : Int32) vn92 vn104 (f 3))) + (own_term (4 : Int32) vn92 vn104 (f 4))) + (own_term (5 : Int32) vn92 vn104 (f 5))))])) _
    refine XS.iadd X19.here hx rfl (hb hby at_182) rfl ?_
    show Steps p.tables e below (T19.setTop (mkF m 183 #[.val (.long q1), .second, .val (.int p2), .val (.int p3), .val (.ref b4), .val (.int vn92), .val (.int vn104), .unset, .unset, .unset] [(.int (((((((own_term (0 : Int32) vn92 vn104 (f 0)) + (own_term (1 : Int32) vn92 vn104 (f 1))) + (own_term (2 : Int32) vn92 vn104 (f 2))) + (own_term (3 : Int32) vn92 vn104 (f 3))) + (own_term (4 : Int32) vn92 vn104 (f 4))) + (own_term (5 : Int32) vn92 vn104 (f 5))) + (own_term (6 : Int32) vn92 vn104 (f 6))))])) _
    refine XS.aload X19.here hx rfl (hb hby at_183) rfl rfl ?_
    show Steps p.tables e below (T19.setTop (mkF m 185 #[.val (.long q1), .second, .val (.int p2), .val (.int p3), .val (.ref b4), .val (.int vn92), .val (.int vn104), .unset, .unset, .unset] [(.ref b4), (.int (((((((own_term (0 : Int32) vn92 vn104 (f 0)) + (own_term (1 : Int32) vn92 vn104 (f 1))) + (own_term (2 : Int32) vn92 vn104 (f 2))) + (own_term (3 : Int32) vn92 vn104 (f 3))) + (own_term (4 : Int32) vn92 vn104 (f 4))) + (own_term (5 : Int32) vn92 vn104 (f 5))) + (own_term (6 : Int32) vn92 vn104 (f 6))))])) _
    refine XS.bipush X19.here hx rfl (hb hby at_185) ?_
    show Steps p.tables e below (T19.setTop (mkF m 187 #[.val (.long q1), .second, .val (.int p2), .val (.int p3), .val (.ref b4), .val (.int vn92), .val (.int vn104), .unset, .unset, .unset] [(.int (7 : Int32)), (.ref b4), (.int (((((((own_term (0 : Int32) vn92 vn104 (f 0)) + (own_term (1 : Int32) vn92 vn104 (f 1))) + (own_term (2 : Int32) vn92 vn104 (f 2))) + (own_term (3 : Int32) vn92 vn104 (f 3))) + (own_term (4 : Int32) vn92 vn104 (f 4))) + (own_term (5 : Int32) vn92 vn104 (f 5))) + (own_term (6 : Int32) vn92 vn104 (f 6))))])) _
    refine XS.iload X19.here hx rfl (hb hby at_187) rfl ?_
    show Steps p.tables e below (T19.setTop (mkF m 189 #[.val (.long q1), .second, .val (.int p2), .val (.int p3), .val (.ref b4), .val (.int vn92), .val (.int vn104), .unset, .unset, .unset] [(.int vn92), (.int (7 : Int32)), (.ref b4), (.int (((((((own_term (0 : Int32) vn92 vn104 (f 0)) + (own_term (1 : Int32) vn92 vn104 (f 1))) + (own_term (2 : Int32) vn92 vn104 (f 2))) + (own_term (3 : Int32) vn92 vn104 (f 3))) + (own_term (4 : Int32) vn92 vn104 (f 4))) + (own_term (5 : Int32) vn92 vn104 (f 5))) + (own_term (6 : Int32) vn92 vn104 (f 6))))])) _
    refine XS.iload X19.here hx rfl (hb hby at_189) rfl ?_
    show Steps p.tables e below (T19.setTop (mkF m 191 #[.val (.long q1), .second, .val (.int p2), .val (.int p3), .val (.ref b4), .val (.int vn92), .val (.int vn104), .unset, .unset, .unset] [(.int vn104), (.int vn92), (.int (7 : Int32)), (.ref b4), (.int (((((((own_term (0 : Int32) vn92 vn104 (f 0)) + (own_term (1 : Int32) vn92 vn104 (f 1))) + (own_term (2 : Int32) vn92 vn104 (f 2))) + (own_term (3 : Int32) vn92 vn104 (f 3))) + (own_term (4 : Int32) vn92 vn104 (f 4))) + (own_term (5 : Int32) vn92 vn104 (f 5))) + (own_term (6 : Int32) vn92 vn104 (f 6))))])) _
    refine st20 _ ?_
    show Steps p.tables e below (T20.setTop (mkF m 194 #[.val (.long q1), .second, .val (.int p2), .val (.int p3), .val (.ref b4), .val (.int vn92), .val (.int vn104), .unset, .unset, .unset] [(.int (own_term (7 : Int32) vn92 vn104 (f 7))), (.int (((((((own_term (0 : Int32) vn92 vn104 (f 0)) + (own_term (1 : Int32) vn92 vn104 (f 1))) + (own_term (2 : Int32) vn92 vn104 (f 2))) + (own_term (3 : Int32) vn92 vn104 (f 3))) + (own_term (4 : Int32) vn92 vn104 (f 4))) + (own_term (5 : Int32) vn92 vn104 (f 5))) + (own_term (6 : Int32) vn92 vn104 (f 6))))])) _
    refine XS.iadd X20.here hx rfl (hb hby at_194) rfl ?_
    show Steps p.tables e below (T20.setTop (mkF m 195 #[.val (.long q1), .second, .val (.int p2), .val (.int p3), .val (.ref b4), .val (.int vn92), .val (.int vn104), .unset, .unset, .unset] [(.int ((((((((own_term (0 : Int32) vn92 vn104 (f 0)) + (own_term (1 : Int32) vn92 vn104 (f 1))) + (own_term (2 : Int32) vn92 vn104 (f 2))) + (own_term (3 : Int32) vn92 vn104 (f 3))) + (own_term (4 : Int32) vn92 vn104 (f 4))) + (own_term (5 : Int32) vn92 vn104 (f 5))) + (own_term (6 : Int32) vn92 vn104 (f 6))) + (own_term (7 : Int32) vn92 vn104 (f 7))))])) _
    refine XS.istore X20.here hx rfl (hb hby at_195) rfl (l' := #[.val (.long q1), .second, .val (.int p2), .val (.int p3), .val (.ref b4), .val (.int vn92), .val (.int vn104), .val (.int ((((((((own_term (0 : Int32) vn92 vn104 (f 0)) + (own_term (1 : Int32) vn92 vn104 (f 1))) + (own_term (2 : Int32) vn92 vn104 (f 2))) + (own_term (3 : Int32) vn92 vn104 (f 3))) + (own_term (4 : Int32) vn92 vn104 (f 4))) + (own_term (5 : Int32) vn92 vn104 (f 5))) + (own_term (6 : Int32) vn92 vn104 (f 6))) + (own_term (7 : Int32) vn92 vn104 (f 7)))), .unset, .unset]) rfl ?_
    show Steps p.tables e below (T20.setTop (mkF m 197 #[.val (.long q1), .second, .val (.int p2), .val (.int p3), .val (.ref b4), .val (.int vn92), .val (.int vn104), .val (.int ((((((((own_term (0 : Int32) vn92 vn104 (f 0)) + (own_term (1 : Int32) vn92 vn104 (f 1))) + (own_term (2 : Int32) vn92 vn104 (f 2))) + (own_term (3 : Int32) vn92 vn104 (f 3))) + (own_term (4 : Int32) vn92 vn104 (f 4))) + (own_term (5 : Int32) vn92 vn104 (f 5))) + (own_term (6 : Int32) vn92 vn104 (f 6))) + (own_term (7 : Int32) vn92 vn104 (f 7)))), .unset, .unset] [])) _
    refine XS.iload X20.here hx rfl (hb hby at_197) rfl ?_
    show Steps p.tables e below (T20.setTop (mkF m 199 #[.val (.long q1), .second, .val (.int p2), .val (.int p3), .val (.ref b4), .val (.int vn92), .val (.int vn104), .val (.int ((((((((own_term (0 : Int32) vn92 vn104 (f 0)) + (own_term (1 : Int32) vn92 vn104 (f 1))) + (own_term (2 : Int32) vn92 vn104 (f 2))) + (own_term (3 : Int32) vn92 vn104 (f 3))) + (own_term (4 : Int32) vn92 vn104 (f 4))) + (own_term (5 : Int32) vn92 vn104 (f 5))) + (own_term (6 : Int32) vn92 vn104 (f 6))) + (own_term (7 : Int32) vn92 vn104 (f 7)))), .unset, .unset] [(.int ((((((((own_term (0 : Int32) vn92 vn104 (f 0)) + (own_term (1 : Int32) vn92 vn104 (f 1))) + (own_term (2 : Int32) vn92 vn104 (f 2))) + (own_term (3 : Int32) vn92 vn104 (f 3))) + (own_term (4 : Int32) vn92 vn104 (f 4))) + (own_term (5 : Int32) vn92 vn104 (f 5))) + (own_term (6 : Int32) vn92 vn104 (f 6))) + (own_term (7 : Int32) vn92 vn104 (f 7))))])) _
    refine XS.sipush X20.here hx rfl (hb hby at_199) ?_
    show Steps p.tables e below (T20.setTop (mkF m 202 #[.val (.long q1), .second, .val (.int p2), .val (.int p3), .val (.ref b4), .val (.int vn92), .val (.int vn104), .val (.int ((((((((own_term (0 : Int32) vn92 vn104 (f 0)) + (own_term (1 : Int32) vn92 vn104 (f 1))) + (own_term (2 : Int32) vn92 vn104 (f 2))) + (own_term (3 : Int32) vn92 vn104 (f 3))) + (own_term (4 : Int32) vn92 vn104 (f 4))) + (own_term (5 : Int32) vn92 vn104 (f 5))) + (own_term (6 : Int32) vn92 vn104 (f 6))) + (own_term (7 : Int32) vn92 vn104 (f 7)))), .unset, .unset] [(.int (256 : Int32)), (.int ((((((((own_term (0 : Int32) vn92 vn104 (f 0)) + (own_term (1 : Int32) vn92 vn104 (f 1))) + (own_term (2 : Int32) vn92 vn104 (f 2))) + (own_term (3 : Int32) vn92 vn104 (f 3))) + (own_term (4 : Int32) vn92 vn104 (f 4))) + (own_term (5 : Int32) vn92 vn104 (f 5))) + (own_term (6 : Int32) vn92 vn104 (f 6))) + (own_term (7 : Int32) vn92 vn104 (f 7))))])) _
    refine XS.irem X20.here hx rfl (hb hby at_202) rfl (by decide) ?_
    show Steps p.tables e below (T20.setTop (mkF m 203 #[.val (.long q1), .second, .val (.int p2), .val (.int p3), .val (.ref b4), .val (.int vn92), .val (.int vn104), .val (.int ((((((((own_term (0 : Int32) vn92 vn104 (f 0)) + (own_term (1 : Int32) vn92 vn104 (f 1))) + (own_term (2 : Int32) vn92 vn104 (f 2))) + (own_term (3 : Int32) vn92 vn104 (f 3))) + (own_term (4 : Int32) vn92 vn104 (f 4))) + (own_term (5 : Int32) vn92 vn104 (f 5))) + (own_term (6 : Int32) vn92 vn104 (f 6))) + (own_term (7 : Int32) vn92 vn104 (f 7)))), .unset, .unset] [(.int (((((((((own_term (0 : Int32) vn92 vn104 (f 0)) + (own_term (1 : Int32) vn92 vn104 (f 1))) + (own_term (2 : Int32) vn92 vn104 (f 2))) + (own_term (3 : Int32) vn92 vn104 (f 3))) + (own_term (4 : Int32) vn92 vn104 (f 4))) + (own_term (5 : Int32) vn92 vn104 (f 5))) + (own_term (6 : Int32) vn92 vn104 (f 6))) + (own_term (7 : Int32) vn92 vn104 (f 7))) - (((((((((own_term (0 : Int32) vn92 vn104 (f 0)) + (own_term (1 : Int32) vn92 vn104 (f 1))) + (own_term (2 : Int32) vn92 vn104 (f 2))) + (own_term (3 : Int32) vn92 vn104 (f 3))) + (own_term (4 : Int32) vn92 vn104 (f 4))) + (own_term (5 : Int32) vn92 vn104 (f 5))) + (own_term (6 : Int32) vn92 vn104 (f 6))) + (own_term (7 : Int32) vn92 vn104 (f 7))) / (256 : Int32)) * (256 : Int32)))])) _
    refine XS.istore X20.here hx rfl (hb hby at_203) rfl (l' := #[.val (.long q1), .second, .val (.int p2), .val (.int p3), .val (.ref b4), .val (.int vn92), .val (.int vn104), .val (.int ((((((((own_term (0 : Int32) vn92 vn104 (f 0)) + (own_term (1 : Int32) vn92 vn104 (f 1))) + (own_term (2 : Int32) vn92 vn104 (f 2))) + (own_term (3 : Int32) vn92 vn104 (f 3))) + (own_term (4 : Int32) vn92 vn104 (f 4))) + (own_term (5 : Int32) vn92 vn104 (f 5))) + (own_term (6 : Int32) vn92 vn104 (f 6))) + (own_term (7 : Int32) vn92 vn104 (f 7)))), .val (.int (((((((((own_term (0 : Int32) vn92 vn104 (f 0)) + (own_term (1 : Int32) vn92 vn104 (f 1))) + (own_term (2 : Int32) vn92 vn104 (f 2))) + (own_term (3 : Int32) vn92 vn104 (f 3))) + (own_term (4 : Int32) vn92 vn104 (f 4))) + (own_term (5 : Int32) vn92 vn104 (f 5))) + (own_term (6 : Int32) vn92 vn104 (f 6))) + (own_term (7 : Int32) vn92 vn104 (f 7))) - (((((((((own_term (0 : Int32) vn92 vn104 (f 0)) + (own_term (1 : Int32) vn92 vn104 (f 1))) + (own_term (2 : Int32) vn92 vn104 (f 2))) + (own_term (3 : Int32) vn92 vn104 (f 3))) + (own_term (4 : Int32) vn92 vn104 (f 4))) + (own_term (5 : Int32) vn92 vn104 (f 5))) + (own_term (6 : Int32) vn92 vn104 (f 6))) + (own_term (7 : Int32) vn92 vn104 (f 7))) / (256 : Int32)) * (256 : Int32))), .unset]) rfl ?_
    show Steps p.tables e below (T20.setTop (mkF m 205 #[.val (.long q1), .second, .val (.int p2), .val (.int p3), .val (.ref b4), .val (.int vn92), .val (.int vn104), .val (.int ((((((((own_term (0 : Int32) vn92 vn104 (f 0)) + (own_term (1 : Int32) vn92 vn104 (f 1))) + (own_term (2 : Int32) vn92 vn104 (f 2))) + (own_term (3 : Int32) vn92 vn104 (f 3))) + (own_term (4 : Int32) vn92 vn104 (f 4))) + (own_term (5 : Int32) vn92 vn104 (f 5))) + (own_term (6 : Int32) vn92 vn104 (f 6))) + (own_term (7 : Int32) vn92 vn104 (f 7)))), .val (.int (((((((((own_term (0 : Int32) vn92 vn104 (f 0)) + (own_term (1 : Int32) vn92 vn104 (f 1))) + (own_term (2 : Int32) vn92 vn104 (f 2))) + (own_term (3 : Int32) vn92 vn104 (f 3))) + (own_term (4 : Int32) vn92 vn104 (f 4))) + (own_term (5 : Int32) vn92 vn104 (f 5))) + (own_term (6 : Int32) vn92 vn104 (f 6))) + (own_term (7 : Int32) vn92 vn104 (f 7))) - (((((((((own_term (0 : Int32) vn92 vn104 (f 0)) + (own_term (1 : Int32) vn92 vn104 (f 1))) + (own_term (2 : Int32) vn92 vn104 (f 2))) + (own_term (3 : Int32) vn92 vn104 (f 3))) + (own_term (4 : Int32) vn92 vn104 (f 4))) + (own_term (5 : Int32) vn92 vn104 (f 5))) + (own_term (6 : Int32) vn92 vn104 (f 6))) + (own_term (7 : Int32) vn92 vn104 (f 7))) / (256 : Int32)) * (256 : Int32))), .unset] [])) _
    refine XS.aload X20.here hx rfl (hb hby at_205) rfl rfl ?_
    show Steps p.tables e below (T20.setTop (mkF m 207 #[.val (.long q1), .second, .val (.int p2), .val (.int p3), .val (.ref b4), .val (.int vn92), .val (.int vn104), .val (.int ((((((((own_term (0 : Int32) vn92 vn104 (f 0)) + (own_term (1 : Int32) vn92 vn104 (f 1))) + (own_term (2 : Int32) vn92 vn104 (f 2))) + (own_term (3 : Int32) vn92 vn104 (f 3))) + (own_term (4 : Int32) vn92 vn104 (f 4))) + (own_term (5 : Int32) vn92 vn104 (f 5))) + (own_term (6 : Int32) vn92 vn104 (f 6))) + (own_term (7 : Int32) vn92 vn104 (f 7)))), .val (.int (((((((((own_term (0 : Int32) vn92 vn104 (f 0)) + (own_term (1 : Int32) vn92 vn104 (f 1))) + (own_term (2 : Int32) vn92 vn104 (f 2))) + (own_term (3 : Int32) vn92 vn104 (f 3))) + (own_term (4 : Int32) vn92 vn104 (f 4))) + (own_term (5 : Int32) vn92 vn104 (f 5))) + (own_term (6 : Int32) vn92 vn104 (f 6))) + (own_term (7 : Int32) vn92 vn104 (f 7))) - (((((((((own_term (0 : Int32) vn92 vn104 (f 0)) + (own_term (1 : Int32) vn92 vn104 (f 1))) + (own_term (2 : Int32) vn92 vn104 (f 2))) + (own_term (3 : Int32) vn92 vn104 (f 3))) + (own_term (4 : Int32) vn92 vn104 (f 4))) + (own_term (5 : Int32) vn92 vn104 (f 5))) + (own_term (6 : Int32) vn92 vn104 (f 6))) + (own_term (7 : Int32) vn92 vn104 (f 7))) / (256 : Int32)) * (256 : Int32))), .unset] [(.ref b4)])) _
    refine XS.iload X20.here hx rfl (hb hby at_207) rfl ?_
    show Steps p.tables e below (T20.setTop (mkF m 209 #[.val (.long q1), .second, .val (.int p2), .val (.int p3), .val (.ref b4), .val (.int vn92), .val (.int vn104), .val (.int ((((((((own_term (0 : Int32) vn92 vn104 (f 0)) + (own_term (1 : Int32) vn92 vn104 (f 1))) + (own_term (2 : Int32) vn92 vn104 (f 2))) + (own_term (3 : Int32) vn92 vn104 (f 3))) + (own_term (4 : Int32) vn92 vn104 (f 4))) + (own_term (5 : Int32) vn92 vn104 (f 5))) + (own_term (6 : Int32) vn92 vn104 (f 6))) + (own_term (7 : Int32) vn92 vn104 (f 7)))), .val (.int (((((((((own_term (0 : Int32) vn92 vn104 (f 0)) + (own_term (1 : Int32) vn92 vn104 (f 1))) + (own_term (2 : Int32) vn92 vn104 (f 2))) + (own_term (3 : Int32) vn92 vn104 (f 3))) + (own_term (4 : Int32) vn92 vn104 (f 4))) + (own_term (5 : Int32) vn92 vn104 (f 5))) + (own_term (6 : Int32) vn92 vn104 (f 6))) + (own_term (7 : Int32) vn92 vn104 (f 7))) - (((((((((own_term (0 : Int32) vn92 vn104 (f 0)) + (own_term (1 : Int32) vn92 vn104 (f 1))) + (own_term (2 : Int32) vn92 vn104 (f 2))) + (own_term (3 : Int32) vn92 vn104 (f 3))) + (own_term (4 : Int32) vn92 vn104 (f 4))) + (own_term (5 : Int32) vn92 vn104 (f 5))) + (own_term (6 : Int32) vn92 vn104 (f 6))) + (own_term (7 : Int32) vn92 vn104 (f 7))) / (256 : Int32)) * (256 : Int32))), .unset] [(.int vn92), (.ref b4)])) _
    refine XS.iload X20.here hx rfl (hb hby at_209) rfl ?_
    show Steps p.tables e below (T20.setTop (mkF m 211 #[.val (.long q1), .second, .val (.int p2), .val (.int p3), .val (.ref b4), .val (.int vn92), .val (.int vn104), .val (.int ((((((((own_term (0 : Int32) vn92 vn104 (f 0)) + (own_term (1 : Int32) vn92 vn104 (f 1))) + (own_term (2 : Int32) vn92 vn104 (f 2))) + (own_term (3 : Int32) vn92 vn104 (f 3))) + (own_term (4 : Int32) vn92 vn104 (f 4))) + (own_term (5 : Int32) vn92 vn104 (f 5))) + (own_term (6 : Int32) vn92 vn104 (f 6))) + (own_term (7 : Int32) vn92 vn104 (f 7)))), .val (.int (((((((((own_term (0 : Int32) vn92 vn104 (f 0)) + (own_term (1 : Int32) vn92 vn104 (f 1))) + (own_term (2 : Int32) vn92 vn104 (f 2))) + (own_term (3 : Int32) vn92 vn104 (f 3))) + (own_term (4 : Int32) vn92 vn104 (f 4))) + (own_term (5 : Int32) vn92 vn104 (f 5))) + (own_term (6 : Int32) vn92 vn104 (f 6))) + (own_term (7 : Int32) vn92 vn104 (f 7))) - (((((((((own_term (0 : Int32) vn92 vn104 (f 0)) + (own_term (1 : Int32) vn92 vn104 (f 1))) + (own_term (2 : Int32) vn92 vn104 (f 2))) + (own_term (3 : Int32) vn92 vn104 (f 3))) + (own_term (4 : Int32) vn92 vn104 (f 4))) + (own_term (5 : Int32) vn92 vn104 (f 5))) + (own_term (6 : Int32) vn92 vn104 (f 6))) + (own_term (7 : Int32) vn92 vn104 (f 7))) / (256 : Int32)) * (256 : Int32))), .unset] [(.int vn104), (.int vn92), (.ref b4)])) _
    refine st21 _ ?_
    show Steps p.tables e below (T21.setTop (mkF m 214 #[.val (.long q1), .second, .val (.int p2), .val (.int p3), .val (.ref b4), .val (.int vn92), .val (.int vn104), .val (.int ((((((((own_term (0 : Int32) vn92 vn104 (f 0)) + (own_term (1 : Int32) vn92 vn104 (f 1))) + (own_term (2 : Int32) vn92 vn104 (f 2))) + (own_term (3 : Int32) vn92 vn104 (f 3))) + (own_term (4 : Int32) vn92 vn104 (f 4))) + (own_term (5 : Int32) vn92 vn104 (f 5))) + (own_term (6 : Int32) vn92 vn104 (f 6))) + (own_term (7 : Int32) vn92 vn104 (f 7)))), .val (.int (((((((((own_term (0 : Int32) vn92 vn104 (f 0)) + (own_term (1 : Int32) vn92 vn104 (f 1))) + (own_term (2 : Int32) vn92 vn104 (f 2))) + (own_term (3 : Int32) vn92 vn104 (f 3))) + (own_term (4 : Int32) vn92 vn104 (f 4))) + (own_term (5 : Int32) vn92 vn104 (f 5))) + (own_term (6 : Int32) vn92 vn104 (f 6))) + (own_term (7 : Int32) vn92 vn104 (f 7))) - (((((((((own_term (0 : Int32) vn92 vn104 (f 0)) + (own_term (1 : Int32) vn92 vn104 (f 1))) + (own_term (2 : Int32) vn92 vn104 (f 2))) + (own_term (3 : Int32) vn92 vn104 (f 3))) + (own_term (4 : Int32) vn92 vn104 (f 4))) + (own_term (5 : Int32) vn92 vn104 (f 5))) + (own_term (6 : Int32) vn92 vn104 (f 6))) + (own_term (7 : Int32) vn92 vn104 (f 7))) / (256 : Int32)) * (256 : Int32))), .unset] [(.int ((own_part n m' f (n + m')) &&& (255 : Int32)))])) _
    refine XS.istore X21.here hx rfl (hb hby at_214) rfl (l' := #[.val (.long q1), .second, .val (.int p2), .val (.int p3), .val (.ref b4), .val (.int vn92), .val (.int vn104), .val (.int ((((((((own_term (0 : Int32) vn92 vn104 (f 0)) + (own_term (1 : Int32) vn92 vn104 (f 1))) + (own_term (2 : Int32) vn92 vn104 (f 2))) + (own_term (3 : Int32) vn92 vn104 (f 3))) + (own_term (4 : Int32) vn92 vn104 (f 4))) + (own_term (5 : Int32) vn92 vn104 (f 5))) + (own_term (6 : Int32) vn92 vn104 (f 6))) + (own_term (7 : Int32) vn92 vn104 (f 7)))), .val (.int (((((((((own_term (0 : Int32) vn92 vn104 (f 0)) + (own_term (1 : Int32) vn92 vn104 (f 1))) + (own_term (2 : Int32) vn92 vn104 (f 2))) + (own_term (3 : Int32) vn92 vn104 (f 3))) + (own_term (4 : Int32) vn92 vn104 (f 4))) + (own_term (5 : Int32) vn92 vn104 (f 5))) + (own_term (6 : Int32) vn92 vn104 (f 6))) + (own_term (7 : Int32) vn92 vn104 (f 7))) - (((((((((own_term (0 : Int32) vn92 vn104 (f 0)) + (own_term (1 : Int32) vn92 vn104 (f 1))) + (own_term (2 : Int32) vn92 vn104 (f 2))) + (own_term (3 : Int32) vn92 vn104 (f 3))) + (own_term (4 : Int32) vn92 vn104 (f 4))) + (own_term (5 : Int32) vn92 vn104 (f 5))) + (own_term (6 : Int32) vn92 vn104 (f 6))) + (own_term (7 : Int32) vn92 vn104 (f 7))) / (256 : Int32)) * (256 : Int32))), .val (.int ((own_part n m' f (n + m')) &&& (255 : Int32)))]) rfl ?_
    show Steps p.tables e below (T21.setTop (mkF m 216 #[.val (.long q1), .second, .val (.int p2), .val (.int p3), .val (.ref b4), .val (.int vn92), .val (.int vn104), .val (.int ((((((((own_term (0 : Int32) vn92 vn104 (f 0)) + (own_term (1 : Int32) vn92 vn104 (f 1))) + (own_term (2 : Int32) vn92 vn104 (f 2))) + (own_term (3 : Int32) vn92 vn104 (f 3))) + (own_term (4 : Int32) vn92 vn104 (f 4))) + (own_term (5 : Int32) vn92 vn104 (f 5))) + (own_term (6 : Int32) vn92 vn104 (f 6))) + (own_term (7 : Int32) vn92 vn104 (f 7)))), .val (.int (((((((((own_term (0 : Int32) vn92 vn104 (f 0)) + (own_term (1 : Int32) vn92 vn104 (f 1))) + (own_term (2 : Int32) vn92 vn104 (f 2))) + (own_term (3 : Int32) vn92 vn104 (f 3))) + (own_term (4 : Int32) vn92 vn104 (f 4))) + (own_term (5 : Int32) vn92 vn104 (f 5))) + (own_term (6 : Int32) vn92 vn104 (f 6))) + (own_term (7 : Int32) vn92 vn104 (f 7))) - (((((((((own_term (0 : Int32) vn92 vn104 (f 0)) + (own_term (1 : Int32) vn92 vn104 (f 1))) + (own_term (2 : Int32) vn92 vn104 (f 2))) + (own_term (3 : Int32) vn92 vn104 (f 3))) + (own_term (4 : Int32) vn92 vn104 (f 4))) + (own_term (5 : Int32) vn92 vn104 (f 5))) + (own_term (6 : Int32) vn92 vn104 (f 6))) + (own_term (7 : Int32) vn92 vn104 (f 7))) / (256 : Int32)) * (256 : Int32))), .val (.int ((own_part n m' f (n + m')) &&& (255 : Int32)))] [])) _
    refine XS.iload X21.here hx rfl (hb hby at_216) rfl ?_
    show Steps p.tables e below (T21.setTop (mkF m 218 #[.val (.long q1), .second, .val (.int p2), .val (.int p3), .val (.ref b4), .val (.int vn92), .val (.int vn104), .val (.int ((((((((own_term (0 : Int32) vn92 vn104 (f 0)) + (own_term (1 : Int32) vn92 vn104 (f 1))) + (own_term (2 : Int32) vn92 vn104 (f 2))) + (own_term (3 : Int32) vn92 vn104 (f 3))) + (own_term (4 : Int32) vn92 vn104 (f 4))) + (own_term (5 : Int32) vn92 vn104 (f 5))) + (own_term (6 : Int32) vn92 vn104 (f 6))) + (own_term (7 : Int32) vn92 vn104 (f 7)))), .val (.int (((((((((own_term (0 : Int32) vn92 vn104 (f 0)) + (own_term (1 : Int32) vn92 vn104 (f 1))) + (own_term (2 : Int32) vn92 vn104 (f 2))) + (own_term (3 : Int32) vn92 vn104 (f 3))) + (own_term (4 : Int32) vn92 vn104 (f 4))) + (own_term (5 : Int32) vn92 vn104 (f 5))) + (own_term (6 : Int32) vn92 vn104 (f 6))) + (own_term (7 : Int32) vn92 vn104 (f 7))) - (((((((((own_term (0 : Int32) vn92 vn104 (f 0)) + (own_term (1 : Int32) vn92 vn104 (f 1))) + (own_term (2 : Int32) vn92 vn104 (f 2))) + (own_term (3 : Int32) vn92 vn104 (f 3))) + (own_term (4 : Int32) vn92 vn104 (f 4))) + (own_term (5 : Int32) vn92 vn104 (f 5))) + (own_term (6 : Int32) vn92 vn104 (f 6))) + (own_term (7 : Int32) vn92 vn104 (f 7))) / (256 : Int32)) * (256 : Int32))), .val (.int ((own_part n m' f (n + m')) &&& (255 : Int32)))] [(.int ((own_part n m' f (n + m')) &&& (255 : Int32)))])) _
    refine XS.iload X21.here hx rfl (hb hby at_218) rfl ?_
    show Steps p.tables e below (T21.setTop (mkF m 220 #[.val (.long q1), .second, .val (.int p2), .val (.int p3), .val (.ref b4), .val (.int vn92), .val (.int vn104), .val (.int ((((((((own_term (0 : Int32) vn92 vn104 (f 0)) + (own_term (1 : Int32) vn92 vn104 (f 1))) + (own_term (2 : Int32) vn92 vn104 (f 2))) + (own_term (3 : Int32) vn92 vn104 (f 3))) + (own_term (4 : Int32) vn92 vn104 (f 4))) + (own_term (5 : Int32) vn92 vn104 (f 5))) + (own_term (6 : Int32) vn92 vn104 (f 6))) + (own_term (7 : Int32) vn92 vn104 (f 7)))), .val (.int (((((((((own_term (0 : Int32) vn92 vn104 (f 0)) + (own_term (1 : Int32) vn92 vn104 (f 1))) + (own_term (2 : Int32) vn92 vn104 (f 2))) + (own_term (3 : Int32) vn92 vn104 (f 3))) + (own_term (4 : Int32) vn92 vn104 (f 4))) + (own_term (5 : Int32) vn92 vn104 (f 5))) + (own_term (6 : Int32) vn92 vn104 (f 6))) + (own_term (7 : Int32) vn92 vn104 (f 7))) - (((((((((own_term (0 : Int32) vn92 vn104 (f 0)) + (own_term (1 : Int32) vn92 vn104 (f 1))) + (own_term (2 : Int32) vn92 vn104 (f 2))) + (own_term (3 : Int32) vn92 vn104 (f 3))) + (own_term (4 : Int32) vn92 vn104 (f 4))) + (own_term (5 : Int32) vn92 vn104 (f 5))) + (own_term (6 : Int32) vn92 vn104 (f 6))) + (own_term (7 : Int32) vn92 vn104 (f 7))) / (256 : Int32)) * (256 : Int32))), .val (.int ((own_part n m' f (n + m')) &&& (255 : Int32)))] [(.int (((((((((own_term (0 : Int32) vn92 vn104 (f 0)) + (own_term (1 : Int32) vn92 vn104 (f 1))) + (own_term (2 : Int32) vn92 vn104 (f 2))) + (own_term (3 : Int32) vn92 vn104 (f 3))) + (own_term (4 : Int32) vn92 vn104 (f 4))) + (own_term (5 : Int32) vn92 vn104 (f 5))) + (own_term (6 : Int32) vn92 vn104 (f 6))) + (own_term (7 : Int32) vn92 vn104 (f 7))) - (((((((((own_term (0 : Int32) vn92 vn104 (f 0)) + (own_term (1 : Int32) vn92 vn104 (f 1))) + (own_term (2 : Int32) vn92 vn104 (f 2))) + (own_term (3 : Int32) vn92 vn104 (f 3))) + (own_term (4 : Int32) vn92 vn104 (f 4))) + (own_term (5 : Int32) vn92 vn104 (f 5))) + (own_term (6 : Int32) vn92 vn104 (f 6))) + (own_term (7 : Int32) vn92 vn104 (f 7))) / (256 : Int32)) * (256 : Int32))), (.int ((own_part n m' f (n + m')) &&& (255 : Int32)))])) _
    refine XS.icmpNo X21.here hx rfl (hb hby at_220) rfl (teq (own_law f hn hm hs rfl)).2 ?_
    show Steps p.tables e below (T21.setTop (mkF m 223 #[.val (.long q1), .second, .val (.int p2), .val (.int p3), .val (.ref b4), .val (.int vn92), .val (.int vn104), .val (.int ((((((((own_term (0 : Int32) vn92 vn104 (f 0)) + (own_term (1 : Int32) vn92 vn104 (f 1))) + (own_term (2 : Int32) vn92 vn104 (f 2))) + (own_term (3 : Int32) vn92 vn104 (f 3))) + (own_term (4 : Int32) vn92 vn104 (f 4))) + (own_term (5 : Int32) vn92 vn104 (f 5))) + (own_term (6 : Int32) vn92 vn104 (f 6))) + (own_term (7 : Int32) vn92 vn104 (f 7)))), .val (.int (((((((((own_term (0 : Int32) vn92 vn104 (f 0)) + (own_term (1 : Int32) vn92 vn104 (f 1))) + (own_term (2 : Int32) vn92 vn104 (f 2))) + (own_term (3 : Int32) vn92 vn104 (f 3))) + (own_term (4 : Int32) vn92 vn104 (f 4))) + (own_term (5 : Int32) vn92 vn104 (f 5))) + (own_term (6 : Int32) vn92 vn104 (f 6))) + (own_term (7 : Int32) vn92 vn104 (f 7))) - (((((((((own_term (0 : Int32) vn92 vn104 (f 0)) + (own_term (1 : Int32) vn92 vn104 (f 1))) + (own_term (2 : Int32) vn92 vn104 (f 2))) + (own_term (3 : Int32) vn92 vn104 (f 3))) + (own_term (4 : Int32) vn92 vn104 (f 4))) + (own_term (5 : Int32) vn92 vn104 (f 5))) + (own_term (6 : Int32) vn92 vn104 (f 6))) + (own_term (7 : Int32) vn92 vn104 (f 7))) / (256 : Int32)) * (256 : Int32))), .val (.int ((own_part n m' f (n + m')) &&& (255 : Int32)))] [])) _
    refine XS.iconst X21.here hx rfl (hb hby at_223) ?_
    show Steps p.tables e below (T21.setTop (mkF m 224 #[.val (.long q1), .second, .val (.int p2), .val (.int p3), .val (.ref b4), .val (.int vn92), .val (.int vn104), .val (.int ((((((((own_term (0 : Int32) vn92 vn104 (f 0)) + (own_term (1 : Int32) vn92 vn104 (f 1))) + (own_term (2 : Int32) vn92 vn104 (f 2))) + (own_term (3 : Int32) vn92 vn104 (f 3))) + (own_term (4 : Int32) vn92 vn104 (f 4))) + (own_term (5 : Int32) vn92 vn104 (f 5))) + (own_term (6 : Int32) vn92 vn104 (f 6))) + (own_term (7 : Int32) vn92 vn104 (f 7)))), .val (.int (((((((((own_term (0 : Int32) vn92 vn104 (f 0)) + (own_term (1 : Int32) vn92 vn104 (f 1))) + (own_term (2 : Int32) vn92 vn104 (f 2))) + (own_term (3 : Int32) vn92 vn104 (f 3))) + (own_term (4 : Int32) vn92 vn104 (f 4))) + (own_term (5 : Int32) vn92 vn104 (f 5))) + (own_term (6 : Int32) vn92 vn104 (f 6))) + (own_term (7 : Int32) vn92 vn104 (f 7))) - (((((((((own_term (0 : Int32) vn92 vn104 (f 0)) + (own_term (1 : Int32) vn92 vn104 (f 1))) + (own_term (2 : Int32) vn92 vn104 (f 2))) + (own_term (3 : Int32) vn92 vn104 (f 3))) + (own_term (4 : Int32) vn92 vn104 (f 4))) + (own_term (5 : Int32) vn92 vn104 (f 5))) + (own_term (6 : Int32) vn92 vn104 (f 6))) + (own_term (7 : Int32) vn92 vn104 (f 7))) / (256 : Int32)) * (256 : Int32))), .val (.int ((own_part n m' f (n + m')) &&& (255 : Int32)))] [(.int (1 : Int32))])) _
    refine XS.goto X21.here hx rfl (pc0 := 224) (pc' := 228) rfl (hb hby at_224) (by decide) (by decide) ?_
    show Steps p.tables e below (T21.setTop (mkF m 228 #[.val (.long q1), .second, .val (.int p2), .val (.int p3), .val (.ref b4), .val (.int vn92), .val (.int vn104), .val (.int ((((((((own_term (0 : Int32) vn92 vn104 (f 0)) + (own_term (1 : Int32) vn92 vn104 (f 1))) + (own_term (2 : Int32) vn92 vn104 (f 2))) + (own_term (3 : Int32) vn92 vn104 (f 3))) + (own_term (4 : Int32) vn92 vn104 (f 4))) + (own_term (5 : Int32) vn92 vn104 (f 5))) + (own_term (6 : Int32) vn92 vn104 (f 6))) + (own_term (7 : Int32) vn92 vn104 (f 7)))), .val (.int (((((((((own_term (0 : Int32) vn92 vn104 (f 0)) + (own_term (1 : Int32) vn92 vn104 (f 1))) + (own_term (2 : Int32) vn92 vn104 (f 2))) + (own_term (3 : Int32) vn92 vn104 (f 3))) + (own_term (4 : Int32) vn92 vn104 (f 4))) + (own_term (5 : Int32) vn92 vn104 (f 5))) + (own_term (6 : Int32) vn92 vn104 (f 6))) + (own_term (7 : Int32) vn92 vn104 (f 7))) - (((((((((own_term (0 : Int32) vn92 vn104 (f 0)) + (own_term (1 : Int32) vn92 vn104 (f 1))) + (own_term (2 : Int32) vn92 vn104 (f 2))) + (own_term (3 : Int32) vn92 vn104 (f 3))) + (own_term (4 : Int32) vn92 vn104 (f 4))) + (own_term (5 : Int32) vn92 vn104 (f 5))) + (own_term (6 : Int32) vn92 vn104 (f 6))) + (own_term (7 : Int32) vn92 vn104 (f 7))) / (256 : Int32)) * (256 : Int32))), .val (.int ((own_part n m' f (n + m')) &&& (255 : Int32)))] [(.int (1 : Int32))])) _
    exact retN X21 hx (t := .boolean) Bd.returns (by simp) (hb hby at_228) hr
  · show Q0 Z q1 p2 p3 vn92 vn104 h0 n0 _ T21.heap _
    rw [e21]
    exact ⟨rfl, N21⟩
set_option maxRecDepth 65536 in
set_option maxHeartbeats 40000000 in
theorem comes_1 {Post : Tables → Env → Array Value → State → Outcome → State → Prop} (hpost : ∀ tb e args s v u, (limb_1_1.after args s (.returned v) u = true ∧ limb_1_2.after args s (.returned v) u = true ∧ True) → FrameEnd s (.returned v) u (Jvm.fieldLocs frame_1_writes args s ++ Jvm.arrayLocs frame_1_arrays args s ++ Jvm.staticLocs frame_1_statics s) 16 128 → Post tb e args s (.returned v) u) :
    ArmFor flags0 classFile x code maxLocals ret World_1 tables_1 room_1 Calls_1 rest_1 Pre_1 Post := by
  intro l hfl _ _ p e ha hc hk s m args below hf hA hF happ hP
  obtain ⟨hcalls, hrest, hpre⟩ := hP
  obtain ⟨-, -, -, hnamed, -, -, -, hat⟩ := (Spec.applies_iff hf).mp happ
  obtain ⟨hg, hn⟩ := and_e (Cond.before_iff.mp (show (Jvm.Cond.and given_1 narrow_1).before args s = true from hpre))
  obtain ⟨g22, g23⟩ := and_e hg
  obtain ⟨g24, g25⟩ := and_e g23
  obtain ⟨g26, g27⟩ := and_e g25
  obtain ⟨w0, w1, w2, rfl⟩ : ∃ w0 w1 w2 : Value, args = #[w0, w1, w2] := by
    have hs : args.size = 3 := by simpa [Cond.value, given_1] using g22
    obtain ⟨L⟩ := args
    match L, hs with
    | [w0, w1, w2], _ => exact ⟨w0, w1, w2, rfl⟩
  have hw := fun d (hd : d ∈ tables_1) => atoms_spec (ws := Jvm.Cond.code x code maxLocals ret :: tables_1) hat d (List.mem_cons_of_mem _ hd)
  have hfit : Fit s := fun {y c} hc i hi => by
    obtain ⟨ha, rfl⟩ := Array.getElem?_eq_some_iff.mp hc
    have q := List.all_eq_true.mp ((Array.all_eq_true_iff_forall_mem.mp hF) _ (Array.getElem_mem ha)) i (List.mem_range.mpr hi)
    simpa [Array.getElem?_eq_getElem hi] using q
  obtain ⟨i0, ei0⟩ := isL_v g24
  obtain rfl : w0 = (.long i0) := Option.some.inj ei0
  obtain ⟨i1, ei1⟩ := is_v g26
  obtain rfl : w1 = (.int i1) := Option.some.inj ei1
  obtain ⟨i2, ei2⟩ := is_v g27
  obtain rfl : w2 = (.int i2) := Option.some.inj ei2
  obtain ⟨n, o, h1, h2, h3, _, L, rfl, ⟨rfl, N⟩, hq⟩ := rm0 l s _ hw tables_1 i0 i1 i2 _ _ s.heap s.heap.size (Nat.le_refl _) rfl rfl p e ha hc hk s m _ below hf ((Spec.applies_iff_loose hf).mp happ).1 ⟨rfl, State.Warmed39.refl s, rfl⟩ trivial
  refine ⟨n, _, h1, h2, h3, hpost _ _ _ _ _ _ ⟨Cond.after_iff.mpr rfl, Cond.after_iff.mpr (eq_i res_at (Term.int_eval (1)) rfl), trivial⟩ ⟨hq.1, hq.2.1, (hq.2.2.sift fun y hy => Or.inr (N y hy)).mono (by decide) (by decide)⟩⟩
theorem main_1_1 : Claimed_1_1 := comes_1 fun _ _ _ _ _ _ h hF => ⟨h.1, hF⟩
theorem main_1_2 : Claimed_1_2 := comes_1 fun _ _ _ _ _ _ h hF => ⟨h.2.1, hF⟩
end Jvm.Pilot.@@N@@
namespace Jvm.Pilot.@@N@@
open Jvm Jvm.ClassFile Sem Op Lib Jvm.Free Jvm.Stand Jvm.Pilot.@@N@@.Jvm.D
/-! MADE BY PROGRAM (witnessworld.py) out of the Statement's table words and the real class files: 9 classes; the members and pool entries that the words name. The judged class is class 1, her method 2. -/
namespace start1
open Jvm.ClassFile
def u (s : String) : CpInfo := .utf8 (stringToUtf16 s)
/-- a pool by its gaps: so many unusable entries, then the entry; so many at the end -/
def gap : Nat → List CpInfo → List CpInfo
  | 0, r => r
  | n + 1, r => .unusable :: gap n r
def poolList (es : List (Nat × CpInfo)) (last : Nat) : List CpInfo := es.foldr (fun e r => gap e.1 (e.2 :: r)) (gap last [])
def pool (es : List (Nat × CpInfo)) (last : Nat) : Array CpInfo := ⟨poolList es last⟩
def fileOf (pool : Array CpInfo) (this : Nat) (attrs : Array Attribute := #[]) (ms : Array MethodInfo := #[]) (fl : Nat := 33) (sup : Nat := 0) (ifs : Array Nat := #[]) (fds : Array FieldInfo := #[]) : ClassFile where
  minorVersion := 0
  majorVersion := 65
  constantPool := pool
  accessFlags := fl
  thisClass := this
  superClass := sup
  interfaces := ifs
  fields := fds
  methods := ms
  attributes := attrs
def plain (name : String) (sup : Option ClassId) : Class where
  name := name
  kind := .ordinary
  loader := none
  accessFlags := 33
  super := sup
  interfaces := #[]
  cf := none
  fields := #[]
  methods := #[]
  instanceTypes := #[]
  staticTypes := #[]
  resolved := #[]
  callSites := []
  init := .initialized
  statics := none
  mirror := none

def pool0 : Array CpInfo := pool [(5, u "<init>"), (0, u "()V"), (1, .class_ 10), (1, u "java/lang/Object")] 113

def k0m0 : Method := { name := "<init>", desc := "()V", sig := { parameters := [], returnType := none }, accessFlags := 1, code := none }
/-- java/lang/Object -/
def k0 : Class := { plain "java/lang/Object" none with
  accessFlags := 33
  interfaces := #[]
  cf := some (fileOf pool0 8 #[] #[{ accessFlags := 1, nameIndex := 5, descriptorIndex := 6, attributes := #[] }] 33 0 #[] #[])
  fields := #[]
  methods := #[k0m0]
  instanceTypes := #[]
  staticTypes := #[]
  resolved := Array.replicate 124 none
  statics := none }

def pool1 : Array CpInfo := pool [(2, .class_ 4), (1, u "java/lang/Object"), (0, u "<init>"), (0, u "()V"), (0, .integer 2147483647), (0, .methodref 9 10), (0, .class_ 11), (0, .nameAndType 12 13), (0, u "com/example/shiokaze/shiokaze/fix/CheckSumOfPinLaw"), (0, u "term"), (0, u "([BIII)I"), (0, .methodref 15 16), (0, .class_ 17), (0, .nameAndType 18 19), (0, u "com/example/shiokaze/shiokaze/fix/CheckSum"), (0, u "of"), (0, u "([BII)I"), (3, u "law"), (0, u "(JII)Z")] 4

def k1m0 : Method := { name := "<init>", desc := "()V", sig := { parameters := [], returnType := none }, accessFlags := 2, code := none }
def k1c1 : Code := { maxStack := 3, maxLocals := 4, code := method_2_code, exceptionTable := #[], attributes := #[] }
def k1m1 : Method := { name := "term", desc := "([BIII)I", sig := { parameters := [(.array .byte), .int, .int, .int], returnType := some .int }, accessFlags := 10, code := some k1c1 }
def k1c2 : Code := { maxStack := 5, maxLocals := 10, code := code, exceptionTable := #[], attributes := #[] }
def k1m2 : Method := { name := "law", desc := "(JII)Z", sig := { parameters := [.long, .int, .int], returnType := some .boolean }, accessFlags := 9, code := some k1c2 }
/-- com/example/shiokaze/shiokaze/fix/CheckSumOfPinLaw -/
def k1 : Class := { plain "com/example/shiokaze/shiokaze/fix/CheckSumOfPinLaw" (some 0) with
  accessFlags := 49
  interfaces := #[]
  cf := some (fileOf pool1 9 #[] #[{ accessFlags := 2, nameIndex := 5, descriptorIndex := 6, attributes := #[] }, { accessFlags := 10, nameIndex := 12, descriptorIndex := 13, attributes := #[] }, { accessFlags := 9, nameIndex := 23, descriptorIndex := 24, attributes := #[] }] 49 2 #[] #[])
  fields := #[]
  methods := #[k1m0, k1m1, k1m2]
  instanceTypes := #[]
  staticTypes := #[]
  resolved := Array.replicate 29 none
  statics := none }

def pool2 : Array CpInfo := pool [(2, .class_ 4), (1, u "java/lang/Object"), (0, u "<init>"), (0, u "()V"), (0, .class_ 8), (0, u "com/example/shiokaze/shiokaze/fix/CheckSum"), (2, u "of"), (0, u "([BII)I")] 3

def k2m0 : Method := { name := "<init>", desc := "()V", sig := { parameters := [], returnType := none }, accessFlags := 2, code := none }
def k2c1 : Code := { maxStack := 3, maxLocals := 5, code := prog_6_method_2_code, exceptionTable := #[], attributes := #[] }
def k2m1 : Method := { name := "of", desc := "([BII)I", sig := { parameters := [(.array .byte), .int, .int], returnType := some .int }, accessFlags := 9, code := some k2c1 }
/-- com/example/shiokaze/shiokaze/fix/CheckSum -/
def k2 : Class := { plain "com/example/shiokaze/shiokaze/fix/CheckSum" (some 0) with
  accessFlags := 49
  interfaces := #[]
  cf := some (fileOf pool2 7 #[] #[{ accessFlags := 2, nameIndex := 5, descriptorIndex := 6, attributes := #[] }, { accessFlags := 9, nameIndex := 11, descriptorIndex := 12, attributes := #[] }] 49 2 #[] #[])
  fields := #[]
  methods := #[k2m0, k2m1]
  instanceTypes := #[]
  staticTypes := #[]
  resolved := Array.replicate 16 none
  statics := none }

def pool3 : Array CpInfo := pool [(1, u "java/lang/Cloneable"), (0, .class_ 1), (0, u "java/lang/Object"), (0, .class_ 3)] 3

/-- java/lang/Cloneable -/
def k3 : Class := { plain "java/lang/Cloneable" (some 0) with
  accessFlags := 1537
  interfaces := #[]
  cf := some (fileOf pool3 2 #[] #[] 1537 4 #[] #[])
  fields := #[]
  methods := #[]
  instanceTypes := #[]
  staticTypes := #[]
  resolved := Array.replicate 8 none
  statics := none }

def pool4 : Array CpInfo := pool [(1, u "java/io/Serializable"), (0, .class_ 1), (0, u "java/lang/Object"), (0, .class_ 3)] 3

/-- java/io/Serializable -/
def k4 : Class := { plain "java/io/Serializable" (some 0) with
  accessFlags := 1537
  interfaces := #[]
  cf := some (fileOf pool4 2 #[] #[] 1537 4 #[] #[])
  fields := #[]
  methods := #[]
  instanceTypes := #[]
  staticTypes := #[]
  resolved := Array.replicate 8 none
  statics := none }

/-- the primitive byte -/
def k5 : Class := { plain "byte" none with kind := .primitive 'B', accessFlags := 0x411 }
/-- [B -/
def k6 : Class := { plain "[B" (some 0) with kind := .array 5 .byte, interfaces := #[3, 4], accessFlags := 1041 }

/-- the primitive int -/
def k7 : Class := { plain "int" none with kind := .primitive 'I', accessFlags := 0x411 }
/-- [I -/
def k8 : Class := { plain "[I" (some 0) with kind := .array 7 .int, interfaces := #[3, 4], accessFlags := 1041 }

def heap : Heap := #[]
def classes : Array Class := #[k0, k1, k2, k3, k4, k5, k6, k7, k8]
def interned : List (Array UInt16 × Addr) := []
def slotsUsed : Nat := 0
def theMethod : MethodId := ⟨1, 2⟩
def args0 : Array Value := #[.long 5, .int 6, .int 7]
def aboutOver (below : List Frame) : State where
  vm := { classes := classes, interned := interned.toArray }
  heap := heap
  slotsUsed := slotsUsed
  threads := #[{ frames := .invoking theMethod args0 :: below }]
def below0 : List Frame := [.native { method := ⟨0, 0⟩, args := #[] }]
def about1 : State := aboutOver below0
def p0 : Program := .bare "" "" ""
def e0 : Env := launch0.env 0 0 0
theorem w_frames : about1.frames = Frame.invoking theMethod args0 :: below0 := rfl
set_option maxRecDepth 65536 in
theorem w_args : argsFit about1.vm theMethod args0 = true := by decide +kernel
set_option maxRecDepth 65536 in
theorem w_heap : heapFits about1 = true := by decide +kernel
set_option maxRecDepth 65536 in
theorem w_runnable : about1.curStatus? = some .runnable := by decide +kernel
set_option maxRecDepth 65536 in
theorem w_alone : about1.alone = true := by decide +kernel
set_option maxRecDepth 65536 in
theorem w_named : about1.methodNamed? x = some theMethod := by decide +kernel
set_option maxRecDepth 65536 in
theorem w_hears : about1.hears theMethod below0 = true := by decide +kernel
set_option maxRecDepth 65536 in
theorem w_ripe : about1.ripe theMethod args0 below0 = true := by decide +kernel
theorem w_running : about1.status = .running := rfl
set_option maxRecDepth 65536 in
theorem w_room : about1.hasRoom e0.platform room_1 = true :=
  launch0.hasRoom_least _ room_1 (by decide +kernel) (by decide +kernel) (by decide +kernel) (by decide +kernel) (by decide +kernel) (by decide +kernel)
theorem allAtoms_all (ts : List Jvm.Cond) (a : Array Jvm.Value) (st : Jvm.State) : (allAtoms ts).before a st = ts.all (fun c => c.before a st) := by
  induction ts with
  | nil => rfl
  | cons c t ih =>
    show (Jvm.Cond.and c (allAtoms t)).before a st = _
    rw [Jvm.Cond.before_and, ih, List.all_cons]
def words1 : List Jvm.Cond := Jvm.Cond.code x code maxLocals ret :: tables_1
/-- a 'code' word, met by the world's own term for the bytes: nothing is compared byte by byte -/
theorem code_word {y : MethodName} {bytes : ByteArray} {mx : Nat} {rt : Option FieldType} {a : Array Value} {s : State} {m : MethodId} {meth : Method} {c : Code} (h1 : s.methodNamed? y = some m) (h2 : s.vm.method? m = some meth) (h3 : meth.code = some c) (h4 : c.code = bytes)
    (h5 : (c.maxLocals == mx && c.exceptionTable.isEmpty && decide (c.maxStack ≤ mostOperands) && decide (meth.sig.returnType = rt) && !meth.locks && decide (parseMethodDescriptor y.desc = some meth.sig)) = true) : (Jvm.Cond.code y bytes mx rt).before a s = true := by
  simp only [Bool.and_eq_true, beq_iff_eq, Bool.not_eq_true', decide_eq_true_eq] at h5
  obtain ⟨⟨⟨⟨⟨g1, g2⟩, g3⟩, g4⟩, g5⟩, g6⟩ := h5
  simp [Cond.before, Cond.holds, Cond.value, h1, h2, h3, h4, g1, g2, g3, g4, g5, g6]
def isCode : Jvm.Cond → Bool
  | .code _ _ _ _ => true
  | _ => false
theorem all_split {L : List Jvm.Cond} {P : Jvm.Cond → Bool} (h1 : L.all (fun c => isCode c || P c) = true) (h2 : ∀ c ∈ L.filter isCode, P c = true) : L.all P = true := by
  refine List.all_eq_true.mpr fun c hc => ?_
  have h := List.all_eq_true.mp h1 c hc
  rcases Bool.eq_false_or_eq_true (isCode c) with hi | hi
  · exact h2 c (List.mem_filter.mpr ⟨hc, hi⟩)
  · simpa [hi] using h
set_option maxRecDepth 65536 in
theorem w_c0 : (Jvm.Cond.code x code maxLocals ret).before args0 about1 = true := code_word (m := ⟨1, 2⟩) (meth := k1m2) (c := k1c2) (by decide +kernel) rfl rfl rfl (by decide +kernel)
set_option maxRecDepth 65536 in
theorem w_c1 : (Jvm.Cond.code ({ cls := "com/example/shiokaze/shiokaze/fix/CheckSumOfPinLaw", name := "term", desc := "([BIII)I" } : Jvm.MethodName) method_2_code (4 : Nat) (Option.some Jvm.ClassFile.FieldType.int)).before args0 about1 = true := code_word (m := ⟨1, 1⟩) (meth := k1m1) (c := k1c1) (by decide +kernel) rfl rfl rfl (by decide +kernel)
set_option maxRecDepth 65536 in
theorem w_c2 : (Jvm.Cond.code ({ cls := "com/example/shiokaze/shiokaze/fix/CheckSum", name := "of", desc := "([BII)I" } : Jvm.MethodName) prog_6_method_2_code (5 : Nat) (Option.some Jvm.ClassFile.FieldType.int)).before args0 about1 = true := code_word (m := ⟨2, 1⟩) (meth := k2m1) (c := k2c1) (by decide +kernel) rfl rfl rfl (by decide +kernel)
def codes1 : List Jvm.Cond := [Jvm.Cond.code x code maxLocals ret, Jvm.Cond.code ({ cls := "com/example/shiokaze/shiokaze/fix/CheckSumOfPinLaw", name := "term", desc := "([BIII)I" } : Jvm.MethodName) method_2_code (4 : Nat) (Option.some Jvm.ClassFile.FieldType.int), Jvm.Cond.code ({ cls := "com/example/shiokaze/shiokaze/fix/CheckSum", name := "of", desc := "([BII)I" } : Jvm.MethodName) prog_6_method_2_code (5 : Nat) (Option.some Jvm.ClassFile.FieldType.int)]
set_option maxRecDepth 65536 in
theorem codes_eq : words1.filter isCode = codes1 := rfl
theorem w_codes : ∀ c ∈ words1.filter isCode, c.before args0 about1 = true := by
  rw [codes_eq]
  intro c hc
  simp only [codes1, List.mem_cons, List.not_mem_nil, or_false] at hc
  rcases hc with rfl | rfl | rfl
  · exact w_c0
  · exact w_c1
  · exact w_c2
set_option maxRecDepth 65536 in
theorem w_t1 : words1.all (fun c => isCode c || c.before args0 about1) = true := by decide +kernel
theorem w_tables : (allAtoms (Jvm.Cond.code x code maxLocals ret :: tables_1)).before args0 about1 = true := by
  rw [allAtoms_all]
  show words1.all (fun c => c.before args0 about1) = true
  refine all_split ?_ w_codes
  rw [w_t1]
set_option maxRecDepth 65536 in
theorem w_case : (Jvm.Cond.and given_1 narrow_1).before args0 about1 = true := by decide +kernel
theorem w_applies : (headSpec (Jvm.Cond.code x code maxLocals ret :: tables_1) room_1).applies x e0.platform about1 = true :=
  (Spec.applies_iff w_frames).mpr ⟨w_running, w_runnable, w_alone, w_named, w_hears, w_ripe, w_room, w_tables⟩
theorem atStart : AtStart classFile x code maxLocals ret World_1 tables_1 room_1 Calls_1 rest_1 Pre_1 launch0 p0 e0 about1 theMethod args0 below0 :=
  ⟨lists_1, trivial, launch0.admits_env _ _ _, launch0.least_env, fairChoices_fair.cas, fairChoices_fair.clock, w_frames, w_args, w_heap, w_applies, trivial, trivial, w_case⟩
end start1
theorem witness_1 : WitnessClaimed_1 := ⟨start1.p0, start1.e0, start1.about1, start1.theMethod, start1.args0, start1.below0, start1.atStart⟩
end Jvm.Pilot.@@N@@
