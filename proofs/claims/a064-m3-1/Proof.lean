import JvmDerived
import JvmDerived.Pilot.@@N@@Statement
import JvmDerived.Pilot.@@N@@Code
set_option linter.unusedVariables false
set_option linter.unusedSimpArgs false
namespace Jvm.RoadKit
open Sem ClassFile Op Lib Jvm.Stand Jvm.Free Jvm.LawKit
section New
variable {p : Program} {l : Launch} {e : Env} {R : Room} {s : State} {m : MethodId} {args : Array Value} {below : List Frame} {meth : Method} {c : Code} {T : State} {locs : List Loc} {cells slots : Nat}
theorem retI (X : Stand p l e R s m args below meth c T locs cells slots) (hx : p.tables.exec = Jvm.exec) {pc : Nat} {Ls : Array Slot} {z : Int32} {rest : List Value} (hret : meth.sig.returnType = some .int) (hd : decode c.code pc = .ok (.ireturn, 1)) {fs : List Frame}
    (hl : ∀ (f : JFrame) (acts : List Action), f.method = m → f.locked = none → f.entered = [] → (doReturn e (T.setTop f) acts (some (.int z))).1 = T.setFrames fs) : Steps p.tables e below (T.setTop (mkF m pc Ls (.int z :: rest))) (T.setFrames fs) := by
  have hm' : T.vm.method? m = some meth := X.method'
  have hn : narrow .int (.int z) = .int z := rfl
  show Steps p.tables e below (T.setTop { method := m, pc := pc, locals := Ls, stack := _ :: rest, locked := none }) _
  jvm_step X.here [X.here.top, hx, hd, hm', hret, hn]
  first | (intro acts; rw [hl _ acts rfl rfl rfl]) | rw [hl _ _ rfl rfl rfl]
  exact Steps.refl _
theorem own_nm0 {a : Addr} : a ∉ ([] : List Addr) := List.not_mem_nil
theorem own_nmc {a w : Addr} {ws : List Addr} (h : a ≠ w) (r : a ∉ ws) : a ∉ w :: ws := fun q => (List.mem_cons.mp q).elim h r
theorem own_wm0 {P : Addr → Prop} : ∀ x ∈ ([] : List Addr), P x := fun _ q => nomatch q
theorem own_wmc {P : Addr → Prop} {w : Addr} {ws : List Addr} (h : P w) (r : ∀ x ∈ ws, P x) : ∀ x ∈ w :: ws, P x := fun x q => (List.mem_cons.mp q).elim (fun z => z ▸ h) (r x)
end New
end Jvm.RoadKit
namespace Jvm.OwnFP
open Jvm.FP Jvm.Free.Fl Sem ClassFile Op
/-- the double's value in units of 2 ^ -1074 -/
def zv (x : UInt64) : Int := Core.zval Core.b64 (Core.val64 x)
def zm (x : UInt64) : Nat := Core.zmag Core.b64 (Core.val64 x)
theorem nn {x : UInt64} (h : NoNaN64 x) : Core.val64 x ≠ .nan := (Core.notNaN_iff x).mp (noNaN64_no.mp h)
theorem nnF {x : UInt64} (h : Fin64 x) : NoNaN64 x := h.noNaN
theorem cv {x y : UInt64} (hx : NoNaN64 x) (hy : NoNaN64 y) (o : CmpOp) : cmpValue (FP.dcmp x y) o = if zv x < zv y then -1 else if zv x = zv y then 0 else 1 := by
  have h : FP.dcmp x y = some (compare (zv x) (zv y)) := Core.dcmp_zval (nn hx) (nn hy)
  rw [h, Core.compare_ite]
  by_cases h1 : zv x < zv y
  · rw [if_pos h1, if_pos h1]; cases o <;> rfl
  · rw [if_neg h1, if_neg h1]
    by_cases h2 : zv x = zv y
    · rw [if_pos h2, if_pos h2]; cases o <;> rfl
    · rw [if_neg h2, if_neg h2]; cases o <;> rfl
theorem cv_lt {x y : UInt64} (hx : NoNaN64 x) (hy : NoNaN64 y) (h : zv x < zv y) (o : CmpOp) : cmpValue (FP.dcmp x y) o = -1 := by rw [cv hx hy, if_pos h]
theorem cv_eq {x y : UInt64} (hx : NoNaN64 x) (hy : NoNaN64 y) (h : zv x = zv y) (o : CmpOp) : cmpValue (FP.dcmp x y) o = 0 := by rw [cv hx hy, if_neg (by omega), if_pos h]
theorem cv_gt {x y : UInt64} (hx : NoNaN64 x) (hy : NoNaN64 y) (h : zv y < zv x) (o : CmpOp) : cmpValue (FP.dcmp x y) o = 1 := by rw [cv hx hy, if_neg (by omega), if_neg (by omega)]
theorem cv_ge {x y : UInt64} (hx : NoNaN64 x) (hy : NoNaN64 y) (h : zv y ≤ zv x) (o : CmpOp) : ¬ cmpValue (FP.dcmp x y) o < 0 := by
  rw [cv hx hy, if_neg (by omega)]; split <;> decide
theorem cv_le {x y : UInt64} (hx : NoNaN64 x) (hy : NoNaN64 y) (h : zv x ≤ zv y) (o : CmpOp) : ¬ 0 < cmpValue (FP.dcmp x y) o := by
  rw [cv hx hy]; split
  · decide
  · rw [if_pos (by omega)]; decide
theorem sh {x : UInt64} (h : Fin64 x) : ∃ s c q, Core.val64 x = .fin s c q := fin64_core.mp h
theorem zv_dint {i : Int} {x : UInt64} (h : Core.DInt i x) : zv x = i * (Core.one64 : Int) := Core.DInt_zval h
theorem zv_zero : zv 0 = 0 := Core.zval64_zero
theorem fin_zero : Fin64 0 := by unfold Fin64; decide
theorem fin_one : Fin64 4607182418800017408 := by unfold Fin64; decide
theorem one_pos : (0 : Int) < (Core.one64 : Int) := by have := Core.one64_pos; omega
theorem zv_sgn (x : UInt64) : zv x = Core.signed (Core.sgn (Core.val64 x)) (zm x) := rfl
theorem zm_abs (x : UInt64) : (zv x).natAbs = zm x := by rw [zv_sgn, Core.natAbs_signed]
theorem add_le {x y v : UInt64} (hx : Fin64 x) (hy : Fin64 y) (hv : NoNaN64 v) (h : zv x + zv y ≤ zv v) : zv (FP.dadd x y) ≤ zv v := by
  show Core.zval Core.b64 (Core.val64 (Core.dadd x y)) ≤ _
  rw [Core.val64_dadd]
  exact Core.sum_le Core.good_b64 (sh hx) (sh hy) (Core.val64_fits x) (Core.val64_fits y) (Core.val64_fits v) (nn hv) h
theorem add_ge {x y v : UInt64} (hx : Fin64 x) (hy : Fin64 y) (hv : NoNaN64 v) (h : zv v ≤ zv x + zv y) : zv v ≤ zv (FP.dadd x y) := by
  show _ ≤ Core.zval Core.b64 (Core.val64 (Core.dadd x y))
  rw [Core.val64_dadd]
  exact Core.sum_ge Core.good_b64 (sh hx) (sh hy) (Core.val64_fits x) (Core.val64_fits y) (Core.val64_fits v) (nn hv) h
theorem shn {x : UInt64} (h : Fin64 x) : ∃ s c q, Core.negate (Core.val64 x) = .fin s c q := by
  obtain ⟨s, c, q, e⟩ := sh h; exact ⟨!s, c, q, by rw [e]; rfl⟩
theorem sub_le {x y v : UInt64} (hx : Fin64 x) (hy : Fin64 y) (hv : NoNaN64 v) (h : zv x - zv y ≤ zv v) : zv (FP.dsub x y) ≤ zv v := by
  show Core.zval Core.b64 (Core.val64 (Core.dsub x y)) ≤ _
  rw [Core.val64_dsub]
  exact Core.sum_le Core.good_b64 (sh hx) (shn hy) (Core.val64_fits x) (Core.negate_fits (Core.val64_fits y)) (Core.val64_fits v) (nn hv) (by rw [Core.zval_negate]; exact h)
theorem sub_ge {x y v : UInt64} (hx : Fin64 x) (hy : Fin64 y) (hv : NoNaN64 v) (h : zv v ≤ zv x - zv y) : zv v ≤ zv (FP.dsub x y) := by
  show _ ≤ Core.zval Core.b64 (Core.val64 (Core.dsub x y))
  rw [Core.val64_dsub]
  exact Core.sum_ge Core.good_b64 (sh hx) (shn hy) (Core.val64_fits x) (Core.negate_fits (Core.val64_fits y)) (Core.val64_fits v) (nn hv) (by rw [Core.zval_negate]; exact h)
/-- no NaN and no greater than something finite: finite -/
theorem fin_of {x v : UInt64} (hx : NoNaN64 x) (hv : Fin64 v) (h : zm x ≤ zm v) : Fin64 x := by
  refine fin64_core.mpr ?_
  have h1 : Core.zmag Core.b64 (Core.val64 v) < _ := (fin64_core.mp hv).zval_lt
  have h2 := nn hx
  unfold zm at h
  cases e : Core.val64 x with
  | nan => exact absurd e h2
  | inf s => rw [e] at h; exact absurd (Nat.lt_of_le_of_lt h h1) (Nat.lt_irrefl _)
  | fin s c q => exact ⟨s, c, q, e⟩
/-- 2 ^ -k in those units -/
def U (k : Nat) : Int := ((2 ^ (1074 - k) : Nat) : Int)
theorem U_pos (k : Nat) : 0 < U k := by unfold U; have := Nat.two_pow_pos (1074 - k); omega
theorem U_zero : U 0 = (Core.one64 : Int) := rfl
theorem U_add {k j : Nat} (h : k + j ≤ 1074) : U k = ((2 ^ j : Nat) : Int) * U (k + j) := by
  unfold U
  rw [← Int.natCast_mul, ← Nat.pow_add, show j + (1074 - (k + j)) = 1074 - k by omega]
/-- x is i / 2 ^ k, exactly -/
def Is (x : UInt64) (i : Int) (k : Nat) : Prop := Fin64 x ∧ zv x = i * U k
theorem signed_abs (i : Int) : Core.signed (decide (i < 0)) i.natAbs = i := by
  unfold Core.signed
  by_cases h : i < 0
  · simp [h]; omega
  · simp [h]; omega
theorem repr (i : Int) (k : Nat) (hk : k ≤ 1074) (hi : i.natAbs < 2 ^ 53) : ∃ v : UInt64, Is v i k := by
  obtain ⟨c', q', h1, h2⟩ := Core.round_exact Core.good_b64 (decide (i < 0)) (c := i.natAbs) (q := -(k : Int)) hi (by rw [Core.qmin_b64]; omega) (by show _ ≤ (971 : Int); omega)
  have hf : Core.fits Core.b64 (.fin (decide (i < 0)) c' q') := h1 ▸ Core.round_fits Core.good_b64 _
  have hv := Core.val64_of64 hf
  refine ⟨Core.of64 (.fin (decide (i < 0)) c' q'), fin64_core.mpr ⟨_, _, _, hv⟩, ?_⟩
  unfold zv Core.zval
  rw [hv]
  show Core.signed (decide (i < 0)) (Core.inUnits c' q' Core.b64.qmin) = _
  rw [h2]
  unfold Core.inUnits
  rw [Core.signed_mul, signed_abs, Core.qmin_b64]
  unfold U
  rw [show (-(k : Int) - -1074).toNat = 1074 - k by omega]
theorem is_dint {i : Int} {x : UInt64} (h : Core.DInt i x) (hf : Fin64 x) : Is x i 0 := ⟨hf, by rw [zv_dint h, U_zero]⟩
theorem is_i2d (v : Int32) : Is (FP.i2d v) v.toInt 0 := is_dint (Core.i2d_int v) (i2d_fin v)
theorem is_l2d {v : Int64} (h : v.toInt.natAbs ≤ 2 ^ 53) : Is (FP.l2d v) v.toInt 0 := is_dint (Core.l2d_int h) (l2d_fin v)
theorem is_zero (k : Nat) : Is 0 0 k := ⟨fin_zero, by rw [zv_zero, Int.zero_mul]⟩
theorem is_one : Is 4607182418800017408 1 0 := is_dint Core.dint_one fin_one
theorem Is.nn {x : UInt64} {i : Int} {k : Nat} (h : Is x i k) : NoNaN64 x := h.1.noNaN
theorem Is.up {x : UInt64} {i : Int} {k : Nat} (h : Is x i k) (j : Nat) (hj : k + j ≤ 1074) : Is x (i * ((2 ^ j : Nat) : Int)) (k + j) := ⟨h.1, by rw [h.2, U_add hj, Int.mul_assoc]⟩
theorem is_val {x v : UInt64} {i : Int} {k : Nat} (hn : NoNaN64 x) (hv : Is v i k) (h : zv x = zv v) : Is x i k := ⟨fin_of hn hv.1 (by rw [← zm_abs, ← zm_abs, h]; exact Nat.le_refl _), h.trans hv.2⟩
theorem Is.add {x y : UInt64} {i j : Int} {k : Nat} (hx : Is x i k) (hy : Is y j k) (hk : k ≤ 1074) (h : (i + j).natAbs < 2 ^ 53) : Is (FP.dadd x y) (i + j) k := by
  obtain ⟨v, hv⟩ := repr (i + j) k hk h
  have e : zv x + zv y = zv v := by rw [hx.2, hy.2, hv.2, Int.add_mul]
  exact is_val (dadd_out hx.nn hy.1) hv (Int.le_antisymm (add_le hx.1 hy.1 hv.nn (by omega)) (add_ge hx.1 hy.1 hv.nn (by omega)))
theorem Is.sub {x y : UInt64} {i j : Int} {k : Nat} (hx : Is x i k) (hy : Is y j k) (hk : k ≤ 1074) (h : (i - j).natAbs < 2 ^ 53) : Is (FP.dsub x y) (i - j) k := by
  obtain ⟨v, hv⟩ := repr (i - j) k hk h
  have e : zv x - zv y = zv v := by rw [hx.2, hy.2, hv.2, Int.sub_mul]
  exact is_val (dsub_out hx.nn hy.1) hv (Int.le_antisymm (sub_le hx.1 hy.1 hv.nn (by omega)) (sub_ge hx.1 hy.1 hv.nn (by omega)))
theorem Is.lt_iff {x y : UInt64} {i j : Int} {k : Nat} (hx : Is x i k) (hy : Is y j k) : zv x < zv y ↔ i < j := by
  rw [hx.2, hy.2]; exact Int.mul_lt_mul_right (U_pos k)
theorem Is.eq_iff {x y : UInt64} {i j : Int} {k : Nat} (hx : Is x i k) (hy : Is y j k) : zv x = zv y ↔ i = j := by
  rw [hx.2, hy.2]; exact ⟨fun h => Int.eq_of_mul_eq_mul_right (Int.ne_of_gt (U_pos k)) h, fun h => by rw [h]⟩
theorem Is.cmp {x y : UInt64} {i j : Int} {k : Nat} (hx : Is x i k) (hy : Is y j k) (o : CmpOp) : cmpValue (FP.dcmp x y) o = if i < j then -1 else if i = j then 0 else 1 := by
  rw [cv hx.nn hy.nn]
  simp only [hx.lt_iff hy, hx.eq_iff hy]
/-- a quotient: her magnitude lies on the same side of any double as the true one; her sign is the signs' product -/
theorem div_shape {x y : UInt64} (hx : Fin64 x) (hy : Fin64 y) (hz : zm y ≠ 0) : ∃ (s t : Bool) (c d : Nat) (q r : Int), Core.val64 x = .fin s c q ∧ Core.val64 y = .fin t d r ∧ 0 < d ∧ Core.val64 (FP.ddiv x y) = Core.roundRatio Core.b64 (s != t) c d (q - r) := by
  obtain ⟨s, c, q, e1⟩ := sh hx
  obtain ⟨t, d, r, e2⟩ := sh hy
  have hd : d ≠ 0 := fun h => hz (by unfold zm; rw [e2]; show Core.inUnits d r _ = 0; rw [h]; simp [Core.inUnits])
  refine ⟨s, t, c, d, q, r, e1, e2, by omega, ?_⟩
  have := Core.val64_ddiv x y
  rw [e1, e2] at this
  show Core.val64 (Core.ddiv x y) = _
  rw [this]
  simp [Core.quotient, hd]
theorem units2 (c : Nat) (q r : Int) (hq : -1074 ≤ q) (hr : -1074 ≤ r) : Core.inUnits c (q - r) (-1074 - (r + 1074)) = Core.inUnits c q (-1074) * Core.one64 := by
  unfold Core.inUnits Core.one64
  rw [Nat.mul_assoc, ← Nat.pow_add]
  congr 2
  omega
theorem div_le {x y v : UInt64} (hx : Fin64 x) (hy : Fin64 y) (hz : zm y ≠ 0) (hv : NoNaN64 v) (h : zm x * Core.one64 ≤ zm v * zm y) : zm (FP.ddiv x y) ≤ zm v := by
  obtain ⟨s, t, c, d, q, r, e1, e2, hd, e3⟩ := div_shape hx hy hz
  have f1 := Core.val64_fits x; have f2 := Core.val64_fits y
  rw [e1] at f1; rw [e2] at f2
  have q1 := f1.2.1; have r1 := f2.2.1
  rw [Core.qmin_b64] at q1 r1
  unfold zm at h ⊢
  rw [e3]
  rw [e1, e2] at h
  refine Core.zmag_roundRatio_le Core.good_b64 hd (Core.val64_fits v) (nn hv) (e0 := -1074 - (r + 1074)) (by rw [Core.qmin_b64]; omega) (by omega) ?_
  rw [units2 c q r q1 r1, Core.qmin_b64, show (-1074 - (-1074 - (r + 1074))).toNat = (r + 1074).toNat by omega]
  change Core.inUnits c q Core.b64.qmin * _ ≤ _ * Core.inUnits d r Core.b64.qmin at h
  rw [Core.qmin_b64] at h
  refine Nat.le_trans h (Nat.le_of_eq ?_)
  unfold Core.inUnits
  rw [show (r - -1074).toNat = (r + 1074).toNat by omega]
  ac_rfl
theorem div_ge {x y v : UInt64} (hx : Fin64 x) (hy : Fin64 y) (hz : zm y ≠ 0) (h : zm v * zm y ≤ zm x * Core.one64) : zm v ≤ zm (FP.ddiv x y) := by
  obtain ⟨s, t, c, d, q, r, e1, e2, hd, e3⟩ := div_shape hx hy hz
  have f1 := Core.val64_fits x; have f2 := Core.val64_fits y
  rw [e1] at f1; rw [e2] at f2
  have q1 := f1.2.1; have r1 := f2.2.1
  rw [Core.qmin_b64] at q1 r1
  unfold zm at h ⊢
  rw [e3]
  rw [e1, e2] at h
  refine Core.zmag_roundRatio_ge Core.good_b64 hd (Core.val64_fits v) (e0 := -1074 - (r + 1074)) (by rw [Core.qmin_b64]; omega) (by omega) ?_
  rw [units2 c q r q1 r1, Core.qmin_b64, show (-1074 - (-1074 - (r + 1074))).toNat = (r + 1074).toNat by omega]
  change _ * Core.inUnits d r Core.b64.qmin ≤ Core.inUnits c q Core.b64.qmin * _ at h
  rw [Core.qmin_b64] at h
  refine Nat.le_trans (Nat.le_of_eq ?_) h
  unfold Core.inUnits
  rw [show (r - -1074).toNat = (r + 1074).toNat by omega]
  ac_rfl
theorem div_sgn {x y : UInt64} (hx : Fin64 x) (hy : Fin64 y) (hz : zm y ≠ 0) : Core.sgn (Core.val64 (FP.ddiv x y)) = (Core.sgn (Core.val64 x) != Core.sgn (Core.val64 y)) := by
  obtain ⟨s, t, c, d, q, r, e1, e2, hd, e3⟩ := div_shape hx hy hz
  rw [e3, Core.sgn_roundRatio, e1, e2]; rfl
theorem nz_of {y : UInt64} (hy : Fin64 y) (hz : zm y ≠ 0) : Nz64 y := by
  refine nz64_core.mpr fun ⟨s, q, e⟩ => hz ?_
  unfold zm; rw [e]; simp [Core.zmag, Core.inUnits]
theorem div_nn {x y : UInt64} (hx : Fin64 x) (hy : Fin64 y) (hz : zm y ≠ 0) : NoNaN64 (FP.ddiv x y) := ddiv_out hx.noNaN hy (nz_of hy hz)
theorem sgn_pos {x : UInt64} (h : 0 < zv x) : Core.sgn (Core.val64 x) = false := by
  rw [zv_sgn] at h
  cases e : Core.sgn (Core.val64 x)
  · rfl
  · rw [e] at h; simp [Core.signed] at h; omega
theorem zv_of_pos {x : UInt64} (h : Core.sgn (Core.val64 x) = false) : zv x = (zm x : Int) := by rw [zv_sgn, h]; rfl
theorem Is.zm {x : UInt64} {i : Int} {k : Nat} (h : Is x i k) : (OwnFP.zm x : Int) = (i.natAbs : Int) * U k := by
  rw [← zm_abs, h.2, Int.natAbs_mul, Int.natCast_mul, Int.natAbs_of_nonneg (Int.le_of_lt (U_pos k))]
/-- i / 2 ^ j is exact -/
theorem Is.div2 {x y : UInt64} {i : Int} {j : Nat} (hx : Is x i 0) (hy : Is y ((2 ^ j : Nat) : Int) 0) (hj : j ≤ 1074) (hi : i.natAbs < 2 ^ 53) : Is (FP.ddiv x y) i j := by
  obtain ⟨v, hv⟩ := repr i j hj hi
  have p2 := Nat.two_pow_pos j
  have hyz : (OwnFP.zm y : Int) = ((2 ^ j : Nat) : Int) * U 0 := by rw [hy.zm]; simp
  have hz : OwnFP.zm y ≠ 0 := fun h => by
    rw [h] at hyz
    have := Int.mul_pos (Int.natCast_pos.mpr p2) (U_pos 0)
    omega
  have e : OwnFP.zm x * Core.one64 = OwnFP.zm v * OwnFP.zm y := by
    have : ((OwnFP.zm x * Core.one64 : Nat) : Int) = ((OwnFP.zm v * OwnFP.zm y : Nat) : Int) := by
      rw [Int.natCast_mul, Int.natCast_mul, hx.zm, hv.zm, hyz, ← U_zero, U_add (k := 0) (j := j) (by omega), Nat.zero_add]
      ac_rfl
    exact Int.ofNat.inj this
  have em : OwnFP.zm (FP.ddiv x y) = OwnFP.zm v := Nat.le_antisymm (div_le hx.1 hy.1 hz hv.nn (Nat.le_of_eq e)) (div_ge hx.1 hy.1 hz (Nat.le_of_eq e.symm))
  have sy : Core.sgn (Core.val64 y) = false := sgn_pos (by rw [hy.2]; exact Int.mul_pos (Int.natCast_pos.mpr p2) (U_pos 0))
  refine ⟨fin_of (div_nn hx.1 hy.1 hz) hv.1 (Nat.le_of_eq em), ?_⟩
  rw [zv_sgn, div_sgn hx.1 hy.1 hz, sy, em]
  by_cases h0 : i = 0
  · have : OwnFP.zm v = 0 := by have := hv.zm; rw [h0] at this; simp at this; exact this
    rw [this, h0]; simp [Core.signed_zero]
  · have ex : Core.signed (Core.sgn (Core.val64 x)) (OwnFP.zm x) = i * U 0 := hx.2
    have hz2 := hv.zm
    have hzx := hx.zm
    have u0 := U_pos 0; have uj := U_pos j
    cases e : Core.sgn (Core.val64 x)
    · rw [e] at ex
      have : 0 < i := by
        have h1 : (0 : Int) ≤ i * U 0 := by rw [← ex]; simp [Core.signed]
        have h2 : 0 ≤ i := Int.not_lt.mp fun q => by have := Int.mul_neg_of_neg_of_pos q u0; omega
        omega
      show ((OwnFP.zm v : Nat) : Int) = _
      rw [hz2, show ((i.natAbs : Nat) : Int) = i by omega]
    · rw [e] at ex
      have : i < 0 := by
        have h1 : i * U 0 ≤ 0 := by rw [← ex]; simp [Core.signed]
        have h2 : i ≤ 0 := Int.not_lt.mp fun q => by have := Int.mul_pos q u0; omega
        omega
      show -((OwnFP.zm v : Nat) : Int) = _
      rw [hz2, show ((i.natAbs : Nat) : Int) = -i by omega, Int.neg_mul, Int.neg_neg]
theorem abs_le_max {x : UInt64} (h : Fin64 x) : ¬ (0 : Int32) < cmpValue (FP.dcmp (x &&& 0x7fffffffffffffff) (9218868437227405311 : UInt64)) .g := by
  rcases (Core.le_max (noNaN64_no.mp h.noNaN)).mpr (fin64_core.mp h) with q | q
  · rw [show FP.dcmp (x &&& 0x7fffffffffffffff) (9218868437227405311 : UInt64) = some .lt from q]; decide
  · rw [show FP.dcmp (x &&& 0x7fffffffffffffff) (9218868437227405311 : UInt64) = some .eq from q]; decide
/-- equal numbers over one divisor: equal numbers -/
theorem div_congr {x x' y : UInt64} (hx : Fin64 x) (hx' : Fin64 x') (h : zv x = zv x') (hy : Fin64 y) (hz : OwnFP.zm y ≠ 0) : zv (FP.ddiv x y) = zv (FP.ddiv x' y) := by
  by_cases h0 : zv x' = 0
  · have e1 : OwnFP.zm x = 0 := by rw [← zm_abs, h, h0]; rfl
    have e2 : OwnFP.zm x' = 0 := by rw [← zm_abs, h0]; rfl
    have z0 : OwnFP.zm 0 = 0 := by rw [← zm_abs, zv_zero]; rfl
    have d1 := div_le (v := 0) hx hy hz fin_zero.noNaN (by rw [e1]; simp)
    have d2 := div_le (v := 0) hx' hy hz fin_zero.noNaN (by rw [e2]; simp)
    rw [z0] at d1 d2
    rw [zv_sgn, zv_sgn, Nat.le_zero.mp d1, Nat.le_zero.mp d2, Core.signed_zero, Core.signed_zero]
  · have : x = x' := by
      refine Core.eq_bits (fun hz' => h0 hz'.zval) ?_
      have q : Core.dcmp x x' = some (compare (zv x) (zv x')) := Core.dcmp_zval (nn hx.noNaN) (nn hx'.noNaN)
      rw [q, h, Core.compare_self_int]
    rw [this]
end Jvm.OwnFP
namespace Jvm.Pilot.@@N@@
open Jvm Jvm.ClassFile Sem Op Lib Jvm.Free Jvm.Stand Jvm.LawKit Jvm.RoadKit Bundle Jvm.Pilot.@@N@@.Jvm.D
open Jvm.Free.Fl (NoNaN64 Fin64 Nz64)
theorem own_n (q : Int64) : 0 ≤ (q &&& (9223372036854775807 : Int64)).toInt := by
  rw [c_maskL q 9223372036854775807 63 (by decide) (by decide)]
  exact Int.emod_nonneg _ (by decide)
theorem own_k (p : Int32) : 0 < ((p &&& (65535 : Int32)) + (1 : Int32)).toInt := by
  have h := c_mask p 65535 16 (by decide) (by decide)
  have h2 := c_iadd (p &&& 65535) 1
  have h3 := rng32 ((p &&& (65535 : Int32)) + (1 : Int32))
  rw [h] at h2
  have : (1 : Int32).toInt = 1 := rfl
  omega
theorem own_kz {k : Int32} (h : 0 < k.toInt) : OwnFP.zm (FP.i2d k) ≠ 0 := fun q => by
  have e := (OwnFP.is_i2d k).zm
  rw [q] at e
  have := Int.mul_pos (a := (k.toInt.natAbs : Int)) (by omega) (OwnFP.U_pos 0)
  omega
theorem own_a {n : Int64} {k : Int32} (hn : 0 ≤ n.toInt) (hk : 0 < k.toInt) : Fin64 (FP.ddiv (FP.l2d n) (FP.i2d k)) ∧ 0 ≤ OwnFP.zv (FP.ddiv (FP.l2d n) (FP.i2d k)) := by
  have hz := own_kz hk
  have fx := Fl.l2d_fin n
  have fy := Fl.i2d_fin k
  have k1 : 1 ≤ OwnFP.zm (FP.i2d k) := by omega
  refine ⟨OwnFP.fin_of (OwnFP.div_nn fx fy hz) fx (OwnFP.div_le fx fy hz fx.noNaN ?_), ?_⟩
  · refine Nat.mul_le_mul (Nat.le_refl _) ?_
    have e := (OwnFP.is_i2d k).zm
    rw [OwnFP.U_zero] at e
    have : (1 : Int) * (FP.Core.one64 : Int) ≤ (k.toInt.natAbs : Int) * (FP.Core.one64 : Int) := Int.mul_le_mul_of_nonneg_right (by omega) (by omega)
    omega
  · obtain ⟨c, q, e⟩ := FP.Core.l2d_shape n
    have s1 : FP.Core.sgn (FP.Core.val64 (FP.l2d n)) = false := by
      show FP.Core.sgn (FP.Core.val64 (FP.Core.l2d n)) = false
      rw [e]; show decide (n.toInt < 0) = false
      simp; omega
    have s2 : FP.Core.sgn (FP.Core.val64 (FP.i2d k)) = false := OwnFP.sgn_pos (by rw [(OwnFP.is_i2d k).2]; exact Int.mul_pos hk (OwnFP.U_pos 0))
    rw [OwnFP.zv_of_pos (by rw [OwnFP.div_sgn fx fy hz, s1, s2]; rfl)]
    omega
theorem ef_1 (m : MethodId) (d1 : UInt64) : entryFrame m #[(.double d1)] 2 = mkF m 0 #[.val (.double d1), .second] [] := by first | (simp [entryFrame, mkF, argsToLocals, Value.category]; done) | rfl
theorem d1_0 : decode prog_47_method_2_code 0 = .ok (.dload_n 0, 1) := by decide +kernel
theorem d1_1 : decode prog_47_method_2_code 1 = .ok (.dconst 0, 1) := by decide +kernel
theorem d1_2 : decode prog_47_method_2_code 2 = .ok (.dcmp .l, 1) := by decide +kernel
theorem d1_3 : decode prog_47_method_2_code 3 = .ok (.ifCond .lt 11, 3) := by decide +kernel
theorem d1_6 : decode prog_47_method_2_code 6 = .ok (.dload_n 0, 1) := by decide +kernel
theorem d1_7 : decode prog_47_method_2_code 7 = .ok (.ldc2_w 49, 3) := by decide +kernel
theorem d1_10 : decode prog_47_method_2_code 10 = .ok (.dcmp .g, 1) := by decide +kernel
theorem d1_11 : decode prog_47_method_2_code 11 = .ok (.ifCond .lt 17, 3) := by decide +kernel
theorem d1_28 : decode prog_47_method_2_code 28 = .ok (.dload_n 0, 1) := by decide +kernel
theorem d1_29 : decode prog_47_method_2_code 29 = .ok (.dreturn, 1) := by decide +kernel
theorem pn_com_example_libfolk_libfolk_ranking_FrequencyCombination : plainName "com/example/libfolk/libfolk/ranking/FrequencyCombination" = true := by first | (simp [plainName, overriddenIn]; done) | decide +kernel
def Q1 (Z : State) (d1 : UInt64) (h0 : Heap) (n0 : Nat) (v : Option Value) (h : Heap) (L : List Loc) : Prop := v = some (.double d1) ∧ Fr n0 L ∧ h = h0
set_option maxRecDepth 65536 in
set_option maxHeartbeats 40000000 in
theorem rm1 (l : Launch) (Z : State) (a0 : Array Value) (hw : ∀ d ∈ tables_1, d.before a0 Z = true) (ws : List Jvm.Cond) (d1 : UInt64) (h0 : Heap) (n0 : Nat) (Z0 : n0 ≤ h0.size) (h1 : ¬ (cmpValue (FP.dcmp d1 (0 : UInt64)) .l < (0 : Int32))) (h2 : cmpValue (FP.dcmp d1 (9218868437227405312 : UInt64)) .g < (0 : Int32)) :
    MetFree l (⟨"com/example/libfolk/libfolk/ranking/FrequencyCombination", "checkAlpha", "(D)D"⟩ : MethodName) (head1 (Jvm.Cond.code (⟨"com/example/libfolk/libfolk/ranking/FrequencyCombination", "checkAlpha", "(D)D"⟩ : MethodName) prog_47_method_2_code 2 (some .double) :: ws) ({ frames := 0, cells := 0, slots := 0, locals := 0 } : Room)) (fun a U => a = #[(.double d1)] ∧ Z.Warmed39 U.vm ∧ U.heap = h0) (fun _ _ _ _ _ => True) (fun _ U o U' => ∃ v L, o = .returned v ∧ Q1 Z d1 h0 n0 v U'.heap L ∧ FrameEnd U o U' L ({ frames := 0, cells := 0, slots := 0, locals := 0 } : Room).cells ({ frames := 0, cells := 0, slots := 0, locals := 0 } : Room).slots) := by
  refine MetFree.of_bodySF (plainFor_of_name pn_com_example_libfolk_libfolk_ranking_FrequencyCombination) hisR ?_
  intro p e s m args below meth c s₁ Bd hml0 hP hK
  obtain ⟨rfl, hZ, hh⟩ := hP
  have hx := Bd.exec
  have hby := Bd.bytes
  have hml : c.maxLocals = 2 := hml0
  have hown : s.vm.findClass "com/example/libfolk/libfolk/ranking/FrequencyCombination" = some m.cls := findClass_of_methodNamed Bd.named
  have hnm := (name_of_methodNamed Bd.named Bd.method).1
  have X0 : Stand p l e ({ frames := 0, cells := 0, slots := 0, locals := 0 } : Room) s m #[(.double d1)] below meth c s₁ [] 0 0 := Stand.of_body Bd
  have e0 : s₁.heap = h0 := by rw [← hh, Bd.state]; rfl
  have N0 := Fr.nil n0
  have pre0 : ∀ t, Steps p.tables e below (s₁.setTop (mkF m 0 #[.val (.double d1), .second] [])) t → Steps p.tables e below (s₁.setTop (entryFrame m #[(.double d1)] 2)) t := fun t k => castTop (ef_1 m d1) k
  have pre1 : ∀ t, Steps p.tables e below (s₁.setTop (mkF m 29 #[.val (.double d1), .second] [(.double d1)])) t → Steps p.tables e below (s₁.setTop (entryFrame m #[(.double d1)] 2)) t := fun t kt => pre0 t (by
      show Steps p.tables e below (s₁.setTop (mkF m 0 #[.val (.double d1), .second] [])) _
      refine XS.dloadN X0.here hx rfl (hb hby d1_0) rfl ?_
      show Steps p.tables e below (s₁.setTop (mkF m 1 #[.val (.double d1), .second] [(.double d1)])) _
      refine XS.dconst0 X0.here hx rfl (hb hby d1_1) (v := (0 : UInt64)) rfl ?_
      show Steps p.tables e below (s₁.setTop (mkF m 2 #[.val (.double d1), .second] [(.double (0 : UInt64)), (.double d1)])) _
      refine XS.dcmpS X0.here hx rfl (hb hby d1_2) rfl (v := (cmpValue (FP.dcmp d1 (0 : UInt64)) .l)) rfl ?_
      show Steps p.tables e below (s₁.setTop (mkF m 3 #[.val (.double d1), .second] [(.int (cmpValue (FP.dcmp d1 (0 : UInt64)) .l))])) _
      refine XS.ifNo X0.here hx rfl (hb hby d1_3) rfl ((if0 _ _).trans (flt (h1 : ¬ ((cmpValue (FP.dcmp d1 (0 : UInt64)) .l) < (0 : Int32)))).1) ?_
      show Steps p.tables e below (s₁.setTop (mkF m 6 #[.val (.double d1), .second] [])) _
      refine XS.dloadN X0.here hx rfl (hb hby d1_6) rfl ?_
      show Steps p.tables e below (s₁.setTop (mkF m 7 #[.val (.double d1), .second] [(.double d1)])) _
      refine X0.ldc2DoubleC hx hown (mvT hZ (hw _ (List.mem_of_getElem? (i := 6) rfl))) (g := (mkF m 7 #[.val (.double d1), .second] [(.double d1)])) rfl (hb hby d1_7) _ ?_
      show Steps p.tables e below (s₁.setTop (mkF m 10 #[.val (.double d1), .second] [(.double (9218868437227405312 : UInt64)), (.double d1)])) _
      refine XS.dcmpS X0.here hx rfl (hb hby d1_10) rfl (v := (cmpValue (FP.dcmp d1 (9218868437227405312 : UInt64)) .g)) rfl ?_
      show Steps p.tables e below (s₁.setTop (mkF m 11 #[.val (.double d1), .second] [(.int (cmpValue (FP.dcmp d1 (9218868437227405312 : UInt64)) .g))])) _
      refine XS.ifYes X0.here hx rfl (pc0 := 11) (pc' := 28) rfl (hb hby d1_11) rfl ((if0 _ _).trans (tlt (h2 : (cmpValue (FP.dcmp d1 (9218868437227405312 : UInt64)) .g) < (0 : Int32))).1) (by decide) (by decide) ?_
      show Steps p.tables e below (s₁.setTop (mkF m 28 #[.val (.double d1), .second] [])) _
      refine XS.dloadN X0.here hx rfl (hb hby d1_28) rfl ?_
      exact kt)
  obtain ⟨fs, hr, hrun, hended, hW, hsame⟩ := X0.leave (v := some (.double d1)) (fun h => by rw [Bd.returns] at h; cases h)
  refine ⟨_, _, pre1 _ ?_, hrun, hended, _, _, rfl, ?_, ⟨_, rfl⟩, hW, hsame.mono (by decide) (by decide)⟩
  · show Steps p.tables e below (s₁.setTop (mkF m 29 #[.val (.double d1), .second] [(.double d1)])) _
    jvm_step X0.here [X0.here.top, hx, (hb hby d1_29), X0.method', Bd.returns, narrow]
    first | (intro acts; rw [hr _ acts rfl rfl rfl]) | rw [hr _ _ rfl rfl rfl]
    exact Steps.refl _
  · show Q1 Z d1 h0 n0 _ s₁.heap _
    rw [e0]
    exact ⟨rfl, N0, rfl⟩
theorem ef_0 (m : MethodId) (q1 : Int64) (p1 : Int32) : entryFrame m #[(.long q1), (.int p1)] maxLocals = mkF m 0 #[.val (.long q1), .second, .val (.int p1), .unset, .unset, .unset, .unset] [] := by first | (simp [entryFrame, mkF, argsToLocals, Value.category, maxLocals]; done) | rfl
theorem pd__28D_29D : parseMethodDescriptor "(D)D" = some ⟨[.double], some .double⟩ := by decide +kernel
theorem pn_com_example_libfolk_libfolk_ranking_FrequencyCombinationCheckAlphaPinLaw : plainName "com/example/libfolk/libfolk/ranking/FrequencyCombinationCheckAlphaPinLaw" = true := by first | (simp [plainName, overriddenIn]; done) | decide +kernel
def Q0 (Z : State) (q1 : Int64) (p1 : Int32) (h0 : Heap) (n0 : Nat) (v : Option Value) (h : Heap) (L : List Loc) : Prop := v = some (.int (1 : Int32)) ∧ Fr n0 L
set_option maxRecDepth 65536 in
set_option maxHeartbeats 40000000 in
theorem rm0 (l : Launch) (Z : State) (a0 : Array Value) (hw : ∀ d ∈ tables_1, d.before a0 Z = true) (ws : List Jvm.Cond) (q1 : Int64) (p1 : Int32) (h0 : Heap) (n0 : Nat) (Z0 : n0 ≤ h0.size) :
    MetFree l x (head1 (Jvm.Cond.code x code maxLocals ret :: ws) room_1) (fun a U => a = #[(.long q1), (.int p1)] ∧ Z.Warmed39 U.vm ∧ U.heap = h0) (fun _ _ _ _ _ => True) (fun _ U o U' => ∃ v L, o = .returned v ∧ Q0 Z q1 p1 h0 n0 v U'.heap L ∧ FrameEnd U o U' L 0 0) := by
  refine MetFree.of_bodySF (plainFor_of_name pn_com_example_libfolk_libfolk_ranking_FrequencyCombinationCheckAlphaPinLaw) hisR ?_
  intro p e s m args below meth c s₁ Bd hml0 hP hK
  obtain ⟨rfl, hZ, hh⟩ := hP
  have hx := Bd.exec
  have hby := Bd.bytes
  have hml : c.maxLocals = 7 := hml0
  have hown : s.vm.findClass "com/example/libfolk/libfolk/ranking/FrequencyCombinationCheckAlphaPinLaw" = some m.cls := findClass_of_methodNamed Bd.named
  have hnm := (name_of_methodNamed Bd.named Bd.method).1
  have X0 : Stand p l e room_1 s m #[(.long q1), (.int p1)] below meth c s₁ [] 0 0 := Stand.of_body Bd
  have e0 : s₁.heap = h0 := by rw [← hh, Bd.state]; rfl
  have N0 := Fr.nil n0
  have pre0 : ∀ t, Steps p.tables e below (s₁.setTop (mkF m 0 #[.val (.long q1), .second, .val (.int p1), .unset, .unset, .unset, .unset] [])) t → Steps p.tables e below (s₁.setTop (entryFrame m #[(.long q1), (.int p1)] maxLocals)) t := fun t k => castTop (ef_0 m q1 p1) k
  have ha := own_a (own_n q1) (own_k p1)
  obtain ⟨_, _, ⟨T1, L1, kk1, nn1⟩, -, X1, ⟨Lc1, hQ1, l1, y1, z1⟩, st1⟩ := Jvm.LawKit.callS X0 hx (y := (⟨"com/example/libfolk/libfolk/ranking/FrequencyCombination", "checkAlpha", "(D)D"⟩ : MethodName)) hown (mvT hZ (hw _ (List.mem_of_getElem? (i := 2) rfl))) (mvT hZ (hw _ (List.mem_of_getElem? (i := 3) rfl))) (mvT hZ (hw _ (List.mem_of_getElem? (i := 4) rfl))) (mvT hZ (hw _ (List.mem_of_getElem? (i := 5) rfl))) (by decide) (backOf (W := 0) (rm1 l Z a0 hw [] (FP.ddiv (FP.l2d (q1 &&& (9223372036854775807 : Int64))) (FP.i2d ((p1 &&& (65535 : Int32)) + (1 : Int32)))) h0 n0 Z0 (OwnFP.cv_ge ha.1.noNaN OwnFP.fin_zero.noNaN (by rw [OwnFP.zv_zero]; exact ha.2) .l) (by rw [dcmp_pinf ha.1]; decide)) hZ (hw _ (List.mem_of_getElem? (i := 5) rfl)) (hw _ (List.mem_of_getElem? (i := 4) rfl)) (by decide) (by decide)) (g := (mkF m 16 #[.val (.long q1), .second, .val (.int p1), .val (.double (FP.ddiv (FP.l2d (q1 &&& (9223372036854775807 : Int64))) (FP.i2d ((p1 &&& (65535 : Int32)) + (1 : Int32))))), .second, .unset, .unset] [(.double (FP.ddiv (FP.l2d (q1 &&& (9223372036854775807 : Int64))) (FP.i2d ((p1 &&& (65535 : Int32)) + (1 : Int32)))))])) rfl (by rw [hml]; rfl) (argsL := [(.double (FP.ddiv (FP.l2d (q1 &&& (9223372036854775807 : Int64))) (FP.i2d ((p1 &&& (65535 : Int32)) + (1 : Int32)))))]) (rest := []) (lenOf pd__28D_29D rfl) rfl (by show 2 * 0 + _ ≤ _; exact Nat.le_of_eq rfl) (hb hby at_16) (fun _ _ => ⟨rfl, e0, (by decide : 0 + 0 ≤ _), (by decide : 0 + 0 ≤ _)⟩)
  dsimp only [Pt.U, Pt.locs, Pt.cells, Pt.slots] at X1 l1 y1 z1 st1 hQ1
  subst l1 y1 z1
  obtain ⟨rfl, N1q, e1⟩ := hQ1
  have N1 := Fr.app N0 N1q
  have pre2 : ∀ t, Steps p.tables e below (T1.setTop (mkF m 33 #[.val (.long q1), .second, .val (.int p1), .val (.double (FP.ddiv (FP.l2d (q1 &&& (9223372036854775807 : Int64))) (FP.i2d ((p1 &&& (65535 : Int32)) + (1 : Int32))))), .second, .val (.double (FP.ddiv (FP.l2d (q1 &&& (9223372036854775807 : Int64))) (FP.i2d ((p1 &&& (65535 : Int32)) + (1 : Int32))))), .second] [(.int (1 : Int32))])) t → Steps p.tables e below (s₁.setTop (entryFrame m #[(.long q1), (.int p1)] maxLocals)) t := fun t kt => pre0 t (by
      show Steps p.tables e below (s₁.setTop (mkF m 0 #[.val (.long q1), .second, .val (.int p1), .unset, .unset, .unset, .unset] [])) _
      refine XS.lloadN X0.here hx rfl (hb hby at_0) rfl ?_
      show Steps p.tables e below (s₁.setTop (mkF m 1 #[.val (.long q1), .second, .val (.int p1), .unset, .unset, .unset, .unset] [(.long q1)])) _
      refine X0.ldc2Long hx hown (mvT hZ (hw _ (List.mem_of_getElem? (i := 0) rfl))) (g := (mkF m 1 #[.val (.long q1), .second, .val (.int p1), .unset, .unset, .unset, .unset] [(.long q1)])) rfl (hb hby at_1) _ ?_
      show Steps p.tables e below (s₁.setTop (mkF m 4 #[.val (.long q1), .second, .val (.int p1), .unset, .unset, .unset, .unset] [(.long (9223372036854775807 : Int64)), (.long q1)])) _
      refine XS.land X0.here hx rfl (hb hby at_4) rfl ?_
      show Steps p.tables e below (s₁.setTop (mkF m 5 #[.val (.long q1), .second, .val (.int p1), .unset, .unset, .unset, .unset] [(.long (q1 &&& (9223372036854775807 : Int64)))])) _
      refine XS.l2dS X0.here hx rfl (hb hby at_5) rfl (v := (FP.l2d (q1 &&& (9223372036854775807 : Int64)))) rfl ?_
      show Steps p.tables e below (s₁.setTop (mkF m 6 #[.val (.long q1), .second, .val (.int p1), .unset, .unset, .unset, .unset] [(.double (FP.l2d (q1 &&& (9223372036854775807 : Int64))))])) _
      refine XS.iloadN X0.here hx rfl (hb hby at_6) rfl ?_
      show Steps p.tables e below (s₁.setTop (mkF m 7 #[.val (.long q1), .second, .val (.int p1), .unset, .unset, .unset, .unset] [(.int p1), (.double (FP.l2d (q1 &&& (9223372036854775807 : Int64))))])) _
      refine X0.ldcInt hx hown (mvT hZ (hw _ (List.mem_of_getElem? (i := 1) rfl))) (g := (mkF m 7 #[.val (.long q1), .second, .val (.int p1), .unset, .unset, .unset, .unset] [(.int p1), (.double (FP.l2d (q1 &&& (9223372036854775807 : Int64))))])) rfl (hb hby at_7) _ ?_
      show Steps p.tables e below (s₁.setTop (mkF m 9 #[.val (.long q1), .second, .val (.int p1), .unset, .unset, .unset, .unset] [(.int (65535 : Int32)), (.int p1), (.double (FP.l2d (q1 &&& (9223372036854775807 : Int64))))])) _
      refine XS.iand X0.here hx rfl (hb hby at_9) rfl ?_
      show Steps p.tables e below (s₁.setTop (mkF m 10 #[.val (.long q1), .second, .val (.int p1), .unset, .unset, .unset, .unset] [(.int (p1 &&& (65535 : Int32))), (.double (FP.l2d (q1 &&& (9223372036854775807 : Int64))))])) _
      refine XS.iconst X0.here hx rfl (hb hby at_10) ?_
      show Steps p.tables e below (s₁.setTop (mkF m 11 #[.val (.long q1), .second, .val (.int p1), .unset, .unset, .unset, .unset] [(.int (1 : Int32)), (.int (p1 &&& (65535 : Int32))), (.double (FP.l2d (q1 &&& (9223372036854775807 : Int64))))])) _
      refine XS.iadd X0.here hx rfl (hb hby at_11) rfl ?_
      show Steps p.tables e below (s₁.setTop (mkF m 12 #[.val (.long q1), .second, .val (.int p1), .unset, .unset, .unset, .unset] [(.int ((p1 &&& (65535 : Int32)) + (1 : Int32))), (.double (FP.l2d (q1 &&& (9223372036854775807 : Int64))))])) _
      refine XS.i2dS X0.here hx rfl (hb hby at_12) rfl (v := (FP.i2d ((p1 &&& (65535 : Int32)) + (1 : Int32)))) rfl ?_
      show Steps p.tables e below (s₁.setTop (mkF m 13 #[.val (.long q1), .second, .val (.int p1), .unset, .unset, .unset, .unset] [(.double (FP.i2d ((p1 &&& (65535 : Int32)) + (1 : Int32)))), (.double (FP.l2d (q1 &&& (9223372036854775807 : Int64))))])) _
      refine XS.ddivS X0.here hx rfl (hb hby at_13) rfl ha.1.noNaN (v := (FP.ddiv (FP.l2d (q1 &&& (9223372036854775807 : Int64))) (FP.i2d ((p1 &&& (65535 : Int32)) + (1 : Int32))))) rfl ?_
      show Steps p.tables e below (s₁.setTop (mkF m 14 #[.val (.long q1), .second, .val (.int p1), .unset, .unset, .unset, .unset] [(.double (FP.ddiv (FP.l2d (q1 &&& (9223372036854775807 : Int64))) (FP.i2d ((p1 &&& (65535 : Int32)) + (1 : Int32)))))])) _
      refine XS.dstoreN X0.here hx rfl (hb hby at_14) rfl (l' := #[.val (.long q1), .second, .val (.int p1), .val (.double (FP.ddiv (FP.l2d (q1 &&& (9223372036854775807 : Int64))) (FP.i2d ((p1 &&& (65535 : Int32)) + (1 : Int32))))), .second, .unset, .unset]) rfl ?_
      show Steps p.tables e below (s₁.setTop (mkF m 15 #[.val (.long q1), .second, .val (.int p1), .val (.double (FP.ddiv (FP.l2d (q1 &&& (9223372036854775807 : Int64))) (FP.i2d ((p1 &&& (65535 : Int32)) + (1 : Int32))))), .second, .unset, .unset] [])) _
      refine XS.dloadN X0.here hx rfl (hb hby at_15) rfl ?_
      show Steps p.tables e below (s₁.setTop (mkF m 16 #[.val (.long q1), .second, .val (.int p1), .val (.double (FP.ddiv (FP.l2d (q1 &&& (9223372036854775807 : Int64))) (FP.i2d ((p1 &&& (65535 : Int32)) + (1 : Int32))))), .second, .unset, .unset] [(.double (FP.ddiv (FP.l2d (q1 &&& (9223372036854775807 : Int64))) (FP.i2d ((p1 &&& (65535 : Int32)) + (1 : Int32)))))])) _
      refine st1 _ ?_
      show Steps p.tables e below (T1.setTop (mkF m 19 #[.val (.long q1), .second, .val (.int p1), .val (.double (FP.ddiv (FP.l2d (q1 &&& (9223372036854775807 : Int64))) (FP.i2d ((p1 &&& (65535 : Int32)) + (1 : Int32))))), .second, .unset, .unset] [(.double (FP.ddiv (FP.l2d (q1 &&& (9223372036854775807 : Int64))) (FP.i2d ((p1 &&& (65535 : Int32)) + (1 : Int32)))))])) _
      refine XS.dstore X1.here hx rfl (hb hby at_19) rfl (l' := #[.val (.long q1), .second, .val (.int p1), .val (.double (FP.ddiv (FP.l2d (q1 &&& (9223372036854775807 : Int64))) (FP.i2d ((p1 &&& (65535 : Int32)) + (1 : Int32))))), .second, .val (.double (FP.ddiv (FP.l2d (q1 &&& (9223372036854775807 : Int64))) (FP.i2d ((p1 &&& (65535 : Int32)) + (1 : Int32))))), .second]) rfl ?_
      show Steps p.tables e below (T1.setTop (mkF m 21 #[.val (.long q1), .second, .val (.int p1), .val (.double (FP.ddiv (FP.l2d (q1 &&& (9223372036854775807 : Int64))) (FP.i2d ((p1 &&& (65535 : Int32)) + (1 : Int32))))), .second, .val (.double (FP.ddiv (FP.l2d (q1 &&& (9223372036854775807 : Int64))) (FP.i2d ((p1 &&& (65535 : Int32)) + (1 : Int32))))), .second] [])) _
      refine XS.dload X1.here hx rfl (hb hby at_21) rfl ?_
      show Steps p.tables e below (T1.setTop (mkF m 23 #[.val (.long q1), .second, .val (.int p1), .val (.double (FP.ddiv (FP.l2d (q1 &&& (9223372036854775807 : Int64))) (FP.i2d ((p1 &&& (65535 : Int32)) + (1 : Int32))))), .second, .val (.double (FP.ddiv (FP.l2d (q1 &&& (9223372036854775807 : Int64))) (FP.i2d ((p1 &&& (65535 : Int32)) + (1 : Int32))))), .second] [(.double (FP.ddiv (FP.l2d (q1 &&& (9223372036854775807 : Int64))) (FP.i2d ((p1 &&& (65535 : Int32)) + (1 : Int32)))))])) _
      refine XS.dloadN X1.here hx rfl (hb hby at_23) rfl ?_
      show Steps p.tables e below (T1.setTop (mkF m 24 #[.val (.long q1), .second, .val (.int p1), .val (.double (FP.ddiv (FP.l2d (q1 &&& (9223372036854775807 : Int64))) (FP.i2d ((p1 &&& (65535 : Int32)) + (1 : Int32))))), .second, .val (.double (FP.ddiv (FP.l2d (q1 &&& (9223372036854775807 : Int64))) (FP.i2d ((p1 &&& (65535 : Int32)) + (1 : Int32))))), .second] [(.double (FP.ddiv (FP.l2d (q1 &&& (9223372036854775807 : Int64))) (FP.i2d ((p1 &&& (65535 : Int32)) + (1 : Int32))))), (.double (FP.ddiv (FP.l2d (q1 &&& (9223372036854775807 : Int64))) (FP.i2d ((p1 &&& (65535 : Int32)) + (1 : Int32)))))])) _
      refine XS.dcmpS X1.here hx rfl (hb hby at_24) rfl (v := (0 : Int32)) (dcmpV_self ha.1.noNaN .l) ?_
      show Steps p.tables e below (T1.setTop (mkF m 25 #[.val (.long q1), .second, .val (.int p1), .val (.double (FP.ddiv (FP.l2d (q1 &&& (9223372036854775807 : Int64))) (FP.i2d ((p1 &&& (65535 : Int32)) + (1 : Int32))))), .second, .val (.double (FP.ddiv (FP.l2d (q1 &&& (9223372036854775807 : Int64))) (FP.i2d ((p1 &&& (65535 : Int32)) + (1 : Int32))))), .second] [(.int (0 : Int32))])) _
      refine XS.ifNo X1.here hx rfl (hb hby at_25) rfl ((if0 _ _).trans (teq ((by decide) : (0 : Int32) = (0 : Int32))).2) ?_
      show Steps p.tables e below (T1.setTop (mkF m 28 #[.val (.long q1), .second, .val (.int p1), .val (.double (FP.ddiv (FP.l2d (q1 &&& (9223372036854775807 : Int64))) (FP.i2d ((p1 &&& (65535 : Int32)) + (1 : Int32))))), .second, .val (.double (FP.ddiv (FP.l2d (q1 &&& (9223372036854775807 : Int64))) (FP.i2d ((p1 &&& (65535 : Int32)) + (1 : Int32))))), .second] [])) _
      refine XS.iconst X1.here hx rfl (hb hby at_28) ?_
      show Steps p.tables e below (T1.setTop (mkF m 29 #[.val (.long q1), .second, .val (.int p1), .val (.double (FP.ddiv (FP.l2d (q1 &&& (9223372036854775807 : Int64))) (FP.i2d ((p1 &&& (65535 : Int32)) + (1 : Int32))))), .second, .val (.double (FP.ddiv (FP.l2d (q1 &&& (9223372036854775807 : Int64))) (FP.i2d ((p1 &&& (65535 : Int32)) + (1 : Int32))))), .second] [(.int (1 : Int32))])) _
      refine XS.goto X1.here hx rfl (pc0 := 29) (pc' := 33) rfl (hb hby at_29) (by decide) (by decide) ?_
      exact kt)
  obtain ⟨fs, hr, hrun, hended, hW, hsame⟩ := X1.leave (v := some (.int (1 : Int32))) (fun h => by rw [Bd.returns] at h; cases h)
  refine ⟨_, _, pre2 _ ?_, hrun, hended, _, _, rfl, ?_, ⟨_, rfl⟩, hW, hsame.mono (by decide) (by decide)⟩
  · show Steps p.tables e below (T1.setTop (mkF m 33 #[.val (.long q1), .second, .val (.int p1), .val (.double (FP.ddiv (FP.l2d (q1 &&& (9223372036854775807 : Int64))) (FP.i2d ((p1 &&& (65535 : Int32)) + (1 : Int32))))), .second, .val (.double (FP.ddiv (FP.l2d (q1 &&& (9223372036854775807 : Int64))) (FP.i2d ((p1 &&& (65535 : Int32)) + (1 : Int32))))), .second] [(.int (1 : Int32))])) _
    exact retN X1 hx (t := .boolean) Bd.returns (by simp) (hb hby at_33) hr
  · show Q0 Z q1 p1 h0 n0 _ T1.heap _
    rw [e1]
    exact ⟨rfl, N1⟩
set_option maxRecDepth 65536 in
set_option maxHeartbeats 40000000 in
theorem comes_1 {Post : Tables → Env → Array Value → State → Outcome → State → Prop} (hpost : ∀ tb e args s v u, (limb_1_1.after args s (.returned v) u = true ∧ limb_1_2.after args s (.returned v) u = true ∧ True) → FrameEnd s (.returned v) u (Jvm.fieldLocs frame_1_writes args s ++ Jvm.arrayLocs frame_1_arrays args s ++ Jvm.staticLocs frame_1_statics s) 0 0 → Post tb e args s (.returned v) u) :
    ArmFor flags0 classFile x code maxLocals ret World_1 tables_1 room_1 Calls_1 rest_1 Pre_1 Post := by
  intro l hfl _ _ p e ha hc hk s m args below hf hA hF happ hP
  obtain ⟨hcalls, hrest, hpre⟩ := hP
  obtain ⟨-, -, -, hnamed, -, -, -, hat⟩ := (Spec.applies_iff hf).mp happ
  obtain ⟨hg, hn⟩ := and_e (Cond.before_iff.mp (show (Jvm.Cond.and given_1 narrow_1).before args s = true from hpre))
  obtain ⟨g1, g2⟩ := and_e hg
  obtain ⟨g3, g4⟩ := and_e g2
  obtain ⟨w0, w1, rfl⟩ : ∃ w0 w1 : Value, args = #[w0, w1] := by
    have hs : args.size = 2 := by simpa [Cond.value, given_1] using g1
    obtain ⟨L⟩ := args
    match L, hs with
    | [w0, w1], _ => exact ⟨w0, w1, rfl⟩
  have hw := fun d (hd : d ∈ tables_1) => atoms_spec (ws := Jvm.Cond.code x code maxLocals ret :: tables_1) hat d (List.mem_cons_of_mem _ hd)
  have hfit : Fit s := fun {y c} hc i hi => by
    obtain ⟨ha, rfl⟩ := Array.getElem?_eq_some_iff.mp hc
    have q := List.all_eq_true.mp ((Array.all_eq_true_iff_forall_mem.mp hF) _ (Array.getElem_mem ha)) i (List.mem_range.mpr hi)
    simpa [Array.getElem?_eq_getElem hi] using q
  obtain ⟨i0, ei0⟩ := isL_v g3
  obtain rfl : w0 = (.long i0) := Option.some.inj ei0
  obtain ⟨i1, ei1⟩ := is_v g4
  obtain rfl : w1 = (.int i1) := Option.some.inj ei1
  obtain ⟨n, o, h1, h2, h3, _, L, rfl, ⟨rfl, N⟩, hq⟩ := rm0 l s _ hw tables_1 i0 i1 s.heap s.heap.size (Nat.le_refl _)  p e ha hc hk s m _ below hf ((Spec.applies_iff_loose hf).mp happ).1 ⟨rfl, State.Warmed39.refl s, rfl⟩ trivial
  refine ⟨n, _, h1, h2, h3, hpost _ _ _ _ _ _ ⟨Cond.after_iff.mpr rfl, Cond.after_iff.mpr (eq_i res_at (Term.int_eval (1)) rfl), trivial⟩ ⟨hq.1, hq.2.1, (hq.2.2.sift fun y hy => Or.inr (N y hy)).mono (by decide) (by decide)⟩⟩
theorem main_1_1 : Claimed_1_1 := comes_1 fun _ _ _ _ _ _ h hF => ⟨h.1, hF⟩
theorem main_1_2 : Claimed_1_2 := comes_1 fun _ _ _ _ _ _ h hF => ⟨h.2.1, hF⟩
end Jvm.Pilot.@@N@@
namespace Jvm.Pilot.@@N@@
open Jvm Jvm.ClassFile Sem Op Lib Jvm.Free Jvm.Stand Jvm.Pilot.@@N@@.Jvm.D
/-! MADE BY PROGRAM (witnessworld.py) out of the Statement's table words and the real class files: 10 classes; the members and pool entries that the words name. The judged class is class 1, her method 1. -/
namespace start1
open Jvm.ClassFile
def u (s : String) : CpInfo := .utf8 (stringToUtf16 s)
/-- a pool by its gaps: so many unusable entries, then the entry; so many at the end -/
def gap : Nat → List CpInfo → List CpInfo
  | 0, r => r
  | n + 1, r => .unusable :: gap n r
def poolList (es : List (Nat × CpInfo)) (last : Nat) : List CpInfo := es.foldr (fun e r => gap e.1 (e.2 :: r)) (gap last [])
def pool (es : List (Nat × CpInfo)) (last : Nat) : Array CpInfo := ⟨poolList es last⟩
def fileOf (pool : Array CpInfo) (this : Nat) (attrs : Array Attribute := #[]) (ms : Array MethodInfo := #[]) (fl : Nat := 33) (sup : Nat := 0) (ifs : Array Nat := #[]) (fds : Array FieldInfo := #[]) : ClassFile where
  minorVersion := 0
  majorVersion := 65
  constantPool := pool
  accessFlags := fl
  thisClass := this
  superClass := sup
  interfaces := ifs
  fields := fds
  methods := ms
  attributes := attrs
def plain (name : String) (sup : Option ClassId) : Class where
  name := name
  kind := .ordinary
  loader := none
  accessFlags := 33
  super := sup
  interfaces := #[]
  cf := none
  fields := #[]
  methods := #[]
  instanceTypes := #[]
  staticTypes := #[]
  resolved := #[]
  callSites := []
  init := .initialized
  statics := none
  mirror := none

def pool0 : Array CpInfo := pool [(5, u "<init>"), (0, u "()V"), (1, .class_ 10), (1, u "java/lang/Object")] 113

def k0m0 : Method := { name := "<init>", desc := "()V", sig := { parameters := [], returnType := none }, accessFlags := 1, code := none }
/-- java/lang/Object -/
def k0 : Class := { plain "java/lang/Object" none with
  accessFlags := 33
  interfaces := #[]
  cf := some (fileOf pool0 8 #[] #[{ accessFlags := 1, nameIndex := 5, descriptorIndex := 6, attributes := #[] }] 33 0 #[] #[])
  fields := #[]
  methods := #[k0m0]
  instanceTypes := #[]
  staticTypes := #[]
  resolved := Array.replicate 124 none
  statics := none }

def pool1 : Array CpInfo := pool [(2, .class_ 4), (1, u "java/lang/Object"), (0, u "<init>"), (0, u "()V"), (2, .long 9223372036854775807), (1, .integer 65535), (0, .methodref 13 14), (0, .class_ 15), (0, .nameAndType 16 17), (0, u "com/example/libfolk/libfolk/ranking/FrequencyCombination"), (0, u "checkAlpha"), (0, u "(D)D"), (0, .class_ 19), (0, u "com/example/libfolk/libfolk/ranking/FrequencyCombinationCheckAlphaPinLaw"), (2, u "law"), (0, u "(JI)Z")] 3

def k1m0 : Method := { name := "<init>", desc := "()V", sig := { parameters := [], returnType := none }, accessFlags := 2, code := none }
def k1c1 : Code := { maxStack := 4, maxLocals := 7, code := code, exceptionTable := #[], attributes := #[] }
def k1m1 : Method := { name := "law", desc := "(JI)Z", sig := { parameters := [.long, .int], returnType := some .boolean }, accessFlags := 9, code := some k1c1 }
/-- com/example/libfolk/libfolk/ranking/FrequencyCombinationCheckAlphaPinLaw -/
def k1 : Class := { plain "com/example/libfolk/libfolk/ranking/FrequencyCombinationCheckAlphaPinLaw" (some 0) with
  accessFlags := 49
  interfaces := #[]
  cf := some (fileOf pool1 18 #[] #[{ accessFlags := 2, nameIndex := 5, descriptorIndex := 6, attributes := #[] }, { accessFlags := 9, nameIndex := 22, descriptorIndex := 23, attributes := #[] }] 49 2 #[] #[])
  fields := #[]
  methods := #[k1m0, k1m1]
  instanceTypes := #[]
  staticTypes := #[]
  resolved := Array.replicate 27 none
  statics := none }

def pool2 : Array CpInfo := pool [(1, .class_ 2), (0, u "com/example/libfolk/libfolk/ranking/RankingModel"), (0, .class_ 4), (0, u "java/lang/Object")] 6

/-- com/example/libfolk/libfolk/ranking/RankingModel -/
def k2 : Class := { plain "com/example/libfolk/libfolk/ranking/RankingModel" (some 0) with
  accessFlags := 1537
  interfaces := #[]
  cf := some (fileOf pool2 1 #[] #[] 1537 3 #[] #[])
  fields := #[]
  methods := #[]
  instanceTypes := #[]
  staticTypes := #[]
  resolved := Array.replicate 11 none
  statics := none }

def pool3 : Array CpInfo := pool [(2, .class_ 4), (1, u "java/lang/Object"), (13, .class_ 20), (1, u "com/example/libfolk/libfolk/ranking/FrequencyCombination"), (0, u "bm25"), (0, u "Lcom/example/libfolk/libfolk/ranking/Bm25;"), (6, u "profiles"), (0, u "Lcom/example/libfolk/libfolk/profile/Profiles;"), (6, u "qtf"), (0, u "Lcom/example/libfolk/libfolk/ranking/Qtf;"), (2, u "checkAlpha"), (0, u "(D)D"), (2, u "alpha"), (0, u "D"), (2, .double 9218868437227405312), (105, .class_ 156), (0, u "com/example/libfolk/libfolk/ranking/RankingModel"), (0, u "DEFAULT_K3"), (3, u "DEFAULT_ALPHA")] 42

def k3c0 : Code := { maxStack := 4, maxLocals := 2, code := prog_47_method_2_code, exceptionTable := #[], attributes := #[] }
def k3m0 : Method := { name := "checkAlpha", desc := "(D)D", sig := { parameters := [.double], returnType := some .double }, accessFlags := 9, code := some k3c0 }
/-- com/example/libfolk/libfolk/ranking/FrequencyCombination -/
def k3 : Class := { plain "com/example/libfolk/libfolk/ranking/FrequencyCombination" (some 0) with
  accessFlags := 49
  interfaces := #[2]
  cf := some (fileOf pool3 18 #[] #[{ accessFlags := 9, nameIndex := 41, descriptorIndex := 42, attributes := #[] }] 49 2 #[155] #[{ accessFlags := 25, nameIndex := 157, descriptorIndex := 46, attributes := #[] }, { accessFlags := 25, nameIndex := 161, descriptorIndex := 46, attributes := #[] }, { accessFlags := 18, nameIndex := 21, descriptorIndex := 22, attributes := #[] }, { accessFlags := 18, nameIndex := 29, descriptorIndex := 30, attributes := #[] }, { accessFlags := 18, nameIndex := 37, descriptorIndex := 38, attributes := #[] }, { accessFlags := 18, nameIndex := 45, descriptorIndex := 46, attributes := #[] }])
  fields := #[{ name := "DEFAULT_K3", type := .double, accessFlags := 25, slot := 0, constantValue := 0 }, { name := "DEFAULT_ALPHA", type := .double, accessFlags := 25, slot := 1, constantValue := 0 }, { name := "bm25", type := (.object "com/example/libfolk/libfolk/ranking/Bm25"), accessFlags := 18, slot := 0, constantValue := 0 }, { name := "profiles", type := (.object "com/example/libfolk/libfolk/profile/Profiles"), accessFlags := 18, slot := 1, constantValue := 0 }, { name := "qtf", type := (.object "com/example/libfolk/libfolk/ranking/Qtf"), accessFlags := 18, slot := 2, constantValue := 0 }, { name := "alpha", type := .double, accessFlags := 18, slot := 3, constantValue := 0 }]
  methods := #[k3m0]
  instanceTypes := #[(.object "com/example/libfolk/libfolk/ranking/Bm25"), (.object "com/example/libfolk/libfolk/profile/Profiles"), (.object "com/example/libfolk/libfolk/ranking/Qtf"), .double]
  staticTypes := #[.double, .double]
  resolved := Array.replicate 204 none
  statics := none }

def pool4 : Array CpInfo := pool [(1, u "java/lang/Cloneable"), (0, .class_ 1), (0, u "java/lang/Object"), (0, .class_ 3)] 3

/-- java/lang/Cloneable -/
def k4 : Class := { plain "java/lang/Cloneable" (some 0) with
  accessFlags := 1537
  interfaces := #[]
  cf := some (fileOf pool4 2 #[] #[] 1537 4 #[] #[])
  fields := #[]
  methods := #[]
  instanceTypes := #[]
  staticTypes := #[]
  resolved := Array.replicate 8 none
  statics := none }

def pool5 : Array CpInfo := pool [(1, u "java/io/Serializable"), (0, .class_ 1), (0, u "java/lang/Object"), (0, .class_ 3)] 3

/-- java/io/Serializable -/
def k5 : Class := { plain "java/io/Serializable" (some 0) with
  accessFlags := 1537
  interfaces := #[]
  cf := some (fileOf pool5 2 #[] #[] 1537 4 #[] #[])
  fields := #[]
  methods := #[]
  instanceTypes := #[]
  staticTypes := #[]
  resolved := Array.replicate 8 none
  statics := none }

/-- the primitive byte -/
def k6 : Class := { plain "byte" none with kind := .primitive 'B', accessFlags := 0x411 }
/-- [B -/
def k7 : Class := { plain "[B" (some 0) with kind := .array 6 .byte, interfaces := #[4, 5], accessFlags := 1041 }

/-- the primitive int -/
def k8 : Class := { plain "int" none with kind := .primitive 'I', accessFlags := 0x411 }
/-- [I -/
def k9 : Class := { plain "[I" (some 0) with kind := .array 8 .int, interfaces := #[4, 5], accessFlags := 1041 }

def heap : Heap := #[]
def classes : Array Class := #[k0, k1, k2, k3, k4, k5, k6, k7, k8, k9]
def interned : List (Array UInt16 × Addr) := []
def slotsUsed : Nat := 0
def theMethod : MethodId := ⟨1, 1⟩
def args0 : Array Value := #[.long 5, .int 3]
def aboutOver (below : List Frame) : State where
  vm := { classes := classes, interned := interned.toArray }
  heap := heap
  slotsUsed := slotsUsed
  threads := #[{ frames := .invoking theMethod args0 :: below }]
def below0 : List Frame := [.native { method := ⟨0, 0⟩, args := #[] }]
def about1 : State := aboutOver below0
def p0 : Program := .bare "" "" ""
def e0 : Env := launch0.env 0 0 0
theorem w_frames : about1.frames = Frame.invoking theMethod args0 :: below0 := rfl
set_option maxRecDepth 65536 in
theorem w_args : argsFit about1.vm theMethod args0 = true := by decide +kernel
set_option maxRecDepth 65536 in
theorem w_heap : heapFits about1 = true := by decide +kernel
set_option maxRecDepth 65536 in
theorem w_runnable : about1.curStatus? = some .runnable := by decide +kernel
set_option maxRecDepth 65536 in
theorem w_alone : about1.alone = true := by decide +kernel
set_option maxRecDepth 65536 in
theorem w_named : about1.methodNamed? x = some theMethod := by decide +kernel
set_option maxRecDepth 65536 in
theorem w_hears : about1.hears theMethod below0 = true := by decide +kernel
set_option maxRecDepth 65536 in
theorem w_ripe : about1.ripe theMethod args0 below0 = true := by decide +kernel
theorem w_running : about1.status = .running := rfl
set_option maxRecDepth 65536 in
theorem w_room : about1.hasRoom e0.platform room_1 = true :=
  launch0.hasRoom_least _ room_1 (by decide +kernel) (by decide +kernel) (by decide +kernel) (by decide +kernel) (by decide +kernel) (by decide +kernel)
theorem allAtoms_all (ts : List Jvm.Cond) (a : Array Jvm.Value) (st : Jvm.State) : (allAtoms ts).before a st = ts.all (fun c => c.before a st) := by
  induction ts with
  | nil => rfl
  | cons c t ih =>
    show (Jvm.Cond.and c (allAtoms t)).before a st = _
    rw [Jvm.Cond.before_and, ih, List.all_cons]
def words1 : List Jvm.Cond := Jvm.Cond.code x code maxLocals ret :: tables_1
/-- a 'code' word, met by the world's own term for the bytes: nothing is compared byte by byte -/
theorem code_word {y : MethodName} {bytes : ByteArray} {mx : Nat} {rt : Option FieldType} {a : Array Value} {s : State} {m : MethodId} {meth : Method} {c : Code} (h1 : s.methodNamed? y = some m) (h2 : s.vm.method? m = some meth) (h3 : meth.code = some c) (h4 : c.code = bytes)
    (h5 : (c.maxLocals == mx && c.exceptionTable.isEmpty && decide (c.maxStack ≤ mostOperands) && decide (meth.sig.returnType = rt) && !meth.locks && decide (parseMethodDescriptor y.desc = some meth.sig)) = true) : (Jvm.Cond.code y bytes mx rt).before a s = true := by
  simp only [Bool.and_eq_true, beq_iff_eq, Bool.not_eq_true', decide_eq_true_eq] at h5
  obtain ⟨⟨⟨⟨⟨g1, g2⟩, g3⟩, g4⟩, g5⟩, g6⟩ := h5
  simp [Cond.before, Cond.holds, Cond.value, h1, h2, h3, h4, g1, g2, g3, g4, g5, g6]
def isCode : Jvm.Cond → Bool
  | .code _ _ _ _ => true
  | _ => false
theorem all_split {L : List Jvm.Cond} {P : Jvm.Cond → Bool} (h1 : L.all (fun c => isCode c || P c) = true) (h2 : ∀ c ∈ L.filter isCode, P c = true) : L.all P = true := by
  refine List.all_eq_true.mpr fun c hc => ?_
  have h := List.all_eq_true.mp h1 c hc
  rcases Bool.eq_false_or_eq_true (isCode c) with hi | hi
  · exact h2 c (List.mem_filter.mpr ⟨hc, hi⟩)
  · simpa [hi] using h
set_option maxRecDepth 65536 in
theorem w_c0 : (Jvm.Cond.code x code maxLocals ret).before args0 about1 = true := code_word (m := ⟨1, 1⟩) (meth := k1m1) (c := k1c1) (by decide +kernel) rfl rfl rfl (by decide +kernel)
set_option maxRecDepth 65536 in
theorem w_c1 : (Jvm.Cond.code ({ cls := "com/example/libfolk/libfolk/ranking/FrequencyCombination", name := "checkAlpha", desc := "(D)D" } : Jvm.MethodName) prog_47_method_2_code (2 : Nat) (Option.some Jvm.ClassFile.FieldType.double)).before args0 about1 = true := code_word (m := ⟨3, 0⟩) (meth := k3m0) (c := k3c0) (by decide +kernel) rfl rfl rfl (by decide +kernel)
def codes1 : List Jvm.Cond := [Jvm.Cond.code x code maxLocals ret, Jvm.Cond.code ({ cls := "com/example/libfolk/libfolk/ranking/FrequencyCombination", name := "checkAlpha", desc := "(D)D" } : Jvm.MethodName) prog_47_method_2_code (2 : Nat) (Option.some Jvm.ClassFile.FieldType.double)]
set_option maxRecDepth 65536 in
theorem codes_eq : words1.filter isCode = codes1 := rfl
theorem w_codes : ∀ c ∈ words1.filter isCode, c.before args0 about1 = true := by
  rw [codes_eq]
  intro c hc
  simp only [codes1, List.mem_cons, List.not_mem_nil, or_false] at hc
  rcases hc with rfl | rfl
  · exact w_c0
  · exact w_c1
set_option maxRecDepth 65536 in
theorem w_t1 : words1.all (fun c => isCode c || c.before args0 about1) = true := by decide +kernel
theorem w_tables : (allAtoms (Jvm.Cond.code x code maxLocals ret :: tables_1)).before args0 about1 = true := by
  rw [allAtoms_all]
  show words1.all (fun c => c.before args0 about1) = true
  refine all_split ?_ w_codes
  rw [w_t1]
set_option maxRecDepth 65536 in
theorem w_case : (Jvm.Cond.and given_1 narrow_1).before args0 about1 = true := by decide +kernel
theorem w_applies : (headSpec (Jvm.Cond.code x code maxLocals ret :: tables_1) room_1).applies x e0.platform about1 = true :=
  (Spec.applies_iff w_frames).mpr ⟨w_running, w_runnable, w_alone, w_named, w_hears, w_ripe, w_room, w_tables⟩
theorem atStart : AtStart classFile x code maxLocals ret World_1 tables_1 room_1 Calls_1 rest_1 Pre_1 launch0 p0 e0 about1 theMethod args0 below0 :=
  ⟨lists_1, trivial, launch0.admits_env _ _ _, launch0.least_env, fairChoices_fair.cas, fairChoices_fair.clock, w_frames, w_args, w_heap, w_applies, trivial, trivial, w_case⟩
end start1
theorem witness_1 : WitnessClaimed_1 := ⟨start1.p0, start1.e0, start1.about1, start1.theMethod, start1.args0, start1.below0, start1.atStart⟩
end Jvm.Pilot.@@N@@
