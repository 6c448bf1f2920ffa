import JvmDerived
import JvmDerived.Pilot.@@N@@Statement
import JvmDerived.Pilot.@@N@@Code
set_option linter.unusedVariables false
set_option linter.unusedSimpArgs false
namespace Jvm.RoadKit
open Sem ClassFile Op Lib Jvm.Stand Jvm.Free Jvm.LawKit
section New
variable {p : Program} {l : Launch} {e : Env} {R : Room} {s : State} {m : MethodId} {args : Array Value} {below : List Frame} {meth : Method} {c : Code} {T : State} {locs : List Loc} {cells slots : Nat}
theorem retI (X : Stand p l e R s m args below meth c T locs cells slots) (hx : p.tables.exec = Jvm.exec) {pc : Nat} {Ls : Array Slot} {z : Int32} {rest : List Value} (hret : meth.sig.returnType = some .int) (hd : decode c.code pc = .ok (.ireturn, 1)) {fs : List Frame}
    (hl : ∀ (f : JFrame) (acts : List Action), f.method = m → f.locked = none → f.entered = [] → (doReturn e (T.setTop f) acts (some (.int z))).1 = T.setFrames fs) : Steps p.tables e below (T.setTop (mkF m pc Ls (.int z :: rest))) (T.setFrames fs) := by
  have hm' : T.vm.method? m = some meth := X.method'
  have hn : narrow .int (.int z) = .int z := rfl
  show Steps p.tables e below (T.setTop { method := m, pc := pc, locals := Ls, stack := _ :: rest, locked := none }) _
  jvm_step X.here [X.here.top, hx, hd, hm', hret, hn]
  first | (intro acts; rw [hl _ acts rfl rfl rfl]) | rw [hl _ _ rfl rfl rfl]
  exact Steps.refl _
theorem own_retJ (X : Stand p l e R s m args below meth c T locs cells slots) (hx : p.tables.exec = Jvm.exec) {pc : Nat} {Ls : Array Slot} {z : Int64} {rest : List Value} (hret : meth.sig.returnType = some .long) (hd : decode c.code pc = .ok (.lreturn, 1)) {fs : List Frame}
    (hl : ∀ (f : JFrame) (acts : List Action), f.method = m → f.locked = none → f.entered = [] → (doReturn e (T.setTop f) acts (some (.long z))).1 = T.setFrames fs) : Steps p.tables e below (T.setTop (mkF m pc Ls (.long z :: rest))) (T.setFrames fs) := by
  have hm' : T.vm.method? m = some meth := X.method'
  show Steps p.tables e below (T.setTop { method := m, pc := pc, locals := Ls, stack := _ :: rest, locked := none }) _
  jvm_step X.here [X.here.top, hx, hd, hm', hret, narrow]
  first | (intro acts; rw [hl _ acts rfl rfl rfl]) | rw [hl _ _ rfl rfl rfl]
  exact Steps.refl _
theorem own_retD (X : Stand p l e R s m args below meth c T locs cells slots) (hx : p.tables.exec = Jvm.exec) {pc : Nat} {Ls : Array Slot} {z : UInt64} {rest : List Value} (hret : meth.sig.returnType = some .double) (hd : decode c.code pc = .ok (.dreturn, 1)) {fs : List Frame}
    (hl : ∀ (f : JFrame) (acts : List Action), f.method = m → f.locked = none → f.entered = [] → (doReturn e (T.setTop f) acts (some (.double z))).1 = T.setFrames fs) : Steps p.tables e below (T.setTop (mkF m pc Ls (.double z :: rest))) (T.setFrames fs) := by
  have hm' : T.vm.method? m = some meth := X.method'
  show Steps p.tables e below (T.setTop { method := m, pc := pc, locals := Ls, stack := _ :: rest, locked := none }) _
  jvm_step X.here [X.here.top, hx, hd, hm', hret, narrow]
  first | (intro acts; rw [hl _ acts rfl rfl rfl]) | rw [hl _ _ rfl rfl rfl]
  exact Steps.refl _
theorem own_retR (X : Stand p l e R s m args below meth c T locs cells slots) (hx : p.tables.exec = Jvm.exec) {pc : Nat} {Ls : Array Slot} {z : Addr} {rest : List Value} {ty : FieldType} (hret : meth.sig.returnType = some ty) (hty : ty.isReference = true) (hd : decode c.code pc = .ok (.areturn, 1)) {fs : List Frame}
    (hl : ∀ (f : JFrame) (acts : List Action), f.method = m → f.locked = none → f.entered = [] → (doReturn e (T.setTop f) acts (some (.ref z))).1 = T.setFrames fs) : Steps p.tables e below (T.setTop (mkF m pc Ls (.ref z :: rest))) (T.setFrames fs) := by
  have hm' : T.vm.method? m = some meth := X.method'
  show Steps p.tables e below (T.setTop { method := m, pc := pc, locals := Ls, stack := _ :: rest, locked := none }) _
  jvm_step X.here [X.here.top, hx, hd, hm', hret, hty, Value.isRef]
  first | (intro acts; rw [hl _ acts rfl rfl rfl]) | rw [hl _ _ rfl rfl rfl]
  exact Steps.refl _
theorem own_nm0 {a : Addr} : a ∉ ([] : List Addr) := List.not_mem_nil
theorem own_nmc {a w : Addr} {ws : List Addr} (h : a ≠ w) (r : a ∉ ws) : a ∉ w :: ws := fun q => (List.mem_cons.mp q).elim h r
theorem own_wm0 {P : Addr → Prop} : ∀ x ∈ ([] : List Addr), P x := fun _ q => nomatch q
theorem own_wmc {P : Addr → Prop} {w : Addr} {ws : List Addr} (h : P w) (r : ∀ x ∈ ws, P x) : ∀ x ∈ w :: ws, P x := fun x q => (List.mem_cons.mp q).elim (fun z => z ▸ h) (r x)
end New
end Jvm.RoadKit
namespace Jvm.OwnFP
open Jvm.FP Jvm.Free.Fl Sem ClassFile Op
/-- the double's value in units of 2 ^ -1074 -/
def zv (x : UInt64) : Int := Core.zval Core.b64 (Core.val64 x)
def zm (x : UInt64) : Nat := Core.zmag Core.b64 (Core.val64 x)
theorem nn {x : UInt64} (h : NoNaN64 x) : Core.val64 x ≠ .nan := (Core.notNaN_iff x).mp (noNaN64_no.mp h)
theorem nnF {x : UInt64} (h : Fin64 x) : NoNaN64 x := h.noNaN
theorem cv {x y : UInt64} (hx : NoNaN64 x) (hy : NoNaN64 y) (o : CmpOp) : cmpValue (FP.dcmp x y) o = if zv x < zv y then -1 else if zv x = zv y then 0 else 1 := by
  have h : FP.dcmp x y = some (compare (zv x) (zv y)) := Core.dcmp_zval (nn hx) (nn hy)
  rw [h, Core.compare_ite]
  by_cases h1 : zv x < zv y
  · rw [if_pos h1, if_pos h1]; cases o <;> rfl
  · rw [if_neg h1, if_neg h1]
    by_cases h2 : zv x = zv y
    · rw [if_pos h2, if_pos h2]; cases o <;> rfl
    · rw [if_neg h2, if_neg h2]; cases o <;> rfl
theorem cv_lt {x y : UInt64} (hx : NoNaN64 x) (hy : NoNaN64 y) (h : zv x < zv y) (o : CmpOp) : cmpValue (FP.dcmp x y) o = -1 := by rw [cv hx hy, if_pos h]
theorem cv_eq {x y : UInt64} (hx : NoNaN64 x) (hy : NoNaN64 y) (h : zv x = zv y) (o : CmpOp) : cmpValue (FP.dcmp x y) o = 0 := by rw [cv hx hy, if_neg (by omega), if_pos h]
theorem cv_gt {x y : UInt64} (hx : NoNaN64 x) (hy : NoNaN64 y) (h : zv y < zv x) (o : CmpOp) : cmpValue (FP.dcmp x y) o = 1 := by rw [cv hx hy, if_neg (by omega), if_neg (by omega)]
theorem cv_ge {x y : UInt64} (hx : NoNaN64 x) (hy : NoNaN64 y) (h : zv y ≤ zv x) (o : CmpOp) : ¬ cmpValue (FP.dcmp x y) o < 0 := by
  rw [cv hx hy, if_neg (by omega)]; split <;> decide
theorem cv_le {x y : UInt64} (hx : NoNaN64 x) (hy : NoNaN64 y) (h : zv x ≤ zv y) (o : CmpOp) : ¬ 0 < cmpValue (FP.dcmp x y) o := by
  rw [cv hx hy]; split
  · decide
  · rw [if_pos (by omega)]; decide
theorem sh {x : UInt64} (h : Fin64 x) : ∃ s c q, Core.val64 x = .fin s c q := fin64_core.mp h
theorem zv_dint {i : Int} {x : UInt64} (h : Core.DInt i x) : zv x = i * (Core.one64 : Int) := Core.DInt_zval h
theorem zv_zero : zv 0 = 0 := Core.zval64_zero
theorem fin_zero : Fin64 0 := by unfold Fin64; decide
theorem fin_one : Fin64 4607182418800017408 := by unfold Fin64; decide
theorem one_pos : (0 : Int) < (Core.one64 : Int) := by have := Core.one64_pos; omega
theorem zv_sgn (x : UInt64) : zv x = Core.signed (Core.sgn (Core.val64 x)) (zm x) := rfl
theorem zm_abs (x : UInt64) : (zv x).natAbs = zm x := by rw [zv_sgn, Core.natAbs_signed]
theorem add_le {x y v : UInt64} (hx : Fin64 x) (hy : Fin64 y) (hv : NoNaN64 v) (h : zv x + zv y ≤ zv v) : zv (FP.dadd x y) ≤ zv v := by
  show Core.zval Core.b64 (Core.val64 (Core.dadd x y)) ≤ _
  rw [Core.val64_dadd]
  exact Core.sum_le Core.good_b64 (sh hx) (sh hy) (Core.val64_fits x) (Core.val64_fits y) (Core.val64_fits v) (nn hv) h
theorem add_ge {x y v : UInt64} (hx : Fin64 x) (hy : Fin64 y) (hv : NoNaN64 v) (h : zv v ≤ zv x + zv y) : zv v ≤ zv (FP.dadd x y) := by
  show _ ≤ Core.zval Core.b64 (Core.val64 (Core.dadd x y))
  rw [Core.val64_dadd]
  exact Core.sum_ge Core.good_b64 (sh hx) (sh hy) (Core.val64_fits x) (Core.val64_fits y) (Core.val64_fits v) (nn hv) h
theorem shn {x : UInt64} (h : Fin64 x) : ∃ s c q, Core.negate (Core.val64 x) = .fin s c q := by
  obtain ⟨s, c, q, e⟩ := sh h; exact ⟨!s, c, q, by rw [e]; rfl⟩
theorem sub_le {x y v : UInt64} (hx : Fin64 x) (hy : Fin64 y) (hv : NoNaN64 v) (h : zv x - zv y ≤ zv v) : zv (FP.dsub x y) ≤ zv v := by
  show Core.zval Core.b64 (Core.val64 (Core.dsub x y)) ≤ _
  rw [Core.val64_dsub]
  exact Core.sum_le Core.good_b64 (sh hx) (shn hy) (Core.val64_fits x) (Core.negate_fits (Core.val64_fits y)) (Core.val64_fits v) (nn hv) (by rw [Core.zval_negate]; exact h)
theorem sub_ge {x y v : UInt64} (hx : Fin64 x) (hy : Fin64 y) (hv : NoNaN64 v) (h : zv v ≤ zv x - zv y) : zv v ≤ zv (FP.dsub x y) := by
  show _ ≤ Core.zval Core.b64 (Core.val64 (Core.dsub x y))
  rw [Core.val64_dsub]
  exact Core.sum_ge Core.good_b64 (sh hx) (shn hy) (Core.val64_fits x) (Core.negate_fits (Core.val64_fits y)) (Core.val64_fits v) (nn hv) (by rw [Core.zval_negate]; exact h)
/-- no NaN and no greater than something finite: finite -/
theorem fin_of {x v : UInt64} (hx : NoNaN64 x) (hv : Fin64 v) (h : zm x ≤ zm v) : Fin64 x := by
  refine fin64_core.mpr ?_
  have h1 : Core.zmag Core.b64 (Core.val64 v) < _ := (fin64_core.mp hv).zval_lt
  have h2 := nn hx
  unfold zm at h
  cases e : Core.val64 x with
  | nan => exact absurd e h2
  | inf s => rw [e] at h; exact absurd (Nat.lt_of_le_of_lt h h1) (Nat.lt_irrefl _)
  | fin s c q => exact ⟨s, c, q, e⟩
/-- 2 ^ -k in those units -/
def U (k : Nat) : Int := ((2 ^ (1074 - k) : Nat) : Int)
theorem U_pos (k : Nat) : 0 < U k := by unfold U; have := Nat.two_pow_pos (1074 - k); omega
theorem U_zero : U 0 = (Core.one64 : Int) := rfl
theorem U_add {k j : Nat} (h : k + j ≤ 1074) : U k = ((2 ^ j : Nat) : Int) * U (k + j) := by
  unfold U
  rw [← Int.natCast_mul, ← Nat.pow_add, show j + (1074 - (k + j)) = 1074 - k by omega]
/-- x is i / 2 ^ k, exactly -/
def Is (x : UInt64) (i : Int) (k : Nat) : Prop := Fin64 x ∧ zv x = i * U k
theorem signed_abs (i : Int) : Core.signed (decide (i < 0)) i.natAbs = i := by
  unfold Core.signed
  by_cases h : i < 0
  · simp [h]; omega
  · simp [h]; omega
theorem repr (i : Int) (k : Nat) (hk : k ≤ 1074) (hi : i.natAbs < 2 ^ 53) : ∃ v : UInt64, Is v i k := by
  obtain ⟨c', q', h1, h2⟩ := Core.round_exact Core.good_b64 (decide (i < 0)) (c := i.natAbs) (q := -(k : Int)) hi (by rw [Core.qmin_b64]; omega) (by show _ ≤ (971 : Int); omega)
  have hf : Core.fits Core.b64 (.fin (decide (i < 0)) c' q') := h1 ▸ Core.round_fits Core.good_b64 _
  have hv := Core.val64_of64 hf
  refine ⟨Core.of64 (.fin (decide (i < 0)) c' q'), fin64_core.mpr ⟨_, _, _, hv⟩, ?_⟩
  unfold zv Core.zval
  rw [hv]
  show Core.signed (decide (i < 0)) (Core.inUnits c' q' Core.b64.qmin) = _
  rw [h2]
  unfold Core.inUnits
  rw [Core.signed_mul, signed_abs, Core.qmin_b64]
  unfold U
  rw [show (-(k : Int) - -1074).toNat = 1074 - k by omega]
theorem is_dint {i : Int} {x : UInt64} (h : Core.DInt i x) (hf : Fin64 x) : Is x i 0 := ⟨hf, by rw [zv_dint h, U_zero]⟩
theorem is_i2d (v : Int32) : Is (FP.i2d v) v.toInt 0 := is_dint (Core.i2d_int v) (i2d_fin v)
theorem is_l2d {v : Int64} (h : v.toInt.natAbs ≤ 2 ^ 53) : Is (FP.l2d v) v.toInt 0 := is_dint (Core.l2d_int h) (l2d_fin v)
theorem is_zero (k : Nat) : Is 0 0 k := ⟨fin_zero, by rw [zv_zero, Int.zero_mul]⟩
theorem is_one : Is 4607182418800017408 1 0 := is_dint Core.dint_one fin_one
theorem Is.nn {x : UInt64} {i : Int} {k : Nat} (h : Is x i k) : NoNaN64 x := h.1.noNaN
theorem Is.up {x : UInt64} {i : Int} {k : Nat} (h : Is x i k) (j : Nat) (hj : k + j ≤ 1074) : Is x (i * ((2 ^ j : Nat) : Int)) (k + j) := ⟨h.1, by rw [h.2, U_add hj, Int.mul_assoc]⟩
theorem is_val {x v : UInt64} {i : Int} {k : Nat} (hn : NoNaN64 x) (hv : Is v i k) (h : zv x = zv v) : Is x i k := ⟨fin_of hn hv.1 (by rw [← zm_abs, ← zm_abs, h]; exact Nat.le_refl _), h.trans hv.2⟩
theorem Is.add {x y : UInt64} {i j : Int} {k : Nat} (hx : Is x i k) (hy : Is y j k) (hk : k ≤ 1074) (h : (i + j).natAbs < 2 ^ 53) : Is (FP.dadd x y) (i + j) k := by
  obtain ⟨v, hv⟩ := repr (i + j) k hk h
  have e : zv x + zv y = zv v := by rw [hx.2, hy.2, hv.2, Int.add_mul]
  exact is_val (dadd_out hx.nn hy.1) hv (Int.le_antisymm (add_le hx.1 hy.1 hv.nn (by omega)) (add_ge hx.1 hy.1 hv.nn (by omega)))
theorem Is.sub {x y : UInt64} {i j : Int} {k : Nat} (hx : Is x i k) (hy : Is y j k) (hk : k ≤ 1074) (h : (i - j).natAbs < 2 ^ 53) : Is (FP.dsub x y) (i - j) k := by
  obtain ⟨v, hv⟩ := repr (i - j) k hk h
  have e : zv x - zv y = zv v := by rw [hx.2, hy.2, hv.2, Int.sub_mul]
  exact is_val (dsub_out hx.nn hy.1) hv (Int.le_antisymm (sub_le hx.1 hy.1 hv.nn (by omega)) (sub_ge hx.1 hy.1 hv.nn (by omega)))
theorem Is.lt_iff {x y : UInt64} {i j : Int} {k : Nat} (hx : Is x i k) (hy : Is y j k) : zv x < zv y ↔ i < j := by
  rw [hx.2, hy.2]; exact Int.mul_lt_mul_right (U_pos k)
theorem Is.eq_iff {x y : UInt64} {i j : Int} {k : Nat} (hx : Is x i k) (hy : Is y j k) : zv x = zv y ↔ i = j := by
  rw [hx.2, hy.2]; exact ⟨fun h => Int.eq_of_mul_eq_mul_right (Int.ne_of_gt (U_pos k)) h, fun h => by rw [h]⟩
theorem Is.cmp {x y : UInt64} {i j : Int} {k : Nat} (hx : Is x i k) (hy : Is y j k) (o : CmpOp) : cmpValue (FP.dcmp x y) o = if i < j then -1 else if i = j then 0 else 1 := by
  rw [cv hx.nn hy.nn]
  simp only [hx.lt_iff hy, hx.eq_iff hy]
/-- a quotient: her magnitude lies on the same side of any double as the true one; her sign is the signs' product -/
theorem div_shape {x y : UInt64} (hx : Fin64 x) (hy : Fin64 y) (hz : zm y ≠ 0) : ∃ (s t : Bool) (c d : Nat) (q r : Int), Core.val64 x = .fin s c q ∧ Core.val64 y = .fin t d r ∧ 0 < d ∧ Core.val64 (FP.ddiv x y) = Core.roundRatio Core.b64 (s != t) c d (q - r) := by
  obtain ⟨s, c, q, e1⟩ := sh hx
  obtain ⟨t, d, r, e2⟩ := sh hy
  have hd : d ≠ 0 := fun h => hz (by unfold zm; rw [e2]; show Core.inUnits d r _ = 0; rw [h]; simp [Core.inUnits])
  refine ⟨s, t, c, d, q, r, e1, e2, by omega, ?_⟩
  have := Core.val64_ddiv x y
  rw [e1, e2] at this
  show Core.val64 (Core.ddiv x y) = _
  rw [this]
  simp [Core.quotient, hd]
theorem units2 (c : Nat) (q r : Int) (hq : -1074 ≤ q) (hr : -1074 ≤ r) : Core.inUnits c (q - r) (-1074 - (r + 1074)) = Core.inUnits c q (-1074) * Core.one64 := by
  unfold Core.inUnits Core.one64
  rw [Nat.mul_assoc, ← Nat.pow_add]
  congr 2
  omega
theorem div_le {x y v : UInt64} (hx : Fin64 x) (hy : Fin64 y) (hz : zm y ≠ 0) (hv : NoNaN64 v) (h : zm x * Core.one64 ≤ zm v * zm y) : zm (FP.ddiv x y) ≤ zm v := by
  obtain ⟨s, t, c, d, q, r, e1, e2, hd, e3⟩ := div_shape hx hy hz
  have f1 := Core.val64_fits x; have f2 := Core.val64_fits y
  rw [e1] at f1; rw [e2] at f2
  have q1 := f1.2.1; have r1 := f2.2.1
  rw [Core.qmin_b64] at q1 r1
  unfold zm at h ⊢
  rw [e3]
  rw [e1, e2] at h
  refine Core.zmag_roundRatio_le Core.good_b64 hd (Core.val64_fits v) (nn hv) (e0 := -1074 - (r + 1074)) (by rw [Core.qmin_b64]; omega) (by omega) ?_
  rw [units2 c q r q1 r1, Core.qmin_b64, show (-1074 - (-1074 - (r + 1074))).toNat = (r + 1074).toNat by omega]
  change Core.inUnits c q Core.b64.qmin * _ ≤ _ * Core.inUnits d r Core.b64.qmin at h
  rw [Core.qmin_b64] at h
  refine Nat.le_trans h (Nat.le_of_eq ?_)
  unfold Core.inUnits
  rw [show (r - -1074).toNat = (r + 1074).toNat by omega]
  ac_rfl
theorem div_ge {x y v : UInt64} (hx : Fin64 x) (hy : Fin64 y) (hz : zm y ≠ 0) (h : zm v * zm y ≤ zm x * Core.one64) : zm v ≤ zm (FP.ddiv x y) := by
  obtain ⟨s, t, c, d, q, r, e1, e2, hd, e3⟩ := div_shape hx hy hz
  have f1 := Core.val64_fits x; have f2 := Core.val64_fits y
  rw [e1] at f1; rw [e2] at f2
  have q1 := f1.2.1; have r1 := f2.2.1
  rw [Core.qmin_b64] at q1 r1
  unfold zm at h ⊢
  rw [e3]
  rw [e1, e2] at h
  refine Core.zmag_roundRatio_ge Core.good_b64 hd (Core.val64_fits v) (e0 := -1074 - (r + 1074)) (by rw [Core.qmin_b64]; omega) (by omega) ?_
  rw [units2 c q r q1 r1, Core.qmin_b64, show (-1074 - (-1074 - (r + 1074))).toNat = (r + 1074).toNat by omega]
  change _ * Core.inUnits d r Core.b64.qmin ≤ Core.inUnits c q Core.b64.qmin * _ at h
  rw [Core.qmin_b64] at h
  refine Nat.le_trans (Nat.le_of_eq ?_) h
  unfold Core.inUnits
  rw [show (r - -1074).toNat = (r + 1074).toNat by omega]
  ac_rfl
theorem div_sgn {x y : UInt64} (hx : Fin64 x) (hy : Fin64 y) (hz : zm y ≠ 0) : Core.sgn (Core.val64 (FP.ddiv x y)) = (Core.sgn (Core.val64 x) != Core.sgn (Core.val64 y)) := by
  obtain ⟨s, t, c, d, q, r, e1, e2, hd, e3⟩ := div_shape hx hy hz
  rw [e3, Core.sgn_roundRatio, e1, e2]; rfl
theorem nz_of {y : UInt64} (hy : Fin64 y) (hz : zm y ≠ 0) : Nz64 y := by
  refine nz64_core.mpr fun ⟨s, q, e⟩ => hz ?_
  unfold zm; rw [e]; simp [Core.zmag, Core.inUnits]
theorem div_nn {x y : UInt64} (hx : Fin64 x) (hy : Fin64 y) (hz : zm y ≠ 0) : NoNaN64 (FP.ddiv x y) := ddiv_out hx.noNaN hy (nz_of hy hz)
theorem sgn_pos {x : UInt64} (h : 0 < zv x) : Core.sgn (Core.val64 x) = false := by
  rw [zv_sgn] at h
  cases e : Core.sgn (Core.val64 x)
  · rfl
  · rw [e] at h; simp [Core.signed] at h; omega
theorem zv_of_pos {x : UInt64} (h : Core.sgn (Core.val64 x) = false) : zv x = (zm x : Int) := by rw [zv_sgn, h]; rfl
theorem Is.zm {x : UInt64} {i : Int} {k : Nat} (h : Is x i k) : (OwnFP.zm x : Int) = (i.natAbs : Int) * U k := by
  rw [← zm_abs, h.2, Int.natAbs_mul, Int.natCast_mul, Int.natAbs_of_nonneg (Int.le_of_lt (U_pos k))]
/-- i / 2 ^ j is exact -/
theorem Is.div2 {x y : UInt64} {i : Int} {j : Nat} (hx : Is x i 0) (hy : Is y ((2 ^ j : Nat) : Int) 0) (hj : j ≤ 1074) (hi : i.natAbs < 2 ^ 53) : Is (FP.ddiv x y) i j := by
  obtain ⟨v, hv⟩ := repr i j hj hi
  have p2 := Nat.two_pow_pos j
  have hyz : (OwnFP.zm y : Int) = ((2 ^ j : Nat) : Int) * U 0 := by rw [hy.zm]; simp
  have hz : OwnFP.zm y ≠ 0 := fun h => by
    rw [h] at hyz
    have := Int.mul_pos (Int.natCast_pos.mpr p2) (U_pos 0)
    omega
  have e : OwnFP.zm x * Core.one64 = OwnFP.zm v * OwnFP.zm y := by
    have : ((OwnFP.zm x * Core.one64 : Nat) : Int) = ((OwnFP.zm v * OwnFP.zm y : Nat) : Int) := by
      rw [Int.natCast_mul, Int.natCast_mul, hx.zm, hv.zm, hyz, ← U_zero, U_add (k := 0) (j := j) (by omega), Nat.zero_add]
      ac_rfl
    exact Int.ofNat.inj this
  have em : OwnFP.zm (FP.ddiv x y) = OwnFP.zm v := Nat.le_antisymm (div_le hx.1 hy.1 hz hv.nn (Nat.le_of_eq e)) (div_ge hx.1 hy.1 hz (Nat.le_of_eq e.symm))
  have sy : Core.sgn (Core.val64 y) = false := sgn_pos (by rw [hy.2]; exact Int.mul_pos (Int.natCast_pos.mpr p2) (U_pos 0))
  refine ⟨fin_of (div_nn hx.1 hy.1 hz) hv.1 (Nat.le_of_eq em), ?_⟩
  rw [zv_sgn, div_sgn hx.1 hy.1 hz, sy, em]
  by_cases h0 : i = 0
  · have : OwnFP.zm v = 0 := by have := hv.zm; rw [h0] at this; simp at this; exact this
    rw [this, h0]; simp [Core.signed_zero]
  · have ex : Core.signed (Core.sgn (Core.val64 x)) (OwnFP.zm x) = i * U 0 := hx.2
    have hz2 := hv.zm
    have hzx := hx.zm
    have u0 := U_pos 0; have uj := U_pos j
    cases e : Core.sgn (Core.val64 x)
    · rw [e] at ex
      have : 0 < i := by
        have h1 : (0 : Int) ≤ i * U 0 := by rw [← ex]; simp [Core.signed]
        have h2 : 0 ≤ i := Int.not_lt.mp fun q => by have := Int.mul_neg_of_neg_of_pos q u0; omega
        omega
      show ((OwnFP.zm v : Nat) : Int) = _
      rw [hz2, show ((i.natAbs : Nat) : Int) = i by omega]
    · rw [e] at ex
      have : i < 0 := by
        have h1 : i * U 0 ≤ 0 := by rw [← ex]; simp [Core.signed]
        have h2 : i ≤ 0 := Int.not_lt.mp fun q => by have := Int.mul_pos q u0; omega
        omega
      show -((OwnFP.zm v : Nat) : Int) = _
      rw [hz2, show ((i.natAbs : Nat) : Int) = -i by omega, Int.neg_mul, Int.neg_neg]
theorem abs_le_max {x : UInt64} (h : Fin64 x) : ¬ (0 : Int32) < cmpValue (FP.dcmp (x &&& 0x7fffffffffffffff) (9218868437227405311 : UInt64)) .g := by
  rcases (Core.le_max (noNaN64_no.mp h.noNaN)).mpr (fin64_core.mp h) with q | q
  · rw [show FP.dcmp (x &&& 0x7fffffffffffffff) (9218868437227405311 : UInt64) = some .lt from q]; decide
  · rw [show FP.dcmp (x &&& 0x7fffffffffffffff) (9218868437227405311 : UInt64) = some .eq from q]; decide
/-- equal numbers over one divisor: equal numbers -/
theorem div_congr {x x' y : UInt64} (hx : Fin64 x) (hx' : Fin64 x') (h : zv x = zv x') (hy : Fin64 y) (hz : OwnFP.zm y ≠ 0) : zv (FP.ddiv x y) = zv (FP.ddiv x' y) := by
  by_cases h0 : zv x' = 0
  · have e1 : OwnFP.zm x = 0 := by rw [← zm_abs, h, h0]; rfl
    have e2 : OwnFP.zm x' = 0 := by rw [← zm_abs, h0]; rfl
    have z0 : OwnFP.zm 0 = 0 := by rw [← zm_abs, zv_zero]; rfl
    have d1 := div_le (v := 0) hx hy hz fin_zero.noNaN (by rw [e1]; simp)
    have d2 := div_le (v := 0) hx' hy hz fin_zero.noNaN (by rw [e2]; simp)
    rw [z0] at d1 d2
    rw [zv_sgn, zv_sgn, Nat.le_zero.mp d1, Nat.le_zero.mp d2, Core.signed_zero, Core.signed_zero]
  · have : x = x' := by
      refine Core.eq_bits (fun hz' => h0 hz'.zval) ?_
      have q : Core.dcmp x x' = some (compare (zv x) (zv x')) := Core.dcmp_zval (nn hx.noNaN) (nn hx'.noNaN)
      rw [q, h, Core.compare_self_int]
    rw [this]
end Jvm.OwnFP
namespace Jvm.Pilot.@@N@@
open Jvm Jvm.ClassFile Sem Op Lib Jvm.Free Jvm.Stand Jvm.LawKit Jvm.RoadKit Bundle Jvm.Pilot.@@N@@.Jvm.D
open Jvm.Free.Fl (NoNaN64 Fin64 Nz64)
theorem own_ar1 {N D i p u v : Int} (e : v = p * u) (hu : 0 ≤ u) (hv : 0 ≤ v) (h : N * p ≤ i * D) : N * v * v ≤ i * u * (D * v) := by
  have h2 := Int.mul_le_mul_of_nonneg_right h (Int.mul_nonneg hu hv)
  have e1 : N * v * v = N * p * (u * v) := by
    have : N * v * v = N * (p * u) * v := by rw [← e]
    rw [this]; ac_rfl
  have e2 : i * D * (u * v) = i * u * (D * v) := by ac_rfl
  omega
theorem own_ar2 {N D i p u v : Int} (e : v = p * u) (hu : 0 ≤ u) (hv : 0 ≤ v) (h : i * D ≤ N * p) : i * u * (D * v) ≤ N * v * v := by
  have h2 := Int.mul_le_mul_of_nonneg_right h (Int.mul_nonneg hu hv)
  have e1 : N * v * v = N * p * (u * v) := by
    have : N * v * v = N * (p * u) * v := by rw [← e]
    rw [this]; ac_rfl
  have e2 : i * D * (u * v) = i * u * (D * v) := by ac_rfl
  omega
theorem own_ar3 {M D us u0 : Int} : (M + 1) * us * (D * u0) = (M * D * us + D * us) * u0 := by
  rw [Int.add_mul, Int.add_mul, Int.one_mul, Int.add_mul]
  have e1 : M * us * (D * u0) = M * D * us * u0 := by ac_rfl
  have e2 : us * (D * u0) = D * us * u0 := by ac_rfl
  rw [e1, e2]
theorem own_ar4 {M D us u0 : Int} : M * D * us * u0 = M * us * (D * u0) := by ac_rfl
theorem own_ar5 {i j x y u v w : Int} (hx : x = i * u) (hy : y = j * u) (hv : v = i * j * u) (hw : w = u) : x * y = v * w := by subst hx hy hv hw; ac_rfl
theorem own_ar6 {D p2 s2 w us uj : Int} (es : us = p2 * w) (ej : uj = s2 * w) (hw : 0 ≤ w) (h : D * p2 ≤ 2 * s2) : D * us ≤ 2 * uj := by
  have := Int.mul_le_mul_of_nonneg_right h hw
  rw [es, ej, ← Int.mul_assoc, ← Int.mul_assoc]; exact this
theorem own_ar7 {N p a b : Int} : N * (p * a) = p * (N * a) := by ac_rfl
theorem own_mul_le {x y v : UInt64} (hx : Fin64 x) (hy : Fin64 y) (hv : NoNaN64 v) (h : OwnFP.zv x * OwnFP.zv y ≤ OwnFP.zv v * (FP.Core.one64 : Int)) : OwnFP.zv (FP.dmul x y) ≤ OwnFP.zv v := by
  obtain ⟨s, c, q, e1⟩ := OwnFP.sh hx
  obtain ⟨t, d, r, e2⟩ := OwnFP.sh hy
  have f1 := FP.Core.val64_fits x; have f2 := FP.Core.val64_fits y
  rw [e1] at f1; rw [e2] at f2
  obtain ⟨p1, p2, p3⟩ := FP.Core.product_units f1 f2
  show FP.Core.zval FP.Core.b64 (FP.Core.val64 (FP.Core.dmul x y)) ≤ _
  rw [FP.Core.val64_dmul, e1, e2, p1]
  refine FP.Core.zval_round_le FP.Core.good_b64 (FP.Core.val64_fits v) (OwnFP.nn hv) (e0 := 2 * FP.Core.b64.qmin) (by rw [FP.Core.qmin_b64]; decide) p2 ?_
  rw [p3]
  have e3 : FP.Core.signed (s != t) (FP.Core.zmag FP.Core.b64 (.fin s c q) * FP.Core.zmag FP.Core.b64 (.fin t d r)) = OwnFP.zv x * OwnFP.zv y := by
    rw [FP.Core.signed_xor]; unfold OwnFP.zv FP.Core.zval; rw [e1, e2]; rfl
  rw [e3]
  have e4 : ((2 ^ (FP.Core.b64.qmin - 2 * FP.Core.b64.qmin).toNat : Nat) : Int) = (FP.Core.one64 : Int) := by rw [FP.Core.qmin_b64]; rfl
  rw [e4]; exact h
theorem own_mul_ge {x y v : UInt64} (hx : Fin64 x) (hy : Fin64 y) (hv : NoNaN64 v) (h : OwnFP.zv v * (FP.Core.one64 : Int) ≤ OwnFP.zv x * OwnFP.zv y) : OwnFP.zv v ≤ OwnFP.zv (FP.dmul x y) := by
  obtain ⟨s, c, q, e1⟩ := OwnFP.sh hx
  obtain ⟨t, d, r, e2⟩ := OwnFP.sh hy
  have f1 := FP.Core.val64_fits x; have f2 := FP.Core.val64_fits y
  rw [e1] at f1; rw [e2] at f2
  obtain ⟨p1, p2, p3⟩ := FP.Core.product_units f1 f2
  show _ ≤ FP.Core.zval FP.Core.b64 (FP.Core.val64 (FP.Core.dmul x y))
  rw [FP.Core.val64_dmul, e1, e2, p1]
  refine FP.Core.zval_round_ge FP.Core.good_b64 (FP.Core.val64_fits v) (OwnFP.nn hv) (e0 := 2 * FP.Core.b64.qmin) (by rw [FP.Core.qmin_b64]; decide) p2 ?_
  rw [p3]
  have e3 : FP.Core.signed (s != t) (FP.Core.zmag FP.Core.b64 (.fin s c q) * FP.Core.zmag FP.Core.b64 (.fin t d r)) = OwnFP.zv x * OwnFP.zv y := by
    rw [FP.Core.signed_xor]; unfold OwnFP.zv FP.Core.zval; rw [e1, e2]; rfl
  rw [e3]
  have e4 : ((2 ^ (FP.Core.b64.qmin - 2 * FP.Core.b64.qmin).toNat : Nat) : Int) = (FP.Core.one64 : Int) := by rw [FP.Core.qmin_b64]; rfl
  rw [e4]; exact h
theorem own_pos_zm {x : UInt64} {N : Nat} {k : Nat} (h : OwnFP.Is x (N : Int) k) (h0 : 0 < N) : OwnFP.zm x ≠ 0 := fun q => by
  have e := h.zm
  rw [q] at e
  have := Int.mul_pos (a := ((N : Int).natAbs : Int)) (by omega) (OwnFP.U_pos k)
  omega
theorem own_zmN {x : UInt64} {N k : Nat} (h : OwnFP.Is x (N : Int) k) : (OwnFP.zm x : Int) = (N : Int) * OwnFP.U k := by rw [h.zm]; rfl
theorem own_div_sgn {x y : UInt64} {N D : Nat} (hx : OwnFP.Is x (N : Int) 0) (hy : OwnFP.Is y (D : Int) 0) (hN : 0 < N) (hD : 0 < D) : FP.Core.sgn (FP.Core.val64 (FP.ddiv x y)) = false := by
  rw [OwnFP.div_sgn hx.1 hy.1 (own_pos_zm hy hD), OwnFP.sgn_pos (by rw [hx.2]; exact Int.mul_pos (by omega) (OwnFP.U_pos 0)), OwnFP.sgn_pos (by rw [hy.2]; exact Int.mul_pos (by omega) (OwnFP.U_pos 0))]; rfl
/-- the quotient lies below i / 2 ^ k where the true one does -/
theorem own_div_le {x y v : UInt64} {N D i k : Nat} (hx : OwnFP.Is x (N : Int) 0) (hy : OwnFP.Is y (D : Int) 0) (hv : OwnFP.Is v (i : Int) k) (hD : 0 < D) (hk : k ≤ 1074) (h : N * 2 ^ k ≤ i * D) : OwnFP.zm (FP.ddiv x y) ≤ OwnFP.zm v := by
  refine OwnFP.div_le hx.1 hy.1 (own_pos_zm hy hD) hv.nn ?_
  have : ((OwnFP.zm x * FP.Core.one64 : Nat) : Int) ≤ ((OwnFP.zm v * OwnFP.zm y : Nat) : Int) := by
    rw [Int.natCast_mul, Int.natCast_mul, own_zmN hx, own_zmN hv, own_zmN hy, ← OwnFP.U_zero]
    have u0 := OwnFP.U_pos 0; have uk := OwnFP.U_pos k
    have e := OwnFP.U_add (k := 0) (j := k) (by omega)
    rw [Nat.zero_add] at e
    have h' : (N : Int) * ((2 ^ k : Nat) : Int) ≤ (i : Int) * (D : Int) := by
      have := Int.ofNat_le.mpr h; rw [Int.natCast_mul, Int.natCast_mul] at this; exact this
    exact own_ar1 e (Int.le_of_lt uk) (Int.le_of_lt u0) h'
  exact Int.ofNat_le.mp this
theorem own_div_ge {x y v : UInt64} {N D i k : Nat} (hx : OwnFP.Is x (N : Int) 0) (hy : OwnFP.Is y (D : Int) 0) (hv : OwnFP.Is v (i : Int) k) (hD : 0 < D) (hk : k ≤ 1074) (h : i * D ≤ N * 2 ^ k) : OwnFP.zm v ≤ OwnFP.zm (FP.ddiv x y) := by
  refine OwnFP.div_ge hx.1 hy.1 (own_pos_zm hy hD) ?_
  have : ((OwnFP.zm v * OwnFP.zm y : Nat) : Int) ≤ ((OwnFP.zm x * FP.Core.one64 : Nat) : Int) := by
    rw [Int.natCast_mul, Int.natCast_mul, own_zmN hx, own_zmN hv, own_zmN hy, ← OwnFP.U_zero]
    have u0 := OwnFP.U_pos 0; have uk := OwnFP.U_pos k
    have e := OwnFP.U_add (k := 0) (j := k) (by omega)
    rw [Nat.zero_add] at e
    have h' : (i : Int) * (D : Int) ≤ (N : Int) * ((2 ^ k : Nat) : Int) := by
      have := Int.ofNat_le.mpr h; rw [Int.natCast_mul, Int.natCast_mul] at this; exact this
    exact own_ar2 e (Int.le_of_lt uk) (Int.le_of_lt u0) h'
  exact Int.ofNat_le.mp this
theorem own_zmz {x y : UInt64} (h : OwnFP.zm x ≤ OwnFP.zm y) (sx : FP.Core.sgn (FP.Core.val64 x) = false) (sy : FP.Core.sgn (FP.Core.val64 y) = false) : OwnFP.zv x ≤ OwnFP.zv y := by rw [OwnFP.zv_of_pos sx, OwnFP.zv_of_pos sy]; omega
theorem own_sgI {x : UInt64} {N k : Nat} (h : OwnFP.Is x (N : Int) k) (h0 : 0 < N) : FP.Core.sgn (FP.Core.val64 x) = false := OwnFP.sgn_pos (by rw [h.2]; exact Int.mul_pos (by omega) (OwnFP.U_pos k))
/-- numbers that have 52 digits in units of 2 ^ -s -/
theorem own_scale {A : Nat} (h : 0 < A) (hA : A < 2 ^ 51) : ∃ s, s ≤ 51 ∧ 2 ^ 51 ≤ A * 2 ^ s ∧ A * 2 ^ s < 2 ^ 52 := by
  have h1 := Nat.log2_self_le (n := A) (by omega)
  have h2 := Nat.lt_log2_self (n := A)
  have h3 : A.log2 < 51 := (Nat.log2_lt (by omega)).mpr hA
  refine ⟨51 - A.log2, by omega, ?_, ?_⟩
  · calc 2 ^ 51 = 2 ^ A.log2 * 2 ^ (51 - A.log2) := by rw [← Nat.pow_add]; congr 1; omega
      _ ≤ A * 2 ^ (51 - A.log2) := Nat.mul_le_mul_right _ h1
  · calc A * 2 ^ (51 - A.log2) < 2 ^ (A.log2 + 1) * 2 ^ (51 - A.log2) := Nat.mul_lt_mul_of_pos_right h2 (Nat.two_pow_pos _)
      _ = 2 ^ 52 := by rw [← Nat.pow_add]; congr 1; omega
theorem own_scaleQ {N D : Nat} (hD : 0 < D) (h : D ≤ N) (hN : N < 2 ^ 51) : ∃ s, s ≤ 51 ∧ 2 ^ 51 * D ≤ N * 2 ^ s ∧ N * 2 ^ s < 2 ^ 52 * D := by
  have q1 : 0 < N / D := Nat.div_pos h hD
  have q2 : N / D < 2 ^ 51 := Nat.lt_of_le_of_lt (Nat.div_le_self _ _) hN
  obtain ⟨s, h1, h2, h3⟩ := own_scale q1 q2
  refine ⟨s, h1, ?_, ?_⟩
  · calc 2 ^ 51 * D ≤ (N / D * 2 ^ s) * D := Nat.mul_le_mul_right _ h2
      _ = (N / D * D) * 2 ^ s := by ac_rfl
      _ ≤ N * 2 ^ s := Nat.mul_le_mul_right _ (Nat.div_mul_le_self _ _)
  · have h4 : N < (N / D + 1) * D := by
      have := Nat.lt_mul_div_succ N hD
      rw [Nat.mul_comm]; exact this
    have p2 := Nat.two_pow_pos s
    have h5 : (N / D + 1) * 2 ^ s ≤ 2 ^ 52 := by
      have : N / D * 2 ^ s < 2 ^ 52 := h3
      -- N / D * 2 ^ s and 2 ^ 52 are multiples of 2 ^ s
      have e : 2 ^ 52 = 2 ^ (52 - s) * 2 ^ s := by rw [← Nat.pow_add]; congr 1; omega
      rw [e] at this ⊢
      exact Nat.mul_le_mul_right _ (Nat.lt_of_mul_lt_mul_right this)
    calc N * 2 ^ s < (N / D + 1) * D * 2 ^ s := Nat.mul_lt_mul_of_pos_right h4 p2
      _ = (N / D + 1) * 2 ^ s * D := by ac_rfl
      _ ≤ 2 ^ 52 * D := Nat.mul_le_mul_right _ h5
theorem own_close {x y tol : UInt64} {N D : Nat} (hx : OwnFP.Is x (N : Int) 0) (hy : OwnFP.Is y (D : Int) 0) (ht : OwnFP.Is tol (N : Int) 40) (hD : 0 < D) (hDN : D ≤ N) (hN : N < 2 ^ 42) :
    Fin64 (FP.ddiv x y) ∧ Fin64 (FP.dmul (FP.ddiv x y) y) ∧ Fin64 (FP.dsub (FP.dmul (FP.ddiv x y) y) x) ∧ OwnFP.zv (FP.dsub (FP.dmul (FP.ddiv x y) y) x) ≤ OwnFP.zv tol ∧ -OwnFP.zv (FP.dsub (FP.dmul (FP.ddiv x y) y) x) ≤ OwnFP.zv tol := by
  have hN0 : 0 < N := by omega
  obtain ⟨s, s1, s2, s3⟩ := own_scaleQ hD hDN (by omega)
  obtain ⟨j, j1, j2, j3⟩ := own_scale hN0 (by omega)
  obtain ⟨M, hM⟩ : ∃ M, M = N * 2 ^ s / D := ⟨_, rfl⟩
  have m1 : M * D ≤ N * 2 ^ s := hM ▸ Nat.div_mul_le_self _ _
  have m2 : N * 2 ^ s < (M + 1) * D := by rw [hM, Nat.mul_comm (_ + 1) D]; exact Nat.lt_mul_div_succ _ hD
  have m3 : M < 2 ^ 52 := by rw [hM]; exact (Nat.div_lt_iff_lt_mul hD).mpr s3
  obtain ⟨lo, hlo⟩ := OwnFP.repr ((M : Nat) : Int) s (by omega) (by omega)
  obtain ⟨hi, hhi⟩ := OwnFP.repr ((M + 1 : Nat) : Int) s (by omega) (by omega)
  obtain ⟨lo2, hlo2⟩ := OwnFP.repr ((N * 2 ^ j - 2 : Nat) : Int) j (by omega) (by omega)
  obtain ⟨hi2, hhi2⟩ := OwnFP.repr ((N * 2 ^ j + 2 : Nat) : Int) j (by omega) (by omega)
  obtain ⟨t1, ht1⟩ := OwnFP.repr 2 j (by omega) (by decide)
  obtain ⟨t2, ht2⟩ := OwnFP.repr (-2) j (by omega) (by decide)
  have rnn := OwnFP.div_nn hx.1 hy.1 (own_pos_zm hy hD)
  have rhi := own_div_le hx hy hhi hD (by omega) (by omega)
  have rlo := own_div_ge hx hy hlo hD (by omega) m1
  have rs := own_div_sgn hx hy hN0 hD
  have rfin := OwnFP.fin_of rnn hhi.1 rhi
  have zr : OwnFP.zv (FP.ddiv x y) = (OwnFP.zm (FP.ddiv x y) : Int) := OwnFP.zv_of_pos rs
  have zlo := own_zmN hlo; have zhi := own_zmN hhi
  have b1 : (M : Int) * OwnFP.U s ≤ OwnFP.zv (FP.ddiv x y) := by rw [zr, ← zlo]; omega
  have b2 : OwnFP.zv (FP.ddiv x y) ≤ ((M + 1 : Nat) : Int) * OwnFP.U s := by rw [zr, ← zhi]; omega
  have us := OwnFP.U_pos s; have uj := OwnFP.U_pos j; have u0 := OwnFP.U_pos 0
  obtain ⟨w, hw⟩ : ∃ w, w = OwnFP.U (s + j) := ⟨_, rfl⟩
  have wp : 0 < w := hw ▸ OwnFP.U_pos _
  have es : OwnFP.U s = ((2 ^ j : Nat) : Int) * w := by rw [hw]; exact OwnFP.U_add (by omega)
  have ej : OwnFP.U j = ((2 ^ s : Nat) : Int) * w := by rw [hw, Nat.add_comm s j]; exact OwnFP.U_add (by omega)
  have e0s : OwnFP.U 0 = ((2 ^ s : Nat) : Int) * OwnFP.U s := by have := OwnFP.U_add (k := 0) (j := s) (by omega); rw [Nat.zero_add] at this; exact this
  have e0j : OwnFP.U 0 = ((2 ^ j : Nat) : Int) * OwnFP.U j := by have := OwnFP.U_add (k := 0) (j := j) (by omega); rw [Nat.zero_add] at this; exact this
  have zy : OwnFP.zv y = (D : Int) * OwnFP.U 0 := hy.2
  have zx : OwnFP.zv x = (N : Int) * OwnFP.U 0 := hx.2
  -- D * U s ≤ 2 * U j
  have k1 : D * 2 ^ j ≤ 2 * 2 ^ s := by
    have a1 : 2 ^ 51 * D * 2 ^ j ≤ N * 2 ^ s * 2 ^ j := Nat.mul_le_mul_right _ s2
    have a2 : N * 2 ^ s * 2 ^ j = N * 2 ^ j * 2 ^ s := by ac_rfl
    have a3 : N * 2 ^ j * 2 ^ s ≤ 2 ^ 52 * 2 ^ s := Nat.mul_le_mul_right _ (by omega)
    have a4 : 2 ^ 51 * (D * 2 ^ j) ≤ 2 ^ 51 * (2 * 2 ^ s) := by
      calc 2 ^ 51 * (D * 2 ^ j) = 2 ^ 51 * D * 2 ^ j := by ac_rfl
        _ ≤ 2 ^ 52 * 2 ^ s := by omega
        _ = 2 ^ 51 * (2 * 2 ^ s) := by rw [show (2 : Nat) ^ 52 = 2 ^ 51 * 2 from rfl]; ac_rfl
    exact Nat.le_of_mul_le_mul_left a4 (by decide)
  have k2 : (D : Int) * OwnFP.U s ≤ 2 * OwnFP.U j := by
    have : ((D * 2 ^ j : Nat) : Int) ≤ ((2 * 2 ^ s : Nat) : Int) := Int.ofNat_le.mpr k1
    rw [Int.natCast_mul, Int.natCast_mul] at this
    exact own_ar6 es ej (Int.le_of_lt wp) this
  have m1' : (M : Int) * (D : Int) ≤ (N : Int) * ((2 ^ s : Nat) : Int) := by
    have := Int.ofNat_le.mpr m1; rw [Int.natCast_mul, Int.natCast_mul] at this; exact this
  have m2' : (N : Int) * ((2 ^ s : Nat) : Int) ≤ (M : Int) * (D : Int) + (D : Int) := by
    have := Int.ofNat_le.mpr (Nat.le_of_lt m2); rw [Int.natCast_mul, Int.natCast_mul, Int.natCast_add, Int.add_mul] at this
    simpa using this
  -- the product, above and below
  have n2 : 2 ≤ N * 2 ^ j := Nat.le_trans (by decide) j2
  have zhi2 : OwnFP.zv hi2 = (N : Int) * OwnFP.U 0 + 2 * OwnFP.U j := by
    rw [hhi2.2, Int.natCast_add, Int.natCast_mul, Int.add_mul, e0j]
    have : (N : Int) * ((2 ^ j : Nat) : Int) * OwnFP.U j = (N : Int) * (((2 ^ j : Nat) : Int) * OwnFP.U j) := Int.mul_assoc _ _ _
    rw [this]; rfl
  have zlo2 : OwnFP.zv lo2 = (N : Int) * OwnFP.U 0 - 2 * OwnFP.U j := by
    rw [hlo2.2, Int.ofNat_sub n2, Int.natCast_mul, Int.sub_mul, e0j]
    have : (N : Int) * ((2 ^ j : Nat) : Int) * OwnFP.U j = (N : Int) * (((2 ^ j : Nat) : Int) * OwnFP.U j) := Int.mul_assoc _ _ _
    rw [this]; rfl
  have c1 : (M : Int) * (D : Int) * OwnFP.U s + (D : Int) * OwnFP.U s ≤ (N : Int) * OwnFP.U 0 + 2 * OwnFP.U j := by
    have := Int.mul_le_mul_of_nonneg_right m1' (Int.le_of_lt us)
    have e : (N : Int) * ((2 ^ s : Nat) : Int) * OwnFP.U s = (N : Int) * OwnFP.U 0 := by rw [e0s, Int.mul_assoc]
    rw [e] at this; omega
  have c2 : (N : Int) * OwnFP.U 0 - 2 * OwnFP.U j ≤ (M : Int) * (D : Int) * OwnFP.U s := by
    have := Int.mul_le_mul_of_nonneg_right m2' (Int.le_of_lt us)
    have e : (N : Int) * ((2 ^ s : Nat) : Int) * OwnFP.U s = (N : Int) * OwnFP.U 0 := by rw [e0s, Int.mul_assoc]
    rw [e, Int.add_mul] at this; omega
  have dpos : 0 ≤ (D : Int) * OwnFP.U 0 := Int.le_of_lt (Int.mul_pos (by omega) u0)
  have phi : OwnFP.zv (FP.dmul (FP.ddiv x y) y) ≤ OwnFP.zv hi2 := by
    refine own_mul_le rfin hy.1 hhi2.nn ?_
    rw [zy, ← OwnFP.U_zero, zhi2]
    calc OwnFP.zv (FP.ddiv x y) * ((D : Int) * OwnFP.U 0) ≤ ((M + 1 : Nat) : Int) * OwnFP.U s * ((D : Int) * OwnFP.U 0) := Int.mul_le_mul_of_nonneg_right b2 dpos
      _ = ((M : Int) * (D : Int) * OwnFP.U s + (D : Int) * OwnFP.U s) * OwnFP.U 0 := by rw [Int.natCast_add]; exact own_ar3
      _ ≤ _ := Int.mul_le_mul_of_nonneg_right c1 (Int.le_of_lt u0)
  have plo : OwnFP.zv lo2 ≤ OwnFP.zv (FP.dmul (FP.ddiv x y) y) := by
    refine own_mul_ge rfin hy.1 hlo2.nn ?_
    rw [zy, ← OwnFP.U_zero, zlo2]
    calc _ ≤ (M : Int) * (D : Int) * OwnFP.U s * OwnFP.U 0 := Int.mul_le_mul_of_nonneg_right c2 (Int.le_of_lt u0)
      _ = (M : Int) * OwnFP.U s * ((D : Int) * OwnFP.U 0) := own_ar4
      _ ≤ _ := Int.mul_le_mul_of_nonneg_right b1 dpos
  have lo2p : 0 ≤ OwnFP.zv lo2 := by rw [hlo2.2]; exact Int.mul_nonneg (by omega) (Int.le_of_lt uj)
  have pnn : NoNaN64 (FP.dmul (FP.ddiv x y) y) := Fl.dmul_out rfin hy.1
  have pfin : Fin64 (FP.dmul (FP.ddiv x y) y) := by
    refine OwnFP.fin_of pnn hhi2.1 ?_
    rw [← OwnFP.zm_abs, ← OwnFP.zm_abs]; omega
  have dhi : OwnFP.zv (FP.dsub (FP.dmul (FP.ddiv x y) y) x) ≤ OwnFP.zv t1 := OwnFP.sub_le pfin hx.1 ht1.nn (by rw [zx, ht1.2]; rw [zhi2] at phi; omega)
  have dlo : OwnFP.zv t2 ≤ OwnFP.zv (FP.dsub (FP.dmul (FP.ddiv x y) y) x) := OwnFP.sub_ge pfin hx.1 ht2.nn (by rw [zx, ht2.2]; rw [zlo2] at plo; omega)
  have dnn : NoNaN64 (FP.dsub (FP.dmul (FP.ddiv x y) y) x) := Fl.dsub_out pnn hx.1
  have z1 := ht1.2; have z2 := ht2.2
  have dfin : Fin64 (FP.dsub (FP.dmul (FP.ddiv x y) y) x) := by
    refine OwnFP.fin_of dnn ht1.1 ?_
    rw [← OwnFP.zm_abs, ← OwnFP.zm_abs]; omega
  have tl : 2 * OwnFP.U j ≤ OwnFP.zv tol := by
    rw [ht.2]
    have e40 : OwnFP.U 0 = ((2 ^ 40 : Nat) : Int) * OwnFP.U 40 := by have := OwnFP.U_add (k := 0) (j := 40) (by omega); rw [Nat.zero_add] at this; exact this
    have a1 : ((2 ^ 51 : Nat) : Int) ≤ ((N * 2 ^ j : Nat) : Int) := Int.ofNat_le.mpr j2
    have a2 := Int.mul_le_mul_of_nonneg_right a1 (Int.le_of_lt uj)
    rw [Int.natCast_mul, Int.mul_assoc, ← e0j, e40] at a2
    have a3 : (N : Int) * (((2 ^ 40 : Nat) : Int) * OwnFP.U 40) = ((2 ^ 40 : Nat) : Int) * ((N : Int) * OwnFP.U 40) := own_ar7 (b := 0)
    rw [a3, show ((2 ^ 51 : Nat) : Int) = ((2 ^ 40 : Nat) : Int) * 2048 from rfl, Int.mul_assoc] at a2
    have a4 := Int.le_of_mul_le_mul_left a2 (by decide)
    omega
  exact ⟨rfin, pfin, dfin, by omega, by omega⟩
theorem own_ab (k : Int32) : 0 ≤ (k &&& (1048575 : Int32)).toInt ∧ (k &&& (1048575 : Int32)).toInt ≤ 1048575 := by
  have := c_and k 1048575 (by decide)
  rw [show (1048575 : Int32).toInt = 1048575 from rfl] at this
  exact this
theorem own_p1 {a : Int32} (h : 0 ≤ a.toInt ∧ a.toInt ≤ 1048575) : (a + (1 : Int32)).toInt = a.toInt + 1 := by
  have h2 := c_iadd a 1
  have h3 := rng32 (a + (1 : Int32))
  have : (1 : Int32).toInt = 1 := rfl
  omega
theorem own_prod {a b : Int} (ha : 0 ≤ a ∧ a ≤ 1048575) (hb : 1 ≤ b ∧ b ≤ 1048576) : a + b ≤ (a + 1) * b ∧ (a + 1) * b ≤ 1099511627776 ∧ (a + 1) * b ≤ b * (a + b) ∧ (a + 1) * b ≤ (a + 1) * (a + b) := by
  have m := mc (show (1 : Int) ≤ a + 1 by omega) (show a + 1 ≤ 1048576 by omega) hb.1 hb.2
  have m2 : 0 ≤ a * (b - 1) := Int.mul_nonneg ha.1 (by omega)
  have e2 : (a + 1) * b = a * (b - 1) + (a + b) := by rw [Int.add_mul, Int.mul_sub]; omega
  have m3 : 0 ≤ b * (b - 1) := Int.mul_nonneg (by omega) (by omega)
  have e3 : b * (a + b) = (a + 1) * b + b * (b - 1) := by rw [Int.mul_add, Int.add_mul, Int.mul_sub, Int.mul_comm a b]; omega
  have m4 : 0 ≤ (a + 1) * a := Int.mul_nonneg (by omega) ha.1
  have e4 : (a + 1) * (a + b) = (a + 1) * b + (a + 1) * a := by rw [Int.mul_add]; omega
  omega
theorem own_t40 : OwnFP.Is (4787326403894837248 : UInt64) ((2 ^ 40 : Nat) : Int) 0 := by
  refine OwnFP.is_dint (show FP.Core.DInt 1099511627776 (4787326403894837248 : UInt64) from ?_) (by unfold Fin64; decide)
  have : FP.l2d 1099511627776 = (4787326403894837248 : UInt64) := by decide +kernel
  rw [← this]; exact FP.Core.l2d_int (a := 1099511627776) (by decide)
theorem own_dm {x y : UInt64} {i j : Int} (hx : OwnFP.Is x i 0) (hy : OwnFP.Is y j 0) (h : (i * j).natAbs < 2 ^ 53) : OwnFP.Is (FP.dmul x y) (i * j) 0 := by
  obtain ⟨v, hv⟩ := OwnFP.repr (i * j) 0 (by decide) h
  have e : OwnFP.zv x * OwnFP.zv y = OwnFP.zv v * (FP.Core.one64 : Int) := own_ar5 hx.2 hy.2 hv.2 OwnFP.U_zero.symm
  exact OwnFP.is_val (Fl.dmul_out hx.1 hy.1) hv (Int.le_antisymm (own_mul_le hx.1 hy.1 hv.nn (Int.le_of_eq e)) (own_mul_ge hx.1 hy.1 hv.nn (Int.le_of_eq e.symm)))
def own_r (a b : Int32) : UInt64 := FP.ddiv (FP.dmul (FP.dadd (FP.i2d a) (4607182418800017408 : UInt64)) (FP.i2d b)) (FP.dadd (FP.i2d a) (FP.i2d b))
def own_nl (a b : Int32) : Int64 := (a + (1 : Int32)).toInt64 * b.toInt64
def own_dl (a b : Int32) : Int64 := a.toInt64 + b.toInt64
theorem own_big {a b : Int32} (ha : 0 ≤ a.toInt ∧ a.toInt ≤ 1048575) (hb : 1 ≤ b.toInt ∧ b.toInt ≤ 1048576) :
    OwnFP.Is (FP.dadd (FP.i2d a) (4607182418800017408 : UInt64)) (a.toInt + 1) 0 ∧ OwnFP.Is (FP.dmul (FP.dadd (FP.i2d a) (4607182418800017408 : UInt64)) (FP.i2d b)) ((a.toInt + 1) * b.toInt) 0 ∧ OwnFP.Is (FP.dadd (FP.i2d a) (FP.i2d b)) (a.toInt + b.toInt) 0 ∧
    OwnFP.Is (FP.l2d (own_nl a b)) ((a.toInt + 1) * b.toInt) 0 ∧ OwnFP.Is (FP.l2d (own_dl a b)) (a.toInt + b.toInt) 0 := by
  have pr := own_prod ha hb
  have s1 := (OwnFP.is_i2d a).add OwnFP.is_one (by decide) (by omega)
  have s2 := own_dm s1 (OwnFP.is_i2d b) (by omega)
  have s3 := (OwnFP.is_i2d a).add (OwnFP.is_i2d b) (by decide) (by omega)
  have n1 : (own_nl a b).toInt = (a.toInt + 1) * b.toInt := by
    unfold own_nl
    have c := c_lmul (a + (1 : Int32)).toInt64 b.toInt64
    have r := rng64 ((a + (1 : Int32)).toInt64 * b.toInt64)
    rw [c_i2l, c_i2l, own_p1 ha] at c
    omega
  have n2 : (own_dl a b).toInt = a.toInt + b.toInt := by
    unfold own_dl
    have c := c_ladd a.toInt64 b.toInt64
    have r := rng64 (a.toInt64 + b.toInt64)
    rw [c_i2l, c_i2l] at c
    omega
  have l1 := OwnFP.is_l2d (v := own_nl a b) (by omega)
  have l2 := OwnFP.is_l2d (v := own_dl a b) (by omega)
  rw [n1] at l1; rw [n2] at l2
  exact ⟨s1, s2, s3, l1, l2⟩
theorem own_main {a b : Int32} (ha : 0 ≤ a.toInt ∧ a.toInt ≤ 1048575) (hb : 1 ≤ b.toInt ∧ b.toInt ≤ 1048576) :
    (Fin64 (own_r a b) ∧ Fin64 (FP.dmul (own_r a b) (FP.l2d (own_dl a b))) ∧ Fin64 (FP.dsub (FP.dmul (own_r a b) (FP.l2d (own_dl a b))) (FP.l2d (own_nl a b))) ∧ Fin64 (FP.ddiv (FP.l2d (own_nl a b)) (4787326403894837248 : UInt64))) ∧
    OwnFP.zv (FP.dsub (FP.dmul (own_r a b) (FP.l2d (own_dl a b))) (FP.l2d (own_nl a b))) ≤ OwnFP.zv (FP.ddiv (FP.l2d (own_nl a b)) (4787326403894837248 : UInt64)) ∧
    -OwnFP.zv (FP.dsub (FP.dmul (own_r a b) (FP.l2d (own_dl a b))) (FP.l2d (own_nl a b))) ≤ OwnFP.zv (FP.ddiv (FP.l2d (own_nl a b)) (4787326403894837248 : UInt64)) ∧
    OwnFP.zv (4607182418800017408 : UInt64) ≤ OwnFP.zv (own_r a b) ∧ OwnFP.zv (own_r a b) ≤ OwnFP.zv (FP.i2d b) ∧ OwnFP.zv (own_r a b) ≤ OwnFP.zv (FP.dadd (FP.i2d a) (4607182418800017408 : UInt64)) ∧ (a.toInt = 0 → OwnFP.zv (own_r a b) = OwnFP.zv (4607182418800017408 : UInt64)) := by
  have pr := own_prod ha hb
  obtain ⟨s1, s2, s3, l1, l2⟩ := own_big ha hb
  obtain ⟨N, hN⟩ : ∃ N : Nat, (N : Int) = (a.toInt + 1) * b.toInt := ⟨((a.toInt + 1) * b.toInt).toNat, by omega⟩
  obtain ⟨D, hD⟩ : ∃ D : Nat, (D : Int) = a.toInt + b.toInt := ⟨(a.toInt + b.toInt).toNat, by omega⟩
  obtain ⟨A, hA⟩ : ∃ A : Nat, (A : Int) = a.toInt + 1 := ⟨(a.toInt + 1).toNat, by omega⟩
  obtain ⟨B, hB⟩ : ∃ B : Nat, (B : Int) = b.toInt := ⟨b.toInt.toNat, by omega⟩
  have ib := OwnFP.is_i2d b
  rw [← hN] at s2 l1; rw [← hD] at s3 l2; rw [← hA] at s1; rw [← hB] at ib
  have D0 : 0 < D := by omega
  have DN : D ≤ N := by omega
  have N42 : N < 2 ^ 42 := by omega
  -- equal numbers: x = l1's double, y = l2's
  have ex : FP.dmul (FP.dadd (FP.i2d a) (4607182418800017408 : UInt64)) (FP.i2d b) = FP.l2d (own_nl a b) := by
    refine FP.Core.eq_bits (fun hz' => ?_) ?_
    · have z := hz'.zval
      have : OwnFP.zv (FP.l2d (own_nl a b)) = 0 := z
      rw [l1.2] at this
      have := Int.mul_pos (a := (N : Int)) (by omega) (OwnFP.U_pos 0)
      omega
    · have q : FP.Core.dcmp (FP.dmul (FP.dadd (FP.i2d a) (4607182418800017408 : UInt64)) (FP.i2d b)) (FP.l2d (own_nl a b)) = some (compare (OwnFP.zv (FP.dmul (FP.dadd (FP.i2d a) (4607182418800017408 : UInt64)) (FP.i2d b))) (OwnFP.zv (FP.l2d (own_nl a b)))) := FP.Core.dcmp_zval (OwnFP.nn s2.nn) (OwnFP.nn l1.nn)
      rw [q, s2.2, l1.2, FP.Core.compare_self_int]
  have ey : FP.dadd (FP.i2d a) (FP.i2d b) = FP.l2d (own_dl a b) := by
    refine FP.Core.eq_bits (fun hz' => ?_) ?_
    · have z := hz'.zval
      have : OwnFP.zv (FP.l2d (own_dl a b)) = 0 := z
      rw [l2.2] at this
      have := Int.mul_pos (a := (D : Int)) (by omega) (OwnFP.U_pos 0)
      omega
    · have q : FP.Core.dcmp (FP.dadd (FP.i2d a) (FP.i2d b)) (FP.l2d (own_dl a b)) = some (compare (OwnFP.zv (FP.dadd (FP.i2d a) (FP.i2d b))) (OwnFP.zv (FP.l2d (own_dl a b)))) := FP.Core.dcmp_zval (OwnFP.nn s3.nn) (OwnFP.nn l2.nn)
      rw [q, s3.2, l2.2, FP.Core.compare_self_int]
  have er : own_r a b = FP.ddiv (FP.l2d (own_nl a b)) (FP.l2d (own_dl a b)) := by unfold own_r; rw [ex, ey]
  have it : OwnFP.Is (FP.ddiv (FP.l2d (own_nl a b)) (4787326403894837248 : UInt64)) (N : Int) 40 := l1.div2 own_t40 (by decide) (by omega)
  obtain ⟨q1, q2, q3, q4, q5⟩ := own_close l1 l2 it D0 DN N42
  rw [← er] at q1 q2 q3 q4 q5
  have sr : FP.Core.sgn (FP.Core.val64 (own_r a b)) = false := by rw [er]; exact own_div_sgn l1 l2 (by omega) D0
  have i1 : OwnFP.Is (4607182418800017408 : UInt64) ((1 : Nat) : Int) 0 := OwnFP.is_one
  refine ⟨⟨q1, q2, q3, it.1⟩, q4, q5, ?_, ?_, ?_, ?_⟩
  · refine own_zmz ?_ (own_sgI i1 (by decide)) sr
    rw [er]; exact own_div_ge l1 l2 i1 D0 (by decide) (by simp; exact DN)
  · refine own_zmz ?_ sr (own_sgI ib (by omega))
    rw [er]; refine own_div_le l1 l2 ib D0 (by decide) ?_
    have : ((N * 2 ^ 0 : Nat) : Int) ≤ ((B * D : Nat) : Int) := by rw [Int.natCast_mul, Int.natCast_mul, hN, hB, hD]; simpa using pr.2.2.1
    exact Int.ofNat_le.mp this
  · refine own_zmz ?_ sr (own_sgI s1 (by omega))
    rw [er]; refine own_div_le l1 l2 s1 D0 (by decide) ?_
    have : ((N * 2 ^ 0 : Nat) : Int) ≤ ((A * D : Nat) : Int) := by rw [Int.natCast_mul, Int.natCast_mul, hN, hA, hD]; simpa using pr.2.2.2
    exact Int.ofNat_le.mp this
  · intro h0
    have e : N = D := by
      rw [h0] at hN hD
      simp at hN hD
      omega
    refine Int.le_antisymm (own_zmz ?_ sr (own_sgI i1 (by decide))) (own_zmz ?_ (own_sgI i1 (by decide)) sr)
    · rw [er]; exact own_div_le l1 l2 i1 D0 (by decide) (by simp; omega)
    · rw [er]; exact own_div_ge l1 l2 i1 D0 (by decide) (by simp; omega)
theorem own_neg {x : UInt64} (h : Fin64 x) : Fin64 (FP.dneg x) ∧ OwnFP.zv (FP.dneg x) = -OwnFP.zv x := by
  have e : FP.Core.val64 (FP.dneg x) = FP.Core.negate (FP.Core.val64 x) := FP.val64_dneg x
  refine ⟨Fl.fin64_core.mpr ?_, ?_⟩
  · obtain ⟨s, c, q, z⟩ := OwnFP.sh h
    exact ⟨!s, c, q, by rw [e, z]; rfl⟩
  · unfold OwnFP.zv; rw [e, FP.Core.zval_negate]
theorem ef_Qinit (m : MethodId) (a1 : Addr) (d1 : UInt64) : entryFrame m #[(.ref a1), (.double d1)] 3 = mkF m 0 #[.val (.ref a1), .val (.double d1), .second] [] := by first | (simp [entryFrame, mkF, argsToLocals, Value.category]; done) | rfl
theorem d1_0 : decode prog_54_method_1_code 0 = .ok (.aload_n 0, 1) := by decide +kernel
theorem d1_1 : decode prog_54_method_1_code 1 = .ok (.invokespecial 1, 3) := by decide +kernel
theorem d1_4 : decode prog_54_method_1_code 4 = .ok (.dload_n 1, 1) := by decide +kernel
theorem d1_5 : decode prog_54_method_1_code 5 = .ok (.dconst 0, 1) := by decide +kernel
theorem d1_6 : decode prog_54_method_1_code 6 = .ok (.dcmp .l, 1) := by decide +kernel
theorem d1_7 : decode prog_54_method_1_code 7 = .ok (.ifCond .lt 11, 3) := by decide +kernel
theorem d1_10 : decode prog_54_method_1_code 10 = .ok (.dload_n 1, 1) := by decide +kernel
theorem d1_11 : decode prog_54_method_1_code 11 = .ok (.ldc2_w 9, 3) := by decide +kernel
theorem d1_14 : decode prog_54_method_1_code 14 = .ok (.dcmp .g, 1) := by decide +kernel
theorem d1_15 : decode prog_54_method_1_code 15 = .ok (.ifCond .lt 17, 3) := by decide +kernel
theorem d1_32 : decode prog_54_method_1_code 32 = .ok (.aload_n 0, 1) := by decide +kernel
theorem d1_33 : decode prog_54_method_1_code 33 = .ok (.dload_n 1, 1) := by decide +kernel
theorem d1_34 : decode prog_54_method_1_code 34 = .ok (.putfield 20, 3) := by decide +kernel
theorem d1_37 : decode prog_54_method_1_code 37 = .ok (.return_, 1) := by decide +kernel
theorem pn_com_example_libfolk_libfolk_ranking_Qtf : plainName "com/example/libfolk/libfolk/ranking/Qtf" = true := by first | (simp [plainName, overriddenIn]; done) | decide +kernel
def QQinit (Z : State) (a1 : Addr) (d1 : UInt64) (h0 : Heap) (n0 : Nat) (v : Option Value) (h : Heap) (L : List Loc) : Prop := v = none ∧ Fr n0 L ∧ Keep h0 h [a1] ∧ (Exa Z h a1 "com/example/libfolk/libfolk/ranking/Qtf") ∧ (Fld Z h a1 "com/example/libfolk/libfolk/ranking/Qtf" "k3" "D" (.double d1))
set_option maxRecDepth 65536 in
set_option maxHeartbeats 40000000 in
theorem rmQinit (l : Launch) (Z : State) (a0 : Array Value) (hw : ∀ d ∈ tables_1, d.before a0 Z = true) (ws : List Jvm.Cond) (a1 : Addr) (d1 : UInt64) (h0 : Heap) (n0 : Nat) (Z0 : n0 ≤ h0.size) (P_E_a1 : Exa Z h0 a1 "com/example/libfolk/libfolk/ranking/Qtf") (P_G_a1 : n0 ≤ a1) (P_F_a1_k3 : Fld Z h0 a1 "com/example/libfolk/libfolk/ranking/Qtf" "k3" "D" (.double (0 : UInt64))) (hf : Fin64 d1) (hz0 : 0 ≤ OwnFP.zv d1) :
    MetFree l (⟨"com/example/libfolk/libfolk/ranking/Qtf", "<init>", "(D)V"⟩ : MethodName) (head1 (Jvm.Cond.code (⟨"com/example/libfolk/libfolk/ranking/Qtf", "<init>", "(D)V"⟩ : MethodName) prog_54_method_1_code 3 none :: ws) ({ frames := 1, cells := 0, slots := 0, locals := 12 } : Room)) (fun a U => a = #[(.ref a1), (.double d1)] ∧ Z.Warmed39 U.vm ∧ U.heap = h0) (fun _ _ _ _ _ => True) (fun _ U o U' => ∃ v L, o = .returned v ∧ QQinit Z a1 d1 h0 n0 v U'.heap L ∧ FrameEnd U o U' L ({ frames := 1, cells := 0, slots := 0, locals := 12 } : Room).cells ({ frames := 1, cells := 0, slots := 0, locals := 12 } : Room).slots) := by
  refine MetFree.of_bodySF (plainFor_of_name pn_com_example_libfolk_libfolk_ranking_Qtf) hisR ?_
  intro p e s m args below meth c s₁ Bd hml0 hP hK
  obtain ⟨rfl, hZ, hh⟩ := hP
  have hx := Bd.exec
  have hby := Bd.bytes
  have hml : c.maxLocals = 3 := hml0
  have hown : s.vm.findClass "com/example/libfolk/libfolk/ranking/Qtf" = some m.cls := findClass_of_methodNamed Bd.named
  have hnm := (name_of_methodNamed Bd.named Bd.method).1
  have X0 : Stand p l e ({ frames := 1, cells := 0, slots := 0, locals := 12 } : Room) s m #[(.ref a1), (.double d1)] below meth c s₁ [] 0 0 := Stand.of_body Bd
  have e0 : s₁.heap = h0 := by rw [← hh, Bd.state]; rfl
  have N0 := Fr.nil n0
  have pre0 : ∀ t, Steps p.tables e below (s₁.setTop (mkF m 0 #[.val (.ref a1), .val (.double d1), .second] [])) t → Steps p.tables e below (s₁.setTop (entryFrame m #[(.ref a1), (.double d1)] 3)) t := fun t k => castTop (ef_Qinit m a1 d1) k
  obtain ⟨T101, X101, e101, st101⟩ := initO X0 hx hZ hown (hw _ (List.mem_of_getElem? (i := 7) rfl)) (hw _ (List.mem_of_getElem? (i := 8) rfl)) (hw _ (List.mem_of_getElem? (i := 9) rfl)) e0 (g := (mkF m 1 #[.val (.ref a1), .val (.double d1), .second] [(.ref a1)])) rfl (by rw [hml]; rfl) rfl (hb hby d1_1) (by decide) (W := 0) (by show 2 * 0 + _ ≤ _; exact Nat.le_of_eq rfl) (by decide)
  obtain ⟨T102, h102, X102, e102, W102, st102⟩ := putF X101 hx hZ hown (host := "") (Or.inl (hw _ (List.mem_of_getElem? (i := 11) rfl))) Via.refl e101 P_F_a1_k3 P_E_a1 (Or.inr ⟨(hw _ (List.mem_of_getElem? (i := 12) rfl)), rfl, hnm⟩) (hw _ (List.mem_of_getElem? (i := 2) rfl)) (ty := .double) (by decide) rfl rfl (g := (mkF m 34 #[.val (.ref a1), .val (.double d1), .second] [(.double d1), (.ref a1)])) rfl rfl (hb hby d1_34)
  have F102 : Fld Z h102 a1 "com/example/libfolk/libfolk/ranking/Qtf" "k3" "D" (.double d1) := P_F_a1_k3.same W102
  have z103 : n0 ≤ h102.size := Nat.le_trans Z0 (Keep.of_wr W102).1
  have k104 : Keep h0 h102 [a1] := (Keep.refl h0 [a1]).wr W102 (Or.inl (List.mem_of_getElem? (i := 0) rfl))
  have N102 : Fr n0 _ := Fr.snoc X102 N0 P_G_a1
  have pre105 : ∀ t, Steps p.tables e below (T102.setTop (mkF m 37 #[.val (.ref a1), .val (.double d1), .second] [])) t → Steps p.tables e below (s₁.setTop (entryFrame m #[(.ref a1), (.double d1)] 3)) t := fun t kt => pre0 t (by
      show Steps p.tables e below (s₁.setTop (mkF m 0 #[.val (.ref a1), .val (.double d1), .second] [])) _
      refine XS.aloadN X0.here hx rfl (hb hby d1_0) rfl rfl ?_
      show Steps p.tables e below (s₁.setTop (mkF m 1 #[.val (.ref a1), .val (.double d1), .second] [(.ref a1)])) _
      refine st101 _ ?_
      show Steps p.tables e below (T101.setTop (mkF m 4 #[.val (.ref a1), .val (.double d1), .second] [])) _
      refine XS.dloadN X101.here hx rfl (hb hby d1_4) rfl ?_
      show Steps p.tables e below (T101.setTop (mkF m 5 #[.val (.ref a1), .val (.double d1), .second] [(.double d1)])) _
      refine XS.dconst0 X101.here hx rfl (hb hby d1_5) (v := (0 : UInt64)) rfl ?_
      show Steps p.tables e below (T101.setTop (mkF m 6 #[.val (.ref a1), .val (.double d1), .second] [(.double (0 : UInt64)), (.double d1)])) _
      refine XS.dcmpS X101.here hx rfl (hb hby d1_6) rfl (v := (cmpValue (FP.dcmp d1 (0 : UInt64)) .l)) rfl ?_
      show Steps p.tables e below (T101.setTop (mkF m 7 #[.val (.ref a1), .val (.double d1), .second] [(.int (cmpValue (FP.dcmp d1 (0 : UInt64)) .l))])) _
      refine XS.ifNo X101.here hx rfl (hb hby d1_7) rfl ((if0 _ _).trans (flt (OwnFP.cv_ge hf.noNaN OwnFP.fin_zero.noNaN (by rw [OwnFP.zv_zero]; exact hz0) .l : ¬ ((cmpValue (FP.dcmp d1 (0 : UInt64)) .l) < (0 : Int32)))).1) ?_
      show Steps p.tables e below (T101.setTop (mkF m 10 #[.val (.ref a1), .val (.double d1), .second] [])) _
      refine XS.dloadN X101.here hx rfl (hb hby d1_10) rfl ?_
      show Steps p.tables e below (T101.setTop (mkF m 11 #[.val (.ref a1), .val (.double d1), .second] [(.double d1)])) _
      refine X101.ldc2DoubleC hx hown (mvT hZ (hw _ (List.mem_of_getElem? (i := 10) rfl))) (g := (mkF m 11 #[.val (.ref a1), .val (.double d1), .second] [(.double d1)])) rfl (hb hby d1_11) _ ?_
      show Steps p.tables e below (T101.setTop (mkF m 14 #[.val (.ref a1), .val (.double d1), .second] [(.double (9218868437227405312 : UInt64)), (.double d1)])) _
      refine XS.dcmpS X101.here hx rfl (hb hby d1_14) rfl (v := (cmpValue (FP.dcmp d1 (9218868437227405312 : UInt64)) .g)) rfl ?_
      show Steps p.tables e below (T101.setTop (mkF m 15 #[.val (.ref a1), .val (.double d1), .second] [(.int (cmpValue (FP.dcmp d1 (9218868437227405312 : UInt64)) .g))])) _
      refine XS.ifYes X101.here hx rfl (pc0 := 15) (pc' := 32) rfl (hb hby d1_15) rfl ((if0 _ _).trans (tlt (by rw [dcmp_pinf hf]; decide : (cmpValue (FP.dcmp d1 (9218868437227405312 : UInt64)) .g) < (0 : Int32))).1) (by decide) (by decide) ?_
      show Steps p.tables e below (T101.setTop (mkF m 32 #[.val (.ref a1), .val (.double d1), .second] [])) _
      refine XS.aloadN X101.here hx rfl (hb hby d1_32) rfl rfl ?_
      show Steps p.tables e below (T101.setTop (mkF m 33 #[.val (.ref a1), .val (.double d1), .second] [(.ref a1)])) _
      refine XS.dloadN X101.here hx rfl (hb hby d1_33) rfl ?_
      show Steps p.tables e below (T101.setTop (mkF m 34 #[.val (.ref a1), .val (.double d1), .second] [(.double d1), (.ref a1)])) _
      refine st102 _ ?_
      exact kt)
  have f106 : Exa Z h102 a1 "com/example/libfolk/libfolk/ranking/Qtf" := (P_E_a1.wr W102)
  obtain ⟨fs, hr, hrun, hended, hW, hsame⟩ := X102.leave (v := none) (fun _ => rfl)
  refine ⟨_, _, pre105 _ ?_, hrun, hended, _, _, rfl, ?_, ⟨_, rfl⟩, hW, hsame.mono (by decide) (by decide)⟩
  · show Steps p.tables e below (T102.setTop (mkF m 37 #[.val (.ref a1), .val (.double d1), .second] [])) _
    exact X102.returnOut hx Bd.returns (hb hby d1_37) hr
  · show QQinit Z a1 d1 h0 n0 _ T102.heap _
    rw [e102]
    exact ⟨rfl, N102, k104, f106, F102⟩
theorem ef_Qof (m : MethodId) (a1 : Addr) (d2 : UInt64) : entryFrame m #[(.ref a1), (.double d2)] 3 = mkF m 0 #[.val (.ref a1), .val (.double d2), .second] [] := by first | (simp [entryFrame, mkF, argsToLocals, Value.category]; done) | rfl
theorem d3_0 : decode prog_54_method_3_code 0 = .ok (.dload_n 1, 1) := by decide +kernel
theorem d3_1 : decode prog_54_method_3_code 1 = .ok (.dconst 0, 1) := by decide +kernel
theorem d3_2 : decode prog_54_method_3_code 2 = .ok (.dcmp .l, 1) := by decide +kernel
theorem d3_3 : decode prog_54_method_3_code 3 = .ok (.ifCond .gt 17, 3) := by decide +kernel
theorem d3_20 : decode prog_54_method_3_code 20 = .ok (.aload_n 0, 1) := by decide +kernel
theorem d3_21 : decode prog_54_method_3_code 21 = .ok (.getfield 20, 3) := by decide +kernel
theorem d3_24 : decode prog_54_method_3_code 24 = .ok (.dconst 1, 1) := by decide +kernel
theorem d3_25 : decode prog_54_method_3_code 25 = .ok (.dadd, 1) := by decide +kernel
theorem d3_26 : decode prog_54_method_3_code 26 = .ok (.dload_n 1, 1) := by decide +kernel
theorem d3_27 : decode prog_54_method_3_code 27 = .ok (.dmul, 1) := by decide +kernel
theorem d3_28 : decode prog_54_method_3_code 28 = .ok (.aload_n 0, 1) := by decide +kernel
theorem d3_29 : decode prog_54_method_3_code 29 = .ok (.getfield 20, 3) := by decide +kernel
theorem d3_32 : decode prog_54_method_3_code 32 = .ok (.dload_n 1, 1) := by decide +kernel
theorem d3_33 : decode prog_54_method_3_code 33 = .ok (.dadd, 1) := by decide +kernel
theorem d3_34 : decode prog_54_method_3_code 34 = .ok (.ddiv, 1) := by decide +kernel
theorem d3_35 : decode prog_54_method_3_code 35 = .ok (.dreturn, 1) := by decide +kernel
def QQof (Z : State) (a1 : Addr) (d2 : UInt64) (d1 : UInt64) (h0 : Heap) (n0 : Nat) (v : Option Value) (h : Heap) (L : List Loc) : Prop := v = some (.double (FP.ddiv (FP.dmul (FP.dadd d1 (4607182418800017408 : UInt64)) d2) (FP.dadd d1 d2))) ∧ Fr n0 L ∧ h = h0
set_option maxRecDepth 65536 in
set_option maxHeartbeats 40000000 in
theorem rmQof (l : Launch) (Z : State) (a0 : Array Value) (hw : ∀ d ∈ tables_1, d.before a0 Z = true) (ws : List Jvm.Cond) (a1 : Addr) (d2 : UInt64) (d1 : UInt64) (h0 : Heap) (n0 : Nat) (Z0 : n0 ≤ h0.size) (P_F_a1_k3 : Fld Z h0 a1 "com/example/libfolk/libfolk/ranking/Qtf" "k3" "D" (.double d1)) (hf : Fin64 d2) (hz0 : 0 < OwnFP.zv d2) (n1 : NoNaN64 (FP.dadd d1 (4607182418800017408 : UInt64))) (n2 : NoNaN64 (FP.dmul (FP.dadd d1 (4607182418800017408 : UInt64)) d2)) (n3 : NoNaN64 (FP.dadd d1 d2)) (n4 : NoNaN64 (FP.ddiv (FP.dmul (FP.dadd d1 (4607182418800017408 : UInt64)) d2) (FP.dadd d1 d2))) :
    MetFree l (⟨"com/example/libfolk/libfolk/ranking/Qtf", "of", "(D)D"⟩ : MethodName) (head1 (Jvm.Cond.code (⟨"com/example/libfolk/libfolk/ranking/Qtf", "of", "(D)D"⟩ : MethodName) prog_54_method_3_code 3 (some .double) :: ws) ({ frames := 0, cells := 0, slots := 0, locals := 0 } : Room)) (fun a U => a = #[(.ref a1), (.double d2)] ∧ Z.Warmed39 U.vm ∧ U.heap = h0) (fun _ _ _ _ _ => True) (fun _ U o U' => ∃ v L, o = .returned v ∧ QQof Z a1 d2 d1 h0 n0 v U'.heap L ∧ FrameEnd U o U' L ({ frames := 0, cells := 0, slots := 0, locals := 0 } : Room).cells ({ frames := 0, cells := 0, slots := 0, locals := 0 } : Room).slots) := by
  refine MetFree.of_bodySF (plainFor_of_name pn_com_example_libfolk_libfolk_ranking_Qtf) hisR ?_
  intro p e s m args below meth c s₁ Bd hml0 hP hK
  obtain ⟨rfl, hZ, hh⟩ := hP
  have hx := Bd.exec
  have hby := Bd.bytes
  have hml : c.maxLocals = 3 := hml0
  have hown : s.vm.findClass "com/example/libfolk/libfolk/ranking/Qtf" = some m.cls := findClass_of_methodNamed Bd.named
  have hnm := (name_of_methodNamed Bd.named Bd.method).1
  have X0 : Stand p l e ({ frames := 0, cells := 0, slots := 0, locals := 0 } : Room) s m #[(.ref a1), (.double d2)] below meth c s₁ [] 0 0 := Stand.of_body Bd
  have e0 : s₁.heap = h0 := by rw [← hh, Bd.state]; rfl
  have N0 := Fr.nil n0
  have pre0 : ∀ t, Steps p.tables e below (s₁.setTop (mkF m 0 #[.val (.ref a1), .val (.double d2), .second] [])) t → Steps p.tables e below (s₁.setTop (entryFrame m #[(.ref a1), (.double d2)] 3)) t := fun t k => castTop (ef_Qof m a1 d2) k
  obtain ⟨T101, X101, e101, st101⟩ := getF X0 hx hZ hown (host := "") (Or.inl (hw _ (List.mem_of_getElem? (i := 11) rfl))) Via.refl e0 P_F_a1_k3 (g := (mkF m 21 #[.val (.ref a1), .val (.double d2), .second] [(.ref a1)])) rfl rfl (hb hby d3_21)
  obtain ⟨T102, X102, e102, st102⟩ := getF X101 hx hZ hown (host := "") (Or.inl (hw _ (List.mem_of_getElem? (i := 11) rfl))) Via.refl e101 P_F_a1_k3 (g := (mkF m 29 #[.val (.ref a1), .val (.double d2), .second] [(.ref a1), (.double (FP.dmul (FP.dadd d1 (4607182418800017408 : UInt64)) d2))])) rfl rfl (hb hby d3_29)
  have pre103 : ∀ t, Steps p.tables e below (T102.setTop (mkF m 35 #[.val (.ref a1), .val (.double d2), .second] [(.double (FP.ddiv (FP.dmul (FP.dadd d1 (4607182418800017408 : UInt64)) d2) (FP.dadd d1 d2)))])) t → Steps p.tables e below (s₁.setTop (entryFrame m #[(.ref a1), (.double d2)] 3)) t := fun t kt => pre0 t (by
      show Steps p.tables e below (s₁.setTop (mkF m 0 #[.val (.ref a1), .val (.double d2), .second] [])) _
      refine XS.dloadN X0.here hx rfl (hb hby d3_0) rfl ?_
      show Steps p.tables e below (s₁.setTop (mkF m 1 #[.val (.ref a1), .val (.double d2), .second] [(.double d2)])) _
      refine XS.dconst0 X0.here hx rfl (hb hby d3_1) (v := (0 : UInt64)) rfl ?_
      show Steps p.tables e below (s₁.setTop (mkF m 2 #[.val (.ref a1), .val (.double d2), .second] [(.double (0 : UInt64)), (.double d2)])) _
      refine XS.dcmpS X0.here hx rfl (hb hby d3_2) rfl (v := (cmpValue (FP.dcmp d2 (0 : UInt64)) .l)) rfl ?_
      show Steps p.tables e below (s₁.setTop (mkF m 3 #[.val (.ref a1), .val (.double d2), .second] [(.int (cmpValue (FP.dcmp d2 (0 : UInt64)) .l))])) _
      refine XS.ifYes X0.here hx rfl (pc0 := 3) (pc' := 20) rfl (hb hby d3_3) rfl ((if0 _ _).trans (tlt (by rw [OwnFP.cv_gt hf.noNaN OwnFP.fin_zero.noNaN (by rw [OwnFP.zv_zero]; exact hz0)]; decide : (0 : Int32) < (cmpValue (FP.dcmp d2 (0 : UInt64)) .l))).2.2.1) (by decide) (by decide) ?_
      show Steps p.tables e below (s₁.setTop (mkF m 20 #[.val (.ref a1), .val (.double d2), .second] [])) _
      refine XS.aloadN X0.here hx rfl (hb hby d3_20) rfl rfl ?_
      show Steps p.tables e below (s₁.setTop (mkF m 21 #[.val (.ref a1), .val (.double d2), .second] [(.ref a1)])) _
      refine st101 _ ?_
      show Steps p.tables e below (T101.setTop (mkF m 24 #[.val (.ref a1), .val (.double d2), .second] [(.double d1)])) _
      refine XS.dconst1 X101.here hx rfl (hb hby d3_24) (v := (4607182418800017408 : UInt64)) rfl ?_
      show Steps p.tables e below (T101.setTop (mkF m 25 #[.val (.ref a1), .val (.double d2), .second] [(.double (4607182418800017408 : UInt64)), (.double d1)])) _
      refine XS.daddS X101.here hx rfl (hb hby d3_25) rfl n1 (v := (FP.dadd d1 (4607182418800017408 : UInt64))) rfl ?_
      show Steps p.tables e below (T101.setTop (mkF m 26 #[.val (.ref a1), .val (.double d2), .second] [(.double (FP.dadd d1 (4607182418800017408 : UInt64)))])) _
      refine XS.dloadN X101.here hx rfl (hb hby d3_26) rfl ?_
      show Steps p.tables e below (T101.setTop (mkF m 27 #[.val (.ref a1), .val (.double d2), .second] [(.double d2), (.double (FP.dadd d1 (4607182418800017408 : UInt64)))])) _
      refine XS.dmulS X101.here hx rfl (hb hby d3_27) rfl n2 (v := (FP.dmul (FP.dadd d1 (4607182418800017408 : UInt64)) d2)) rfl ?_
      show Steps p.tables e below (T101.setTop (mkF m 28 #[.val (.ref a1), .val (.double d2), .second] [(.double (FP.dmul (FP.dadd d1 (4607182418800017408 : UInt64)) d2))])) _
      refine XS.aloadN X101.here hx rfl (hb hby d3_28) rfl rfl ?_
      show Steps p.tables e below (T101.setTop (mkF m 29 #[.val (.ref a1), .val (.double d2), .second] [(.ref a1), (.double (FP.dmul (FP.dadd d1 (4607182418800017408 : UInt64)) d2))])) _
      refine st102 _ ?_
      show Steps p.tables e below (T102.setTop (mkF m 32 #[.val (.ref a1), .val (.double d2), .second] [(.double d1), (.double (FP.dmul (FP.dadd d1 (4607182418800017408 : UInt64)) d2))])) _
      refine XS.dloadN X102.here hx rfl (hb hby d3_32) rfl ?_
      show Steps p.tables e below (T102.setTop (mkF m 33 #[.val (.ref a1), .val (.double d2), .second] [(.double d2), (.double d1), (.double (FP.dmul (FP.dadd d1 (4607182418800017408 : UInt64)) d2))])) _
      refine XS.daddS X102.here hx rfl (hb hby d3_33) rfl n3 (v := (FP.dadd d1 d2)) rfl ?_
      show Steps p.tables e below (T102.setTop (mkF m 34 #[.val (.ref a1), .val (.double d2), .second] [(.double (FP.dadd d1 d2)), (.double (FP.dmul (FP.dadd d1 (4607182418800017408 : UInt64)) d2))])) _
      refine XS.ddivS X102.here hx rfl (hb hby d3_34) rfl n4 (v := (FP.ddiv (FP.dmul (FP.dadd d1 (4607182418800017408 : UInt64)) d2) (FP.dadd d1 d2))) rfl ?_
      exact kt)
  obtain ⟨fs, hr, hrun, hended, hW, hsame⟩ := X102.leave (v := some (.double (FP.ddiv (FP.dmul (FP.dadd d1 (4607182418800017408 : UInt64)) d2) (FP.dadd d1 d2)))) (fun h => by rw [Bd.returns] at h; cases h)
  refine ⟨_, _, pre103 _ ?_, hrun, hended, _, _, rfl, ?_, ⟨_, rfl⟩, hW, hsame.mono (by decide) (by decide)⟩
  · show Steps p.tables e below (T102.setTop (mkF m 35 #[.val (.ref a1), .val (.double d2), .second] [(.double (FP.ddiv (FP.dmul (FP.dadd d1 (4607182418800017408 : UInt64)) d2) (FP.dadd d1 d2)))])) _
    exact own_retD X102 hx Bd.returns (hb hby d3_35) hr
  · show QQof Z a1 d2 d1 h0 n0 _ T102.heap _
    rw [e102]
    exact ⟨rfl, N0, rfl⟩
theorem ef_0 (m : MethodId) (p1 : Int32) (p2 : Int32) : entryFrame m #[(.int p1), (.int p2)] maxLocals = mkF m 0 #[.val (.int p1), .val (.int p2), .unset, .unset, .unset, .unset, .unset, .unset, .unset, .unset, .unset, .unset, .unset, .unset, .unset, .unset, .unset, .unset, .unset, .unset, .unset, .unset, .unset, .unset, .unset, .unset, .unset, .unset, .unset] [] := by first | (simp [entryFrame, mkF, argsToLocals, Value.category, maxLocals]; done) | rfl
theorem pd__28D_29V : parseMethodDescriptor "(D)V" = some ⟨[.double], none⟩ := by decide +kernel
theorem pd__28D_29D : parseMethodDescriptor "(D)D" = some ⟨[.double], some .double⟩ := by decide +kernel
theorem pn_com_example_libfolk_libfolk_ranking_QtfOfPinLaw : plainName "com/example/libfolk/libfolk/ranking/QtfOfPinLaw" = true := by first | (simp [plainName, overriddenIn]; done) | decide +kernel
def Q0 (Z : State) (p1 : Int32) (p2 : Int32) (h0 : Heap) (n0 : Nat) (v : Option Value) (h : Heap) (L : List Loc) : Prop := v = some (.int (1 : Int32)) ∧ Fr n0 L
set_option maxRecDepth 65536 in
set_option maxHeartbeats 40000000 in
theorem rm0 (l : Launch) (Z : State) (a0 : Array Value) (hw : ∀ d ∈ tables_1, d.before a0 Z = true) (ws : List Jvm.Cond) (p1 : Int32) (p2 : Int32) (h0 : Heap) (n0 : Nat) (Z0 : n0 ≤ h0.size) :
    MetFree l x (head1 (Jvm.Cond.code x code maxLocals ret :: ws) room_1) (fun a U => a = #[(.int p1), (.int p2)] ∧ Z.Warmed39 U.vm ∧ U.heap = h0) (fun _ _ _ _ _ => True) (fun _ U o U' => ∃ v L, o = .returned v ∧ Q0 Z p1 p2 h0 n0 v U'.heap L ∧ FrameEnd U o U' L 16 128) := by
  refine MetFree.of_bodySF (plainFor_of_name pn_com_example_libfolk_libfolk_ranking_QtfOfPinLaw) hisR ?_
  intro p e s m args below meth c s₁ Bd hml0 hP hK
  obtain ⟨rfl, hZ, hh⟩ := hP
  have hx := Bd.exec
  have hby := Bd.bytes
  have hml : c.maxLocals = 29 := hml0
  have hown : s.vm.findClass "com/example/libfolk/libfolk/ranking/QtfOfPinLaw" = some m.cls := findClass_of_methodNamed Bd.named
  have hnm := (name_of_methodNamed Bd.named Bd.method).1
  have X0 : Stand p l e room_1 s m #[(.int p1), (.int p2)] below meth c s₁ [] 0 0 := Stand.of_body Bd
  have e0 : s₁.heap = h0 := by rw [← hh, Bd.state]; rfl
  have N0 := Fr.nil n0
  have pre0 : ∀ t, Steps p.tables e below (s₁.setTop (mkF m 0 #[.val (.int p1), .val (.int p2), .unset, .unset, .unset, .unset, .unset, .unset, .unset, .unset, .unset, .unset, .unset, .unset, .unset, .unset, .unset, .unset, .unset, .unset, .unset, .unset, .unset, .unset, .unset, .unset, .unset, .unset, .unset] [])) t → Steps p.tables e below (s₁.setTop (entryFrame m #[(.int p1), (.int p2)] maxLocals)) t := fun t k => castTop (ef_0 m p1 p2) k
  have hb0 := own_ab p2
  have hb1 := own_p1 hb0
  obtain ⟨a, ea⟩ : ∃ z, z = (p1 &&& (1048575 : Int32)) := ⟨_, rfl⟩
  obtain ⟨b, eb⟩ : ∃ z, z = ((p2 &&& (1048575 : Int32)) + (1 : Int32)) := ⟨_, rfl⟩
  have ha := own_ab p1
  rw [← ea] at ha
  have hbb : 1 ≤ b.toInt ∧ b.toInt ≤ 1048576 := by rw [eb]; omega
  obtain ⟨s1, s2, s3, l1, l2⟩ := own_big ha hbb
  obtain ⟨⟨f1, f2, f3, f4⟩, g1, g2, g3, g4, g5, g6⟩ := own_main ha hbb
  have ng := own_neg f3
  obtain ⟨T101, h101, X101, e101, E101, A101, D101, -, st101⟩ := newO X0 hx hZ hown (hw _ (List.mem_of_getElem? (i := 1) rfl)) (hw _ (List.mem_of_getElem? (i := 2) rfl)) (hw _ (List.mem_of_getElem? (i := 3) rfl)) e0 (g := (mkF m 20 #[.val (.int p1), .val (.int p2), .val (.int a), .val (.int b), .val (.double (FP.i2d a)), .second, .val (.double (FP.i2d b)), .second, .unset, .unset, .unset, .unset, .unset, .unset, .unset, .unset, .unset, .unset, .unset, .unset, .unset, .unset, .unset, .unset, .unset, .unset, .unset, .unset, .unset] [])) rfl (hb hby at_20) (by decide) (by decide)
  obtain ⟨b101, g101⟩ : ∃ z, z = h0.size := ⟨_, rfl⟩
  rw [← g101] at A101 D101 st101
  have g_b101 : n0 ≤ b101 := Nat.le_trans Z0 (Nat.le_of_eq g101.symm)
  have z102 : n0 ≤ h101.size := Nat.le_trans Z0 E101.1
  have F101_12 : Fld Z h101 b101 "com/example/libfolk/libfolk/ranking/Qtf" "k3" "D" (.double (0 : UInt64)) := D101 (Or.inr (hw _ (List.mem_of_getElem? (i := 12) rfl))) (ty := .double) (by decide)
  obtain ⟨_, _, ⟨T103, L103, kk103, nn103⟩, -, X103, ⟨Lc103, hQ103, l103, y103, z103⟩, st103⟩ := X101.specialBack hx (y := (⟨"com/example/libfolk/libfolk/ranking/Qtf", "<init>", "(D)V"⟩ : MethodName)) rfl hown (mvT hZ (hw _ (List.mem_of_getElem? (i := 4) rfl))) (mvT hZ (hw _ (List.mem_of_getElem? (i := 5) rfl))) (mvT hZ (hw _ (List.mem_of_getElem? (i := 6) rfl))) (by decide) (backOf (W := 1) (rmQinit l Z a0 hw [] b101 (FP.i2d a) h101 n0 z102 A101 g_b101 F101_12 (Fl.i2d_fin _) (by rw [(OwnFP.is_i2d a).2]; exact Int.mul_nonneg ha.1 (Int.le_of_lt (OwnFP.U_pos 0)))) hZ (hw _ (List.mem_of_getElem? (i := 6) rfl)) (hw _ (List.mem_of_getElem? (i := 3) rfl)) (by decide) (by decide)) (g := (mkF m 26 #[.val (.int p1), .val (.int p2), .val (.int a), .val (.int b), .val (.double (FP.i2d a)), .second, .val (.double (FP.i2d b)), .second, .unset, .unset, .unset, .unset, .unset, .unset, .unset, .unset, .unset, .unset, .unset, .unset, .unset, .unset, .unset, .unset, .unset, .unset, .unset, .unset, .unset] [(.double (FP.i2d a)), (.ref b101), (.ref b101)])) rfl (by rw [hml]; rfl) (Steps.refl _) (a := b101) (argsL := [(.double (FP.i2d a))]) (rest := [(.ref b101)]) (lenOf pd__28D_29V rfl) rfl (by show 2 * 0 + _ ≤ _; exact Nat.le_of_eq rfl) (hb hby at_26) (fun _ _ => ⟨rfl, e101, (by decide : 1 + 0 ≤ _), (by decide : 1 + 0 ≤ _)⟩)
  dsimp only [Pt.U, Pt.locs, Pt.cells, Pt.slots] at X103 l103 y103 z103 st103 hQ103
  subst l103 y103 z103
  obtain ⟨rfl, N103q, K103, x103_0, x103_1⟩ := hQ103
  have N103 := Fr.app N0 N103q
  have z104 : n0 ≤ T103.heap.size := Nat.le_trans z102 K103.1
  obtain ⟨cq105, kq105, q105a, q105b, q105c⟩ := isOf hZ rfl x103_0
  obtain ⟨_, _, ⟨T105, L105, kk105, nn105⟩, -, X105, ⟨Lc105, hQ105, l105, y105, z105⟩, st105⟩ := X103.virtualBack hx (y := (⟨"com/example/libfolk/libfolk/ranking/Qtf", "of", "(D)D"⟩ : MethodName)) (z := (⟨"com/example/libfolk/libfolk/ranking/Qtf", "of", "(D)D"⟩ : MethodName)) hown (mvT hZ (hw _ (List.mem_of_getElem? (i := 13) rfl))) (mvT hZ (hw _ (List.mem_of_getElem? (i := 14) rfl))) (notFace_of_selects (args := #[]) (mvT hZ (hw _ (List.mem_of_getElem? (i := 16) rfl)))) (mvT hZ (hw _ (List.mem_of_getElem? (i := 16) rfl))) (mvT hZ (hw _ (List.mem_of_getElem? (i := 15) rfl))) (by decide) (backOf (W := 0) (rmQof l Z a0 hw [] b101 (FP.i2d b) (FP.i2d a) T103.heap n0 z104 x103_1 (Fl.i2d_fin _) (by rw [(OwnFP.is_i2d b).2]; exact Int.mul_pos (by omega) (OwnFP.U_pos 0)) (s1.nn) (s2.nn) (s3.nn) (f1.noNaN)) hZ (hw _ (List.mem_of_getElem? (i := 17) rfl)) (hw _ (List.mem_of_getElem? (i := 3) rfl)) (by decide) (by decide)) q105a q105c (g := (mkF m 35 #[.val (.int p1), .val (.int p2), .val (.int a), .val (.int b), .val (.double (FP.i2d a)), .second, .val (.double (FP.i2d b)), .second, .val (.ref b101), .unset, .unset, .unset, .unset, .unset, .unset, .unset, .unset, .unset, .unset, .unset, .unset, .unset, .unset, .unset, .unset, .unset, .unset, .unset, .unset] [(.double (FP.i2d b)), (.ref b101)])) rfl (by rw [hml]; rfl) (Steps.refl _) (argsL := [(.double (FP.i2d b))]) (rest := []) (lenOf pd__28D_29D rfl) rfl (by show 2 * 0 + _ ≤ _; exact Nat.le_of_eq rfl) (hb hby at_35) (fun _ _ => ⟨rfl, rfl, (by decide : 1 + 0 ≤ _), (by decide : 1 + 0 ≤ _)⟩)
  dsimp only [Pt.U, Pt.locs, Pt.cells, Pt.slots] at X105 l105 y105 z105 st105 hQ105
  subst l105 y105 z105
  obtain ⟨rfl, N105q, e105⟩ := hQ105
  have N105 := Fr.app N103 N105q
  have pre106 : ∀ t, Steps p.tables e below (T105.setTop (mkF m 152 #[.val (.int p1), .val (.int p2), .val (.int a), .val (.int b), .val (.double (FP.i2d a)), .second, .val (.double (FP.i2d b)), .second, .val (.ref b101), .val (.double (own_r a b)), .second, .val (.long (own_nl a b)), .second, .val (.long (own_dl a b)), .second, .val (.double (FP.l2d (own_nl a b))), .second, .val (.double (FP.l2d (own_dl a b))), .second, .val (.double (FP.dmul (own_r a b) (FP.l2d (own_dl a b)))), .second, .val (.double (FP.dsub (FP.dmul (own_r a b) (FP.l2d (own_dl a b))) (FP.l2d (own_nl a b)))), .second, .val (.double (FP.ddiv (FP.l2d (own_nl a b)) (4787326403894837248 : UInt64))), .second, .val (.int (1 : Int32)), .val (.int (1 : Int32)), .val (.int (1 : Int32)), .unset] [(.int a)])) t → Steps p.tables e below (s₁.setTop (entryFrame m #[(.int p1), (.int p2)] maxLocals)) t := fun t kt => pre0 t (by
      show Steps p.tables e below (s₁.setTop (mkF m 0 #[.val (.int p1), .val (.int p2), .unset, .unset, .unset, .unset, .unset, .unset, .unset, .unset, .unset, .unset, .unset, .unset, .unset, .unset, .unset, .unset, .unset, .unset, .unset, .unset, .unset, .unset, .unset, .unset, .unset, .unset, .unset] [])) _
      refine XS.iloadN X0.here hx rfl (hb hby at_0) rfl ?_
      show Steps p.tables e below (s₁.setTop (mkF m 1 #[.val (.int p1), .val (.int p2), .unset, .unset, .unset, .unset, .unset, .unset, .unset, .unset, .unset, .unset, .unset, .unset, .unset, .unset, .unset, .unset, .unset, .unset, .unset, .unset, .unset, .unset, .unset, .unset, .unset, .unset, .unset] [(.int p1)])) _
      refine X0.ldcInt hx hown (mvT hZ (hw _ (List.mem_of_getElem? (i := 0) rfl))) (g := (mkF m 1 #[.val (.int p1), .val (.int p2), .unset, .unset, .unset, .unset, .unset, .unset, .unset, .unset, .unset, .unset, .unset, .unset, .unset, .unset, .unset, .unset, .unset, .unset, .unset, .unset, .unset, .unset, .unset, .unset, .unset, .unset, .unset] [(.int p1)])) rfl (hb hby at_1) _ ?_
      show Steps p.tables e below (s₁.setTop (mkF m 3 #[.val (.int p1), .val (.int p2), .unset, .unset, .unset, .unset, .unset, .unset, .unset, .unset, .unset, .unset, .unset, .unset, .unset, .unset, .unset, .unset, .unset, .unset, .unset, .unset, .unset, .unset, .unset, .unset, .unset, .unset, .unset] [(.int (1048575 : Int32)), (.int p1)])) _
      refine XS.iand X0.here hx rfl (hb hby at_3) rfl ?_
      show Steps p.tables e below (s₁.setTop (mkF m 4 #[.val (.int p1), .val (.int p2), .unset, .unset, .unset, .unset, .unset, .unset, .unset, .unset, .unset, .unset, .unset, .unset, .unset, .unset, .unset, .unset, .unset, .unset, .unset, .unset, .unset, .unset, .unset, .unset, .unset, .unset, .unset] [(.int (p1 &&& (1048575 : Int32)))])) _
      rw [← ea]
      show Steps p.tables e below (s₁.setTop (mkF m 4 #[.val (.int p1), .val (.int p2), .unset, .unset, .unset, .unset, .unset, .unset, .unset, .unset, .unset, .unset, .unset, .unset, .unset, .unset, .unset, .unset, .unset, .unset, .unset, .unset, .unset, .unset, .unset, .unset, .unset, .unset, .unset] [(.int a)])) _
      refine XS.istoreN X0.here hx rfl (hb hby at_4) rfl (l' := #[.val (.int p1), .val (.int p2), .val (.int a), .unset, .unset, .unset, .unset, .unset, .unset, .unset, .unset, .unset, .unset, .unset, .unset, .unset, .unset, .unset, .unset, .unset, .unset, .unset, .unset, .unset, .unset, .unset, .unset, .unset, .unset]) rfl ?_
      show Steps p.tables e below (s₁.setTop (mkF m 5 #[.val (.int p1), .val (.int p2), .val (.int a), .unset, .unset, .unset, .unset, .unset, .unset, .unset, .unset, .unset, .unset, .unset, .unset, .unset, .unset, .unset, .unset, .unset, .unset, .unset, .unset, .unset, .unset, .unset, .unset, .unset, .unset] [])) _
      refine XS.iloadN X0.here hx rfl (hb hby at_5) rfl ?_
      show Steps p.tables e below (s₁.setTop (mkF m 6 #[.val (.int p1), .val (.int p2), .val (.int a), .unset, .unset, .unset, .unset, .unset, .unset, .unset, .unset, .unset, .unset, .unset, .unset, .unset, .unset, .unset, .unset, .unset, .unset, .unset, .unset, .unset, .unset, .unset, .unset, .unset, .unset] [(.int p2)])) _
      refine X0.ldcInt hx hown (mvT hZ (hw _ (List.mem_of_getElem? (i := 0) rfl))) (g := (mkF m 6 #[.val (.int p1), .val (.int p2), .val (.int a), .unset, .unset, .unset, .unset, .unset, .unset, .unset, .unset, .unset, .unset, .unset, .unset, .unset, .unset, .unset, .unset, .unset, .unset, .unset, .unset, .unset, .unset, .unset, .unset, .unset, .unset] [(.int p2)])) rfl (hb hby at_6) _ ?_
      show Steps p.tables e below (s₁.setTop (mkF m 8 #[.val (.int p1), .val (.int p2), .val (.int a), .unset, .unset, .unset, .unset, .unset, .unset, .unset, .unset, .unset, .unset, .unset, .unset, .unset, .unset, .unset, .unset, .unset, .unset, .unset, .unset, .unset, .unset, .unset, .unset, .unset, .unset] [(.int (1048575 : Int32)), (.int p2)])) _
      refine XS.iand X0.here hx rfl (hb hby at_8) rfl ?_
      show Steps p.tables e below (s₁.setTop (mkF m 9 #[.val (.int p1), .val (.int p2), .val (.int a), .unset, .unset, .unset, .unset, .unset, .unset, .unset, .unset, .unset, .unset, .unset, .unset, .unset, .unset, .unset, .unset, .unset, .unset, .unset, .unset, .unset, .unset, .unset, .unset, .unset, .unset] [(.int (p2 &&& (1048575 : Int32)))])) _
      refine XS.iconst X0.here hx rfl (hb hby at_9) ?_
      show Steps p.tables e below (s₁.setTop (mkF m 10 #[.val (.int p1), .val (.int p2), .val (.int a), .unset, .unset, .unset, .unset, .unset, .unset, .unset, .unset, .unset, .unset, .unset, .unset, .unset, .unset, .unset, .unset, .unset, .unset, .unset, .unset, .unset, .unset, .unset, .unset, .unset, .unset] [(.int (1 : Int32)), (.int (p2 &&& (1048575 : Int32)))])) _
      refine XS.iadd X0.here hx rfl (hb hby at_10) rfl ?_
      show Steps p.tables e below (s₁.setTop (mkF m 11 #[.val (.int p1), .val (.int p2), .val (.int a), .unset, .unset, .unset, .unset, .unset, .unset, .unset, .unset, .unset, .unset, .unset, .unset, .unset, .unset, .unset, .unset, .unset, .unset, .unset, .unset, .unset, .unset, .unset, .unset, .unset, .unset] [(.int ((p2 &&& (1048575 : Int32)) + (1 : Int32)))])) _
      rw [← eb]
      show Steps p.tables e below (s₁.setTop (mkF m 11 #[.val (.int p1), .val (.int p2), .val (.int a), .unset, .unset, .unset, .unset, .unset, .unset, .unset, .unset, .unset, .unset, .unset, .unset, .unset, .unset, .unset, .unset, .unset, .unset, .unset, .unset, .unset, .unset, .unset, .unset, .unset, .unset] [(.int b)])) _
      refine XS.istoreN X0.here hx rfl (hb hby at_11) rfl (l' := #[.val (.int p1), .val (.int p2), .val (.int a), .val (.int b), .unset, .unset, .unset, .unset, .unset, .unset, .unset, .unset, .unset, .unset, .unset, .unset, .unset, .unset, .unset, .unset, .unset, .unset, .unset, .unset, .unset, .unset, .unset, .unset, .unset]) rfl ?_
      show Steps p.tables e below (s₁.setTop (mkF m 12 #[.val (.int p1), .val (.int p2), .val (.int a), .val (.int b), .unset, .unset, .unset, .unset, .unset, .unset, .unset, .unset, .unset, .unset, .unset, .unset, .unset, .unset, .unset, .unset, .unset, .unset, .unset, .unset, .unset, .unset, .unset, .unset, .unset] [])) _
      refine XS.iloadN X0.here hx rfl (hb hby at_12) rfl ?_
      show Steps p.tables e below (s₁.setTop (mkF m 13 #[.val (.int p1), .val (.int p2), .val (.int a), .val (.int b), .unset, .unset, .unset, .unset, .unset, .unset, .unset, .unset, .unset, .unset, .unset, .unset, .unset, .unset, .unset, .unset, .unset, .unset, .unset, .unset, .unset, .unset, .unset, .unset, .unset] [(.int a)])) _
      refine XS.i2dS X0.here hx rfl (hb hby at_13) rfl (v := (FP.i2d a)) rfl ?_
      show Steps p.tables e below (s₁.setTop (mkF m 14 #[.val (.int p1), .val (.int p2), .val (.int a), .val (.int b), .unset, .unset, .unset, .unset, .unset, .unset, .unset, .unset, .unset, .unset, .unset, .unset, .unset, .unset, .unset, .unset, .unset, .unset, .unset, .unset, .unset, .unset, .unset, .unset, .unset] [(.double (FP.i2d a))])) _
      refine XS.dstore X0.here hx rfl (hb hby at_14) rfl (l' := #[.val (.int p1), .val (.int p2), .val (.int a), .val (.int b), .val (.double (FP.i2d a)), .second, .unset, .unset, .unset, .unset, .unset, .unset, .unset, .unset, .unset, .unset, .unset, .unset, .unset, .unset, .unset, .unset, .unset, .unset, .unset, .unset, .unset, .unset, .unset]) rfl ?_
      show Steps p.tables e below (s₁.setTop (mkF m 16 #[.val (.int p1), .val (.int p2), .val (.int a), .val (.int b), .val (.double (FP.i2d a)), .second, .unset, .unset, .unset, .unset, .unset, .unset, .unset, .unset, .unset, .unset, .unset, .unset, .unset, .unset, .unset, .unset, .unset, .unset, .unset, .unset, .unset, .unset, .unset] [])) _
      refine XS.iloadN X0.here hx rfl (hb hby at_16) rfl ?_
      show Steps p.tables e below (s₁.setTop (mkF m 17 #[.val (.int p1), .val (.int p2), .val (.int a), .val (.int b), .val (.double (FP.i2d a)), .second, .unset, .unset, .unset, .unset, .unset, .unset, .unset, .unset, .unset, .unset, .unset, .unset, .unset, .unset, .unset, .unset, .unset, .unset, .unset, .unset, .unset, .unset, .unset] [(.int b)])) _
      refine XS.i2dS X0.here hx rfl (hb hby at_17) rfl (v := (FP.i2d b)) rfl ?_
      show Steps p.tables e below (s₁.setTop (mkF m 18 #[.val (.int p1), .val (.int p2), .val (.int a), .val (.int b), .val (.double (FP.i2d a)), .second, .unset, .unset, .unset, .unset, .unset, .unset, .unset, .unset, .unset, .unset, .unset, .unset, .unset, .unset, .unset, .unset, .unset, .unset, .unset, .unset, .unset, .unset, .unset] [(.double (FP.i2d b))])) _
      refine XS.dstore X0.here hx rfl (hb hby at_18) rfl (l' := #[.val (.int p1), .val (.int p2), .val (.int a), .val (.int b), .val (.double (FP.i2d a)), .second, .val (.double (FP.i2d b)), .second, .unset, .unset, .unset, .unset, .unset, .unset, .unset, .unset, .unset, .unset, .unset, .unset, .unset, .unset, .unset, .unset, .unset, .unset, .unset, .unset, .unset]) rfl ?_
      show Steps p.tables e below (s₁.setTop (mkF m 20 #[.val (.int p1), .val (.int p2), .val (.int a), .val (.int b), .val (.double (FP.i2d a)), .second, .val (.double (FP.i2d b)), .second, .unset, .unset, .unset, .unset, .unset, .unset, .unset, .unset, .unset, .unset, .unset, .unset, .unset, .unset, .unset, .unset, .unset, .unset, .unset, .unset, .unset] [])) _
      refine st101 _ ?_
      show Steps p.tables e below (T101.setTop (mkF m 23 #[.val (.int p1), .val (.int p2), .val (.int a), .val (.int b), .val (.double (FP.i2d a)), .second, .val (.double (FP.i2d b)), .second, .unset, .unset, .unset, .unset, .unset, .unset, .unset, .unset, .unset, .unset, .unset, .unset, .unset, .unset, .unset, .unset, .unset, .unset, .unset, .unset, .unset] [(.ref b101)])) _
      refine XS.dup X101.here hx rfl (hb hby at_23) rfl rfl ?_
      show Steps p.tables e below (T101.setTop (mkF m 24 #[.val (.int p1), .val (.int p2), .val (.int a), .val (.int b), .val (.double (FP.i2d a)), .second, .val (.double (FP.i2d b)), .second, .unset, .unset, .unset, .unset, .unset, .unset, .unset, .unset, .unset, .unset, .unset, .unset, .unset, .unset, .unset, .unset, .unset, .unset, .unset, .unset, .unset] [(.ref b101), (.ref b101)])) _
      refine XS.dload X101.here hx rfl (hb hby at_24) rfl ?_
      show Steps p.tables e below (T101.setTop (mkF m 26 #[.val (.int p1), .val (.int p2), .val (.int a), .val (.int b), .val (.double (FP.i2d a)), .second, .val (.double (FP.i2d b)), .second, .unset, .unset, .unset, .unset, .unset, .unset, .unset, .unset, .unset, .unset, .unset, .unset, .unset, .unset, .unset, .unset, .unset, .unset, .unset, .unset, .unset] [(.double (FP.i2d a)), (.ref b101), (.ref b101)])) _
      refine st103.trans ?_
      show Steps p.tables e below (T103.setTop (mkF m 29 #[.val (.int p1), .val (.int p2), .val (.int a), .val (.int b), .val (.double (FP.i2d a)), .second, .val (.double (FP.i2d b)), .second, .unset, .unset, .unset, .unset, .unset, .unset, .unset, .unset, .unset, .unset, .unset, .unset, .unset, .unset, .unset, .unset, .unset, .unset, .unset, .unset, .unset] [(.ref b101)])) _
      refine XS.astore X103.here hx rfl (hb hby at_29) rfl rfl (l' := #[.val (.int p1), .val (.int p2), .val (.int a), .val (.int b), .val (.double (FP.i2d a)), .second, .val (.double (FP.i2d b)), .second, .val (.ref b101), .unset, .unset, .unset, .unset, .unset, .unset, .unset, .unset, .unset, .unset, .unset, .unset, .unset, .unset, .unset, .unset, .unset, .unset, .unset, .unset]) rfl ?_
      show Steps p.tables e below (T103.setTop (mkF m 31 #[.val (.int p1), .val (.int p2), .val (.int a), .val (.int b), .val (.double (FP.i2d a)), .second, .val (.double (FP.i2d b)), .second, .val (.ref b101), .unset, .unset, .unset, .unset, .unset, .unset, .unset, .unset, .unset, .unset, .unset, .unset, .unset, .unset, .unset, .unset, .unset, .unset, .unset, .unset] [])) _
      refine XS.aload X103.here hx rfl (hb hby at_31) rfl rfl ?_
      show Steps p.tables e below (T103.setTop (mkF m 33 #[.val (.int p1), .val (.int p2), .val (.int a), .val (.int b), .val (.double (FP.i2d a)), .second, .val (.double (FP.i2d b)), .second, .val (.ref b101), .unset, .unset, .unset, .unset, .unset, .unset, .unset, .unset, .unset, .unset, .unset, .unset, .unset, .unset, .unset, .unset, .unset, .unset, .unset, .unset] [(.ref b101)])) _
      refine XS.dload X103.here hx rfl (hb hby at_33) rfl ?_
      show Steps p.tables e below (T103.setTop (mkF m 35 #[.val (.int p1), .val (.int p2), .val (.int a), .val (.int b), .val (.double (FP.i2d a)), .second, .val (.double (FP.i2d b)), .second, .val (.ref b101), .unset, .unset, .unset, .unset, .unset, .unset, .unset, .unset, .unset, .unset, .unset, .unset, .unset, .unset, .unset, .unset, .unset, .unset, .unset, .unset] [(.double (FP.i2d b)), (.ref b101)])) _
      refine st105.trans ?_
      show Steps p.tables e below (T105.setTop (mkF m 38 #[.val (.int p1), .val (.int p2), .val (.int a), .val (.int b), .val (.double (FP.i2d a)), .second, .val (.double (FP.i2d b)), .second, .val (.ref b101), .unset, .unset, .unset, .unset, .unset, .unset, .unset, .unset, .unset, .unset, .unset, .unset, .unset, .unset, .unset, .unset, .unset, .unset, .unset, .unset] [(.double (own_r a b))])) _
      refine XS.dstore X105.here hx rfl (hb hby at_38) rfl (l' := #[.val (.int p1), .val (.int p2), .val (.int a), .val (.int b), .val (.double (FP.i2d a)), .second, .val (.double (FP.i2d b)), .second, .val (.ref b101), .val (.double (own_r a b)), .second, .unset, .unset, .unset, .unset, .unset, .unset, .unset, .unset, .unset, .unset, .unset, .unset, .unset, .unset, .unset, .unset, .unset, .unset]) rfl ?_
      show Steps p.tables e below (T105.setTop (mkF m 40 #[.val (.int p1), .val (.int p2), .val (.int a), .val (.int b), .val (.double (FP.i2d a)), .second, .val (.double (FP.i2d b)), .second, .val (.ref b101), .val (.double (own_r a b)), .second, .unset, .unset, .unset, .unset, .unset, .unset, .unset, .unset, .unset, .unset, .unset, .unset, .unset, .unset, .unset, .unset, .unset, .unset] [])) _
      refine XS.iloadN X105.here hx rfl (hb hby at_40) rfl ?_
      show Steps p.tables e below (T105.setTop (mkF m 41 #[.val (.int p1), .val (.int p2), .val (.int a), .val (.int b), .val (.double (FP.i2d a)), .second, .val (.double (FP.i2d b)), .second, .val (.ref b101), .val (.double (own_r a b)), .second, .unset, .unset, .unset, .unset, .unset, .unset, .unset, .unset, .unset, .unset, .unset, .unset, .unset, .unset, .unset, .unset, .unset, .unset] [(.int a)])) _
      refine XS.iconst X105.here hx rfl (hb hby at_41) ?_
      show Steps p.tables e below (T105.setTop (mkF m 42 #[.val (.int p1), .val (.int p2), .val (.int a), .val (.int b), .val (.double (FP.i2d a)), .second, .val (.double (FP.i2d b)), .second, .val (.ref b101), .val (.double (own_r a b)), .second, .unset, .unset, .unset, .unset, .unset, .unset, .unset, .unset, .unset, .unset, .unset, .unset, .unset, .unset, .unset, .unset, .unset, .unset] [(.int (1 : Int32)), (.int a)])) _
      refine XS.iadd X105.here hx rfl (hb hby at_42) rfl ?_
      show Steps p.tables e below (T105.setTop (mkF m 43 #[.val (.int p1), .val (.int p2), .val (.int a), .val (.int b), .val (.double (FP.i2d a)), .second, .val (.double (FP.i2d b)), .second, .val (.ref b101), .val (.double (own_r a b)), .second, .unset, .unset, .unset, .unset, .unset, .unset, .unset, .unset, .unset, .unset, .unset, .unset, .unset, .unset, .unset, .unset, .unset, .unset] [(.int (a + (1 : Int32)))])) _
      refine XS.i2l X105.here hx rfl (hb hby at_43) rfl ?_
      show Steps p.tables e below (T105.setTop (mkF m 44 #[.val (.int p1), .val (.int p2), .val (.int a), .val (.int b), .val (.double (FP.i2d a)), .second, .val (.double (FP.i2d b)), .second, .val (.ref b101), .val (.double (own_r a b)), .second, .unset, .unset, .unset, .unset, .unset, .unset, .unset, .unset, .unset, .unset, .unset, .unset, .unset, .unset, .unset, .unset, .unset, .unset] [(.long ((a + (1 : Int32)).toInt64))])) _
      refine XS.iloadN X105.here hx rfl (hb hby at_44) rfl ?_
      show Steps p.tables e below (T105.setTop (mkF m 45 #[.val (.int p1), .val (.int p2), .val (.int a), .val (.int b), .val (.double (FP.i2d a)), .second, .val (.double (FP.i2d b)), .second, .val (.ref b101), .val (.double (own_r a b)), .second, .unset, .unset, .unset, .unset, .unset, .unset, .unset, .unset, .unset, .unset, .unset, .unset, .unset, .unset, .unset, .unset, .unset, .unset] [(.int b), (.long ((a + (1 : Int32)).toInt64))])) _
      refine XS.i2l X105.here hx rfl (hb hby at_45) rfl ?_
      show Steps p.tables e below (T105.setTop (mkF m 46 #[.val (.int p1), .val (.int p2), .val (.int a), .val (.int b), .val (.double (FP.i2d a)), .second, .val (.double (FP.i2d b)), .second, .val (.ref b101), .val (.double (own_r a b)), .second, .unset, .unset, .unset, .unset, .unset, .unset, .unset, .unset, .unset, .unset, .unset, .unset, .unset, .unset, .unset, .unset, .unset, .unset] [(.long (b.toInt64)), (.long ((a + (1 : Int32)).toInt64))])) _
      refine XS.lmul X105.here hx rfl (hb hby at_46) rfl ?_
      show Steps p.tables e below (T105.setTop (mkF m 47 #[.val (.int p1), .val (.int p2), .val (.int a), .val (.int b), .val (.double (FP.i2d a)), .second, .val (.double (FP.i2d b)), .second, .val (.ref b101), .val (.double (own_r a b)), .second, .unset, .unset, .unset, .unset, .unset, .unset, .unset, .unset, .unset, .unset, .unset, .unset, .unset, .unset, .unset, .unset, .unset, .unset] [(.long (((a + (1 : Int32)).toInt64) * (b.toInt64)))])) _
      refine XS.lstore X105.here hx rfl (hb hby at_47) rfl (l' := #[.val (.int p1), .val (.int p2), .val (.int a), .val (.int b), .val (.double (FP.i2d a)), .second, .val (.double (FP.i2d b)), .second, .val (.ref b101), .val (.double (own_r a b)), .second, .val (.long (own_nl a b)), .second, .unset, .unset, .unset, .unset, .unset, .unset, .unset, .unset, .unset, .unset, .unset, .unset, .unset, .unset, .unset, .unset]) rfl ?_
      show Steps p.tables e below (T105.setTop (mkF m 49 #[.val (.int p1), .val (.int p2), .val (.int a), .val (.int b), .val (.double (FP.i2d a)), .second, .val (.double (FP.i2d b)), .second, .val (.ref b101), .val (.double (own_r a b)), .second, .val (.long (own_nl a b)), .second, .unset, .unset, .unset, .unset, .unset, .unset, .unset, .unset, .unset, .unset, .unset, .unset, .unset, .unset, .unset, .unset] [])) _
      refine XS.iloadN X105.here hx rfl (hb hby at_49) rfl ?_
      show Steps p.tables e below (T105.setTop (mkF m 50 #[.val (.int p1), .val (.int p2), .val (.int a), .val (.int b), .val (.double (FP.i2d a)), .second, .val (.double (FP.i2d b)), .second, .val (.ref b101), .val (.double (own_r a b)), .second, .val (.long (own_nl a b)), .second, .unset, .unset, .unset, .unset, .unset, .unset, .unset, .unset, .unset, .unset, .unset, .unset, .unset, .unset, .unset, .unset] [(.int a)])) _
      refine XS.i2l X105.here hx rfl (hb hby at_50) rfl ?_
      show Steps p.tables e below (T105.setTop (mkF m 51 #[.val (.int p1), .val (.int p2), .val (.int a), .val (.int b), .val (.double (FP.i2d a)), .second, .val (.double (FP.i2d b)), .second, .val (.ref b101), .val (.double (own_r a b)), .second, .val (.long (own_nl a b)), .second, .unset, .unset, .unset, .unset, .unset, .unset, .unset, .unset, .unset, .unset, .unset, .unset, .unset, .unset, .unset, .unset] [(.long (a.toInt64))])) _
      refine XS.iloadN X105.here hx rfl (hb hby at_51) rfl ?_
      show Steps p.tables e below (T105.setTop (mkF m 52 #[.val (.int p1), .val (.int p2), .val (.int a), .val (.int b), .val (.double (FP.i2d a)), .second, .val (.double (FP.i2d b)), .second, .val (.ref b101), .val (.double (own_r a b)), .second, .val (.long (own_nl a b)), .second, .unset, .unset, .unset, .unset, .unset, .unset, .unset, .unset, .unset, .unset, .unset, .unset, .unset, .unset, .unset, .unset] [(.int b), (.long (a.toInt64))])) _
      refine XS.i2l X105.here hx rfl (hb hby at_52) rfl ?_
      show Steps p.tables e below (T105.setTop (mkF m 53 #[.val (.int p1), .val (.int p2), .val (.int a), .val (.int b), .val (.double (FP.i2d a)), .second, .val (.double (FP.i2d b)), .second, .val (.ref b101), .val (.double (own_r a b)), .second, .val (.long (own_nl a b)), .second, .unset, .unset, .unset, .unset, .unset, .unset, .unset, .unset, .unset, .unset, .unset, .unset, .unset, .unset, .unset, .unset] [(.long (b.toInt64)), (.long (a.toInt64))])) _
      refine XS.ladd X105.here hx rfl (hb hby at_53) rfl ?_
      show Steps p.tables e below (T105.setTop (mkF m 54 #[.val (.int p1), .val (.int p2), .val (.int a), .val (.int b), .val (.double (FP.i2d a)), .second, .val (.double (FP.i2d b)), .second, .val (.ref b101), .val (.double (own_r a b)), .second, .val (.long (own_nl a b)), .second, .unset, .unset, .unset, .unset, .unset, .unset, .unset, .unset, .unset, .unset, .unset, .unset, .unset, .unset, .unset, .unset] [(.long ((a.toInt64) + (b.toInt64)))])) _
      refine XS.lstore X105.here hx rfl (hb hby at_54) rfl (l' := #[.val (.int p1), .val (.int p2), .val (.int a), .val (.int b), .val (.double (FP.i2d a)), .second, .val (.double (FP.i2d b)), .second, .val (.ref b101), .val (.double (own_r a b)), .second, .val (.long (own_nl a b)), .second, .val (.long (own_dl a b)), .second, .unset, .unset, .unset, .unset, .unset, .unset, .unset, .unset, .unset, .unset, .unset, .unset, .unset, .unset]) rfl ?_
      show Steps p.tables e below (T105.setTop (mkF m 56 #[.val (.int p1), .val (.int p2), .val (.int a), .val (.int b), .val (.double (FP.i2d a)), .second, .val (.double (FP.i2d b)), .second, .val (.ref b101), .val (.double (own_r a b)), .second, .val (.long (own_nl a b)), .second, .val (.long (own_dl a b)), .second, .unset, .unset, .unset, .unset, .unset, .unset, .unset, .unset, .unset, .unset, .unset, .unset, .unset, .unset] [])) _
      refine XS.lload X105.here hx rfl (hb hby at_56) rfl ?_
      show Steps p.tables e below (T105.setTop (mkF m 58 #[.val (.int p1), .val (.int p2), .val (.int a), .val (.int b), .val (.double (FP.i2d a)), .second, .val (.double (FP.i2d b)), .second, .val (.ref b101), .val (.double (own_r a b)), .second, .val (.long (own_nl a b)), .second, .val (.long (own_dl a b)), .second, .unset, .unset, .unset, .unset, .unset, .unset, .unset, .unset, .unset, .unset, .unset, .unset, .unset, .unset] [(.long (own_nl a b))])) _
      refine XS.l2dS X105.here hx rfl (hb hby at_58) rfl (v := (FP.l2d (own_nl a b))) rfl ?_
      show Steps p.tables e below (T105.setTop (mkF m 59 #[.val (.int p1), .val (.int p2), .val (.int a), .val (.int b), .val (.double (FP.i2d a)), .second, .val (.double (FP.i2d b)), .second, .val (.ref b101), .val (.double (own_r a b)), .second, .val (.long (own_nl a b)), .second, .val (.long (own_dl a b)), .second, .unset, .unset, .unset, .unset, .unset, .unset, .unset, .unset, .unset, .unset, .unset, .unset, .unset, .unset] [(.double (FP.l2d (own_nl a b)))])) _
      refine XS.dstore X105.here hx rfl (hb hby at_59) rfl (l' := #[.val (.int p1), .val (.int p2), .val (.int a), .val (.int b), .val (.double (FP.i2d a)), .second, .val (.double (FP.i2d b)), .second, .val (.ref b101), .val (.double (own_r a b)), .second, .val (.long (own_nl a b)), .second, .val (.long (own_dl a b)), .second, .val (.double (FP.l2d (own_nl a b))), .second, .unset, .unset, .unset, .unset, .unset, .unset, .unset, .unset, .unset, .unset, .unset, .unset]) rfl ?_
      show Steps p.tables e below (T105.setTop (mkF m 61 #[.val (.int p1), .val (.int p2), .val (.int a), .val (.int b), .val (.double (FP.i2d a)), .second, .val (.double (FP.i2d b)), .second, .val (.ref b101), .val (.double (own_r a b)), .second, .val (.long (own_nl a b)), .second, .val (.long (own_dl a b)), .second, .val (.double (FP.l2d (own_nl a b))), .second, .unset, .unset, .unset, .unset, .unset, .unset, .unset, .unset, .unset, .unset, .unset, .unset] [])) _
      refine XS.lload X105.here hx rfl (hb hby at_61) rfl ?_
      show Steps p.tables e below (T105.setTop (mkF m 63 #[.val (.int p1), .val (.int p2), .val (.int a), .val (.int b), .val (.double (FP.i2d a)), .second, .val (.double (FP.i2d b)), .second, .val (.ref b101), .val (.double (own_r a b)), .second, .val (.long (own_nl a b)), .second, .val (.long (own_dl a b)), .second, .val (.double (FP.l2d (own_nl a b))), .second, .unset, .unset, .unset, .unset, .unset, .unset, .unset, .unset, .unset, .unset, .unset, .unset] [(.long (own_dl a b))])) _
      refine XS.l2dS X105.here hx rfl (hb hby at_63) rfl (v := (FP.l2d (own_dl a b))) rfl ?_
      show Steps p.tables e below (T105.setTop (mkF m 64 #[.val (.int p1), .val (.int p2), .val (.int a), .val (.int b), .val (.double (FP.i2d a)), .second, .val (.double (FP.i2d b)), .second, .val (.ref b101), .val (.double (own_r a b)), .second, .val (.long (own_nl a b)), .second, .val (.long (own_dl a b)), .second, .val (.double (FP.l2d (own_nl a b))), .second, .unset, .unset, .unset, .unset, .unset, .unset, .unset, .unset, .unset, .unset, .unset, .unset] [(.double (FP.l2d (own_dl a b)))])) _
      refine XS.dstore X105.here hx rfl (hb hby at_64) rfl (l' := #[.val (.int p1), .val (.int p2), .val (.int a), .val (.int b), .val (.double (FP.i2d a)), .second, .val (.double (FP.i2d b)), .second, .val (.ref b101), .val (.double (own_r a b)), .second, .val (.long (own_nl a b)), .second, .val (.long (own_dl a b)), .second, .val (.double (FP.l2d (own_nl a b))), .second, .val (.double (FP.l2d (own_dl a b))), .second, .unset, .unset, .unset, .unset, .unset, .unset, .unset, .unset, .unset, .unset]) rfl ?_
      show Steps p.tables e below (T105.setTop (mkF m 66 #[.val (.int p1), .val (.int p2), .val (.int a), .val (.int b), .val (.double (FP.i2d a)), .second, .val (.double (FP.i2d b)), .second, .val (.ref b101), .val (.double (own_r a b)), .second, .val (.long (own_nl a b)), .second, .val (.long (own_dl a b)), .second, .val (.double (FP.l2d (own_nl a b))), .second, .val (.double (FP.l2d (own_dl a b))), .second, .unset, .unset, .unset, .unset, .unset, .unset, .unset, .unset, .unset, .unset] [])) _
      refine XS.dload X105.here hx rfl (hb hby at_66) rfl ?_
      show Steps p.tables e below (T105.setTop (mkF m 68 #[.val (.int p1), .val (.int p2), .val (.int a), .val (.int b), .val (.double (FP.i2d a)), .second, .val (.double (FP.i2d b)), .second, .val (.ref b101), .val (.double (own_r a b)), .second, .val (.long (own_nl a b)), .second, .val (.long (own_dl a b)), .second, .val (.double (FP.l2d (own_nl a b))), .second, .val (.double (FP.l2d (own_dl a b))), .second, .unset, .unset, .unset, .unset, .unset, .unset, .unset, .unset, .unset, .unset] [(.double (own_r a b))])) _
      refine XS.dload X105.here hx rfl (hb hby at_68) rfl ?_
      show Steps p.tables e below (T105.setTop (mkF m 70 #[.val (.int p1), .val (.int p2), .val (.int a), .val (.int b), .val (.double (FP.i2d a)), .second, .val (.double (FP.i2d b)), .second, .val (.ref b101), .val (.double (own_r a b)), .second, .val (.long (own_nl a b)), .second, .val (.long (own_dl a b)), .second, .val (.double (FP.l2d (own_nl a b))), .second, .val (.double (FP.l2d (own_dl a b))), .second, .unset, .unset, .unset, .unset, .unset, .unset, .unset, .unset, .unset, .unset] [(.double (FP.l2d (own_dl a b))), (.double (own_r a b))])) _
      refine XS.dmulS X105.here hx rfl (hb hby at_70) rfl f2.noNaN (v := (FP.dmul (own_r a b) (FP.l2d (own_dl a b)))) rfl ?_
      show Steps p.tables e below (T105.setTop (mkF m 71 #[.val (.int p1), .val (.int p2), .val (.int a), .val (.int b), .val (.double (FP.i2d a)), .second, .val (.double (FP.i2d b)), .second, .val (.ref b101), .val (.double (own_r a b)), .second, .val (.long (own_nl a b)), .second, .val (.long (own_dl a b)), .second, .val (.double (FP.l2d (own_nl a b))), .second, .val (.double (FP.l2d (own_dl a b))), .second, .unset, .unset, .unset, .unset, .unset, .unset, .unset, .unset, .unset, .unset] [(.double (FP.dmul (own_r a b) (FP.l2d (own_dl a b))))])) _
      refine XS.dstore X105.here hx rfl (hb hby at_71) rfl (l' := #[.val (.int p1), .val (.int p2), .val (.int a), .val (.int b), .val (.double (FP.i2d a)), .second, .val (.double (FP.i2d b)), .second, .val (.ref b101), .val (.double (own_r a b)), .second, .val (.long (own_nl a b)), .second, .val (.long (own_dl a b)), .second, .val (.double (FP.l2d (own_nl a b))), .second, .val (.double (FP.l2d (own_dl a b))), .second, .val (.double (FP.dmul (own_r a b) (FP.l2d (own_dl a b)))), .second, .unset, .unset, .unset, .unset, .unset, .unset, .unset, .unset]) rfl ?_
      show Steps p.tables e below (T105.setTop (mkF m 73 #[.val (.int p1), .val (.int p2), .val (.int a), .val (.int b), .val (.double (FP.i2d a)), .second, .val (.double (FP.i2d b)), .second, .val (.ref b101), .val (.double (own_r a b)), .second, .val (.long (own_nl a b)), .second, .val (.long (own_dl a b)), .second, .val (.double (FP.l2d (own_nl a b))), .second, .val (.double (FP.l2d (own_dl a b))), .second, .val (.double (FP.dmul (own_r a b) (FP.l2d (own_dl a b)))), .second, .unset, .unset, .unset, .unset, .unset, .unset, .unset, .unset] [])) _
      refine XS.dload X105.here hx rfl (hb hby at_73) rfl ?_
      show Steps p.tables e below (T105.setTop (mkF m 75 #[.val (.int p1), .val (.int p2), .val (.int a), .val (.int b), .val (.double (FP.i2d a)), .second, .val (.double (FP.i2d b)), .second, .val (.ref b101), .val (.double (own_r a b)), .second, .val (.long (own_nl a b)), .second, .val (.long (own_dl a b)), .second, .val (.double (FP.l2d (own_nl a b))), .second, .val (.double (FP.l2d (own_dl a b))), .second, .val (.double (FP.dmul (own_r a b) (FP.l2d (own_dl a b)))), .second, .unset, .unset, .unset, .unset, .unset, .unset, .unset, .unset] [(.double (FP.dmul (own_r a b) (FP.l2d (own_dl a b))))])) _
      refine XS.dload X105.here hx rfl (hb hby at_75) rfl ?_
      show Steps p.tables e below (T105.setTop (mkF m 77 #[.val (.int p1), .val (.int p2), .val (.int a), .val (.int b), .val (.double (FP.i2d a)), .second, .val (.double (FP.i2d b)), .second, .val (.ref b101), .val (.double (own_r a b)), .second, .val (.long (own_nl a b)), .second, .val (.long (own_dl a b)), .second, .val (.double (FP.l2d (own_nl a b))), .second, .val (.double (FP.l2d (own_dl a b))), .second, .val (.double (FP.dmul (own_r a b) (FP.l2d (own_dl a b)))), .second, .unset, .unset, .unset, .unset, .unset, .unset, .unset, .unset] [(.double (FP.l2d (own_nl a b))), (.double (FP.dmul (own_r a b) (FP.l2d (own_dl a b))))])) _
      refine XS.dsubS X105.here hx rfl (hb hby at_77) rfl f3.noNaN (v := (FP.dsub (FP.dmul (own_r a b) (FP.l2d (own_dl a b))) (FP.l2d (own_nl a b)))) rfl ?_
      show Steps p.tables e below (T105.setTop (mkF m 78 #[.val (.int p1), .val (.int p2), .val (.int a), .val (.int b), .val (.double (FP.i2d a)), .second, .val (.double (FP.i2d b)), .second, .val (.ref b101), .val (.double (own_r a b)), .second, .val (.long (own_nl a b)), .second, .val (.long (own_dl a b)), .second, .val (.double (FP.l2d (own_nl a b))), .second, .val (.double (FP.l2d (own_dl a b))), .second, .val (.double (FP.dmul (own_r a b) (FP.l2d (own_dl a b)))), .second, .unset, .unset, .unset, .unset, .unset, .unset, .unset, .unset] [(.double (FP.dsub (FP.dmul (own_r a b) (FP.l2d (own_dl a b))) (FP.l2d (own_nl a b))))])) _
      refine XS.dstore X105.here hx rfl (hb hby at_78) rfl (l' := #[.val (.int p1), .val (.int p2), .val (.int a), .val (.int b), .val (.double (FP.i2d a)), .second, .val (.double (FP.i2d b)), .second, .val (.ref b101), .val (.double (own_r a b)), .second, .val (.long (own_nl a b)), .second, .val (.long (own_dl a b)), .second, .val (.double (FP.l2d (own_nl a b))), .second, .val (.double (FP.l2d (own_dl a b))), .second, .val (.double (FP.dmul (own_r a b) (FP.l2d (own_dl a b)))), .second, .val (.double (FP.dsub (FP.dmul (own_r a b) (FP.l2d (own_dl a b))) (FP.l2d (own_nl a b)))), .second, .unset, .unset, .unset, .unset, .unset, .unset]) rfl ?_
      show Steps p.tables e below (T105.setTop (mkF m 80 #[.val (.int p1), .val (.int p2), .val (.int a), .val (.int b), .val (.double (FP.i2d a)), .second, .val (.double (FP.i2d b)), .second, .val (.ref b101), .val (.double (own_r a b)), .second, .val (.long (own_nl a b)), .second, .val (.long (own_dl a b)), .second, .val (.double (FP.l2d (own_nl a b))), .second, .val (.double (FP.l2d (own_dl a b))), .second, .val (.double (FP.dmul (own_r a b) (FP.l2d (own_dl a b)))), .second, .val (.double (FP.dsub (FP.dmul (own_r a b) (FP.l2d (own_dl a b))) (FP.l2d (own_nl a b)))), .second, .unset, .unset, .unset, .unset, .unset, .unset] [])) _
      refine XS.dload X105.here hx rfl (hb hby at_80) rfl ?_
      show Steps p.tables e below (T105.setTop (mkF m 82 #[.val (.int p1), .val (.int p2), .val (.int a), .val (.int b), .val (.double (FP.i2d a)), .second, .val (.double (FP.i2d b)), .second, .val (.ref b101), .val (.double (own_r a b)), .second, .val (.long (own_nl a b)), .second, .val (.long (own_dl a b)), .second, .val (.double (FP.l2d (own_nl a b))), .second, .val (.double (FP.l2d (own_dl a b))), .second, .val (.double (FP.dmul (own_r a b) (FP.l2d (own_dl a b)))), .second, .val (.double (FP.dsub (FP.dmul (own_r a b) (FP.l2d (own_dl a b))) (FP.l2d (own_nl a b)))), .second, .unset, .unset, .unset, .unset, .unset, .unset] [(.double (FP.l2d (own_nl a b)))])) _
      refine X105.ldc2DoubleC hx hown (mvT hZ (hw _ (List.mem_of_getElem? (i := 18) rfl))) (g := (mkF m 82 #[.val (.int p1), .val (.int p2), .val (.int a), .val (.int b), .val (.double (FP.i2d a)), .second, .val (.double (FP.i2d b)), .second, .val (.ref b101), .val (.double (own_r a b)), .second, .val (.long (own_nl a b)), .second, .val (.long (own_dl a b)), .second, .val (.double (FP.l2d (own_nl a b))), .second, .val (.double (FP.l2d (own_dl a b))), .second, .val (.double (FP.dmul (own_r a b) (FP.l2d (own_dl a b)))), .second, .val (.double (FP.dsub (FP.dmul (own_r a b) (FP.l2d (own_dl a b))) (FP.l2d (own_nl a b)))), .second, .unset, .unset, .unset, .unset, .unset, .unset] [(.double (FP.l2d (own_nl a b)))])) rfl (hb hby at_82) _ ?_
      show Steps p.tables e below (T105.setTop (mkF m 85 #[.val (.int p1), .val (.int p2), .val (.int a), .val (.int b), .val (.double (FP.i2d a)), .second, .val (.double (FP.i2d b)), .second, .val (.ref b101), .val (.double (own_r a b)), .second, .val (.long (own_nl a b)), .second, .val (.long (own_dl a b)), .second, .val (.double (FP.l2d (own_nl a b))), .second, .val (.double (FP.l2d (own_dl a b))), .second, .val (.double (FP.dmul (own_r a b) (FP.l2d (own_dl a b)))), .second, .val (.double (FP.dsub (FP.dmul (own_r a b) (FP.l2d (own_dl a b))) (FP.l2d (own_nl a b)))), .second, .unset, .unset, .unset, .unset, .unset, .unset] [(.double (4787326403894837248 : UInt64)), (.double (FP.l2d (own_nl a b)))])) _
      refine XS.ddivS X105.here hx rfl (hb hby at_85) rfl f4.noNaN (v := (FP.ddiv (FP.l2d (own_nl a b)) (4787326403894837248 : UInt64))) rfl ?_
      show Steps p.tables e below (T105.setTop (mkF m 86 #[.val (.int p1), .val (.int p2), .val (.int a), .val (.int b), .val (.double (FP.i2d a)), .second, .val (.double (FP.i2d b)), .second, .val (.ref b101), .val (.double (own_r a b)), .second, .val (.long (own_nl a b)), .second, .val (.long (own_dl a b)), .second, .val (.double (FP.l2d (own_nl a b))), .second, .val (.double (FP.l2d (own_dl a b))), .second, .val (.double (FP.dmul (own_r a b) (FP.l2d (own_dl a b)))), .second, .val (.double (FP.dsub (FP.dmul (own_r a b) (FP.l2d (own_dl a b))) (FP.l2d (own_nl a b)))), .second, .unset, .unset, .unset, .unset, .unset, .unset] [(.double (FP.ddiv (FP.l2d (own_nl a b)) (4787326403894837248 : UInt64)))])) _
      refine XS.dstore X105.here hx rfl (hb hby at_86) rfl (l' := #[.val (.int p1), .val (.int p2), .val (.int a), .val (.int b), .val (.double (FP.i2d a)), .second, .val (.double (FP.i2d b)), .second, .val (.ref b101), .val (.double (own_r a b)), .second, .val (.long (own_nl a b)), .second, .val (.long (own_dl a b)), .second, .val (.double (FP.l2d (own_nl a b))), .second, .val (.double (FP.l2d (own_dl a b))), .second, .val (.double (FP.dmul (own_r a b) (FP.l2d (own_dl a b)))), .second, .val (.double (FP.dsub (FP.dmul (own_r a b) (FP.l2d (own_dl a b))) (FP.l2d (own_nl a b)))), .second, .val (.double (FP.ddiv (FP.l2d (own_nl a b)) (4787326403894837248 : UInt64))), .second, .unset, .unset, .unset, .unset]) rfl ?_
      show Steps p.tables e below (T105.setTop (mkF m 88 #[.val (.int p1), .val (.int p2), .val (.int a), .val (.int b), .val (.double (FP.i2d a)), .second, .val (.double (FP.i2d b)), .second, .val (.ref b101), .val (.double (own_r a b)), .second, .val (.long (own_nl a b)), .second, .val (.long (own_dl a b)), .second, .val (.double (FP.l2d (own_nl a b))), .second, .val (.double (FP.l2d (own_dl a b))), .second, .val (.double (FP.dmul (own_r a b) (FP.l2d (own_dl a b)))), .second, .val (.double (FP.dsub (FP.dmul (own_r a b) (FP.l2d (own_dl a b))) (FP.l2d (own_nl a b)))), .second, .val (.double (FP.ddiv (FP.l2d (own_nl a b)) (4787326403894837248 : UInt64))), .second, .unset, .unset, .unset, .unset] [])) _
      refine XS.dload X105.here hx rfl (hb hby at_88) rfl ?_
      show Steps p.tables e below (T105.setTop (mkF m 90 #[.val (.int p1), .val (.int p2), .val (.int a), .val (.int b), .val (.double (FP.i2d a)), .second, .val (.double (FP.i2d b)), .second, .val (.ref b101), .val (.double (own_r a b)), .second, .val (.long (own_nl a b)), .second, .val (.long (own_dl a b)), .second, .val (.double (FP.l2d (own_nl a b))), .second, .val (.double (FP.l2d (own_dl a b))), .second, .val (.double (FP.dmul (own_r a b) (FP.l2d (own_dl a b)))), .second, .val (.double (FP.dsub (FP.dmul (own_r a b) (FP.l2d (own_dl a b))) (FP.l2d (own_nl a b)))), .second, .val (.double (FP.ddiv (FP.l2d (own_nl a b)) (4787326403894837248 : UInt64))), .second, .unset, .unset, .unset, .unset] [(.double (FP.dsub (FP.dmul (own_r a b) (FP.l2d (own_dl a b))) (FP.l2d (own_nl a b))))])) _
      refine XS.dload X105.here hx rfl (hb hby at_90) rfl ?_
      show Steps p.tables e below (T105.setTop (mkF m 92 #[.val (.int p1), .val (.int p2), .val (.int a), .val (.int b), .val (.double (FP.i2d a)), .second, .val (.double (FP.i2d b)), .second, .val (.ref b101), .val (.double (own_r a b)), .second, .val (.long (own_nl a b)), .second, .val (.long (own_dl a b)), .second, .val (.double (FP.l2d (own_nl a b))), .second, .val (.double (FP.l2d (own_dl a b))), .second, .val (.double (FP.dmul (own_r a b) (FP.l2d (own_dl a b)))), .second, .val (.double (FP.dsub (FP.dmul (own_r a b) (FP.l2d (own_dl a b))) (FP.l2d (own_nl a b)))), .second, .val (.double (FP.ddiv (FP.l2d (own_nl a b)) (4787326403894837248 : UInt64))), .second, .unset, .unset, .unset, .unset] [(.double (FP.ddiv (FP.l2d (own_nl a b)) (4787326403894837248 : UInt64))), (.double (FP.dsub (FP.dmul (own_r a b) (FP.l2d (own_dl a b))) (FP.l2d (own_nl a b))))])) _
      refine XS.dcmpS X105.here hx rfl (hb hby at_92) rfl (v := (cmpValue (FP.dcmp (FP.dsub (FP.dmul (own_r a b) (FP.l2d (own_dl a b))) (FP.l2d (own_nl a b))) (FP.ddiv (FP.l2d (own_nl a b)) (4787326403894837248 : UInt64))) .g)) rfl ?_
      show Steps p.tables e below (T105.setTop (mkF m 93 #[.val (.int p1), .val (.int p2), .val (.int a), .val (.int b), .val (.double (FP.i2d a)), .second, .val (.double (FP.i2d b)), .second, .val (.ref b101), .val (.double (own_r a b)), .second, .val (.long (own_nl a b)), .second, .val (.long (own_dl a b)), .second, .val (.double (FP.l2d (own_nl a b))), .second, .val (.double (FP.l2d (own_dl a b))), .second, .val (.double (FP.dmul (own_r a b) (FP.l2d (own_dl a b)))), .second, .val (.double (FP.dsub (FP.dmul (own_r a b) (FP.l2d (own_dl a b))) (FP.l2d (own_nl a b)))), .second, .val (.double (FP.ddiv (FP.l2d (own_nl a b)) (4787326403894837248 : UInt64))), .second, .unset, .unset, .unset, .unset] [(.int (cmpValue (FP.dcmp (FP.dsub (FP.dmul (own_r a b) (FP.l2d (own_dl a b))) (FP.l2d (own_nl a b))) (FP.ddiv (FP.l2d (own_nl a b)) (4787326403894837248 : UInt64))) .g))])) _
      refine XS.ifNo X105.here hx rfl (hb hby at_93) rfl ((if0 _ _).trans (flt (OwnFP.cv_le f3.noNaN f4.noNaN g1 .g : ¬ ((0 : Int32) < (cmpValue (FP.dcmp (FP.dsub (FP.dmul (own_r a b) (FP.l2d (own_dl a b))) (FP.l2d (own_nl a b))) (FP.ddiv (FP.l2d (own_nl a b)) (4787326403894837248 : UInt64))) .g)))).2.2.1) ?_
      show Steps p.tables e below (T105.setTop (mkF m 96 #[.val (.int p1), .val (.int p2), .val (.int a), .val (.int b), .val (.double (FP.i2d a)), .second, .val (.double (FP.i2d b)), .second, .val (.ref b101), .val (.double (own_r a b)), .second, .val (.long (own_nl a b)), .second, .val (.long (own_dl a b)), .second, .val (.double (FP.l2d (own_nl a b))), .second, .val (.double (FP.l2d (own_dl a b))), .second, .val (.double (FP.dmul (own_r a b) (FP.l2d (own_dl a b)))), .second, .val (.double (FP.dsub (FP.dmul (own_r a b) (FP.l2d (own_dl a b))) (FP.l2d (own_nl a b)))), .second, .val (.double (FP.ddiv (FP.l2d (own_nl a b)) (4787326403894837248 : UInt64))), .second, .unset, .unset, .unset, .unset] [])) _
      refine XS.dload X105.here hx rfl (hb hby at_96) rfl ?_
      show Steps p.tables e below (T105.setTop (mkF m 98 #[.val (.int p1), .val (.int p2), .val (.int a), .val (.int b), .val (.double (FP.i2d a)), .second, .val (.double (FP.i2d b)), .second, .val (.ref b101), .val (.double (own_r a b)), .second, .val (.long (own_nl a b)), .second, .val (.long (own_dl a b)), .second, .val (.double (FP.l2d (own_nl a b))), .second, .val (.double (FP.l2d (own_dl a b))), .second, .val (.double (FP.dmul (own_r a b) (FP.l2d (own_dl a b)))), .second, .val (.double (FP.dsub (FP.dmul (own_r a b) (FP.l2d (own_dl a b))) (FP.l2d (own_nl a b)))), .second, .val (.double (FP.ddiv (FP.l2d (own_nl a b)) (4787326403894837248 : UInt64))), .second, .unset, .unset, .unset, .unset] [(.double (FP.dsub (FP.dmul (own_r a b) (FP.l2d (own_dl a b))) (FP.l2d (own_nl a b))))])) _
      refine XS.dnegS X105.here hx rfl (hb hby at_98) rfl (v := (FP.dneg (FP.dsub (FP.dmul (own_r a b) (FP.l2d (own_dl a b))) (FP.l2d (own_nl a b))))) rfl ?_
      show Steps p.tables e below (T105.setTop (mkF m 99 #[.val (.int p1), .val (.int p2), .val (.int a), .val (.int b), .val (.double (FP.i2d a)), .second, .val (.double (FP.i2d b)), .second, .val (.ref b101), .val (.double (own_r a b)), .second, .val (.long (own_nl a b)), .second, .val (.long (own_dl a b)), .second, .val (.double (FP.l2d (own_nl a b))), .second, .val (.double (FP.l2d (own_dl a b))), .second, .val (.double (FP.dmul (own_r a b) (FP.l2d (own_dl a b)))), .second, .val (.double (FP.dsub (FP.dmul (own_r a b) (FP.l2d (own_dl a b))) (FP.l2d (own_nl a b)))), .second, .val (.double (FP.ddiv (FP.l2d (own_nl a b)) (4787326403894837248 : UInt64))), .second, .unset, .unset, .unset, .unset] [(.double (FP.dneg (FP.dsub (FP.dmul (own_r a b) (FP.l2d (own_dl a b))) (FP.l2d (own_nl a b)))))])) _
      refine XS.dload X105.here hx rfl (hb hby at_99) rfl ?_
      show Steps p.tables e below (T105.setTop (mkF m 101 #[.val (.int p1), .val (.int p2), .val (.int a), .val (.int b), .val (.double (FP.i2d a)), .second, .val (.double (FP.i2d b)), .second, .val (.ref b101), .val (.double (own_r a b)), .second, .val (.long (own_nl a b)), .second, .val (.long (own_dl a b)), .second, .val (.double (FP.l2d (own_nl a b))), .second, .val (.double (FP.l2d (own_dl a b))), .second, .val (.double (FP.dmul (own_r a b) (FP.l2d (own_dl a b)))), .second, .val (.double (FP.dsub (FP.dmul (own_r a b) (FP.l2d (own_dl a b))) (FP.l2d (own_nl a b)))), .second, .val (.double (FP.ddiv (FP.l2d (own_nl a b)) (4787326403894837248 : UInt64))), .second, .unset, .unset, .unset, .unset] [(.double (FP.ddiv (FP.l2d (own_nl a b)) (4787326403894837248 : UInt64))), (.double (FP.dneg (FP.dsub (FP.dmul (own_r a b) (FP.l2d (own_dl a b))) (FP.l2d (own_nl a b)))))])) _
      refine XS.dcmpS X105.here hx rfl (hb hby at_101) rfl (v := (cmpValue (FP.dcmp (FP.dneg (FP.dsub (FP.dmul (own_r a b) (FP.l2d (own_dl a b))) (FP.l2d (own_nl a b)))) (FP.ddiv (FP.l2d (own_nl a b)) (4787326403894837248 : UInt64))) .g)) rfl ?_
      show Steps p.tables e below (T105.setTop (mkF m 102 #[.val (.int p1), .val (.int p2), .val (.int a), .val (.int b), .val (.double (FP.i2d a)), .second, .val (.double (FP.i2d b)), .second, .val (.ref b101), .val (.double (own_r a b)), .second, .val (.long (own_nl a b)), .second, .val (.long (own_dl a b)), .second, .val (.double (FP.l2d (own_nl a b))), .second, .val (.double (FP.l2d (own_dl a b))), .second, .val (.double (FP.dmul (own_r a b) (FP.l2d (own_dl a b)))), .second, .val (.double (FP.dsub (FP.dmul (own_r a b) (FP.l2d (own_dl a b))) (FP.l2d (own_nl a b)))), .second, .val (.double (FP.ddiv (FP.l2d (own_nl a b)) (4787326403894837248 : UInt64))), .second, .unset, .unset, .unset, .unset] [(.int (cmpValue (FP.dcmp (FP.dneg (FP.dsub (FP.dmul (own_r a b) (FP.l2d (own_dl a b))) (FP.l2d (own_nl a b)))) (FP.ddiv (FP.l2d (own_nl a b)) (4787326403894837248 : UInt64))) .g))])) _
      refine XS.ifNo X105.here hx rfl (hb hby at_102) rfl ((if0 _ _).trans (flt (OwnFP.cv_le ng.1.noNaN f4.noNaN (by rw [ng.2]; exact g2) .g : ¬ ((0 : Int32) < (cmpValue (FP.dcmp (FP.dneg (FP.dsub (FP.dmul (own_r a b) (FP.l2d (own_dl a b))) (FP.l2d (own_nl a b)))) (FP.ddiv (FP.l2d (own_nl a b)) (4787326403894837248 : UInt64))) .g)))).2.2.1) ?_
      show Steps p.tables e below (T105.setTop (mkF m 105 #[.val (.int p1), .val (.int p2), .val (.int a), .val (.int b), .val (.double (FP.i2d a)), .second, .val (.double (FP.i2d b)), .second, .val (.ref b101), .val (.double (own_r a b)), .second, .val (.long (own_nl a b)), .second, .val (.long (own_dl a b)), .second, .val (.double (FP.l2d (own_nl a b))), .second, .val (.double (FP.l2d (own_dl a b))), .second, .val (.double (FP.dmul (own_r a b) (FP.l2d (own_dl a b)))), .second, .val (.double (FP.dsub (FP.dmul (own_r a b) (FP.l2d (own_dl a b))) (FP.l2d (own_nl a b)))), .second, .val (.double (FP.ddiv (FP.l2d (own_nl a b)) (4787326403894837248 : UInt64))), .second, .unset, .unset, .unset, .unset] [])) _
      refine XS.iconst X105.here hx rfl (hb hby at_105) ?_
      show Steps p.tables e below (T105.setTop (mkF m 106 #[.val (.int p1), .val (.int p2), .val (.int a), .val (.int b), .val (.double (FP.i2d a)), .second, .val (.double (FP.i2d b)), .second, .val (.ref b101), .val (.double (own_r a b)), .second, .val (.long (own_nl a b)), .second, .val (.long (own_dl a b)), .second, .val (.double (FP.l2d (own_nl a b))), .second, .val (.double (FP.l2d (own_dl a b))), .second, .val (.double (FP.dmul (own_r a b) (FP.l2d (own_dl a b)))), .second, .val (.double (FP.dsub (FP.dmul (own_r a b) (FP.l2d (own_dl a b))) (FP.l2d (own_nl a b)))), .second, .val (.double (FP.ddiv (FP.l2d (own_nl a b)) (4787326403894837248 : UInt64))), .second, .unset, .unset, .unset, .unset] [(.int (1 : Int32))])) _
      refine XS.goto X105.here hx rfl (pc0 := 106) (pc' := 110) rfl (hb hby at_106) (by decide) (by decide) ?_
      show Steps p.tables e below (T105.setTop (mkF m 110 #[.val (.int p1), .val (.int p2), .val (.int a), .val (.int b), .val (.double (FP.i2d a)), .second, .val (.double (FP.i2d b)), .second, .val (.ref b101), .val (.double (own_r a b)), .second, .val (.long (own_nl a b)), .second, .val (.long (own_dl a b)), .second, .val (.double (FP.l2d (own_nl a b))), .second, .val (.double (FP.l2d (own_dl a b))), .second, .val (.double (FP.dmul (own_r a b) (FP.l2d (own_dl a b)))), .second, .val (.double (FP.dsub (FP.dmul (own_r a b) (FP.l2d (own_dl a b))) (FP.l2d (own_nl a b)))), .second, .val (.double (FP.ddiv (FP.l2d (own_nl a b)) (4787326403894837248 : UInt64))), .second, .unset, .unset, .unset, .unset] [(.int (1 : Int32))])) _
      refine XS.istore X105.here hx rfl (hb hby at_110) rfl (l' := #[.val (.int p1), .val (.int p2), .val (.int a), .val (.int b), .val (.double (FP.i2d a)), .second, .val (.double (FP.i2d b)), .second, .val (.ref b101), .val (.double (own_r a b)), .second, .val (.long (own_nl a b)), .second, .val (.long (own_dl a b)), .second, .val (.double (FP.l2d (own_nl a b))), .second, .val (.double (FP.l2d (own_dl a b))), .second, .val (.double (FP.dmul (own_r a b) (FP.l2d (own_dl a b)))), .second, .val (.double (FP.dsub (FP.dmul (own_r a b) (FP.l2d (own_dl a b))) (FP.l2d (own_nl a b)))), .second, .val (.double (FP.ddiv (FP.l2d (own_nl a b)) (4787326403894837248 : UInt64))), .second, .val (.int (1 : Int32)), .unset, .unset, .unset]) rfl ?_
      show Steps p.tables e below (T105.setTop (mkF m 112 #[.val (.int p1), .val (.int p2), .val (.int a), .val (.int b), .val (.double (FP.i2d a)), .second, .val (.double (FP.i2d b)), .second, .val (.ref b101), .val (.double (own_r a b)), .second, .val (.long (own_nl a b)), .second, .val (.long (own_dl a b)), .second, .val (.double (FP.l2d (own_nl a b))), .second, .val (.double (FP.l2d (own_dl a b))), .second, .val (.double (FP.dmul (own_r a b) (FP.l2d (own_dl a b)))), .second, .val (.double (FP.dsub (FP.dmul (own_r a b) (FP.l2d (own_dl a b))) (FP.l2d (own_nl a b)))), .second, .val (.double (FP.ddiv (FP.l2d (own_nl a b)) (4787326403894837248 : UInt64))), .second, .val (.int (1 : Int32)), .unset, .unset, .unset] [])) _
      refine XS.dconst1 X105.here hx rfl (hb hby at_112) (v := (4607182418800017408 : UInt64)) rfl ?_
      show Steps p.tables e below (T105.setTop (mkF m 113 #[.val (.int p1), .val (.int p2), .val (.int a), .val (.int b), .val (.double (FP.i2d a)), .second, .val (.double (FP.i2d b)), .second, .val (.ref b101), .val (.double (own_r a b)), .second, .val (.long (own_nl a b)), .second, .val (.long (own_dl a b)), .second, .val (.double (FP.l2d (own_nl a b))), .second, .val (.double (FP.l2d (own_dl a b))), .second, .val (.double (FP.dmul (own_r a b) (FP.l2d (own_dl a b)))), .second, .val (.double (FP.dsub (FP.dmul (own_r a b) (FP.l2d (own_dl a b))) (FP.l2d (own_nl a b)))), .second, .val (.double (FP.ddiv (FP.l2d (own_nl a b)) (4787326403894837248 : UInt64))), .second, .val (.int (1 : Int32)), .unset, .unset, .unset] [(.double (4607182418800017408 : UInt64))])) _
      refine XS.dload X105.here hx rfl (hb hby at_113) rfl ?_
      show Steps p.tables e below (T105.setTop (mkF m 115 #[.val (.int p1), .val (.int p2), .val (.int a), .val (.int b), .val (.double (FP.i2d a)), .second, .val (.double (FP.i2d b)), .second, .val (.ref b101), .val (.double (own_r a b)), .second, .val (.long (own_nl a b)), .second, .val (.long (own_dl a b)), .second, .val (.double (FP.l2d (own_nl a b))), .second, .val (.double (FP.l2d (own_dl a b))), .second, .val (.double (FP.dmul (own_r a b) (FP.l2d (own_dl a b)))), .second, .val (.double (FP.dsub (FP.dmul (own_r a b) (FP.l2d (own_dl a b))) (FP.l2d (own_nl a b)))), .second, .val (.double (FP.ddiv (FP.l2d (own_nl a b)) (4787326403894837248 : UInt64))), .second, .val (.int (1 : Int32)), .unset, .unset, .unset] [(.double (own_r a b)), (.double (4607182418800017408 : UInt64))])) _
      refine XS.dcmpS X105.here hx rfl (hb hby at_115) rfl (v := (cmpValue (FP.dcmp (4607182418800017408 : UInt64) (own_r a b)) .g)) rfl ?_
      show Steps p.tables e below (T105.setTop (mkF m 116 #[.val (.int p1), .val (.int p2), .val (.int a), .val (.int b), .val (.double (FP.i2d a)), .second, .val (.double (FP.i2d b)), .second, .val (.ref b101), .val (.double (own_r a b)), .second, .val (.long (own_nl a b)), .second, .val (.long (own_dl a b)), .second, .val (.double (FP.l2d (own_nl a b))), .second, .val (.double (FP.l2d (own_dl a b))), .second, .val (.double (FP.dmul (own_r a b) (FP.l2d (own_dl a b)))), .second, .val (.double (FP.dsub (FP.dmul (own_r a b) (FP.l2d (own_dl a b))) (FP.l2d (own_nl a b)))), .second, .val (.double (FP.ddiv (FP.l2d (own_nl a b)) (4787326403894837248 : UInt64))), .second, .val (.int (1 : Int32)), .unset, .unset, .unset] [(.int (cmpValue (FP.dcmp (4607182418800017408 : UInt64) (own_r a b)) .g))])) _
      refine XS.ifNo X105.here hx rfl (hb hby at_116) rfl ((if0 _ _).trans (flt (OwnFP.cv_le OwnFP.fin_one.noNaN f1.noNaN g3 .g : ¬ ((0 : Int32) < (cmpValue (FP.dcmp (4607182418800017408 : UInt64) (own_r a b)) .g)))).2.2.1) ?_
      show Steps p.tables e below (T105.setTop (mkF m 119 #[.val (.int p1), .val (.int p2), .val (.int a), .val (.int b), .val (.double (FP.i2d a)), .second, .val (.double (FP.i2d b)), .second, .val (.ref b101), .val (.double (own_r a b)), .second, .val (.long (own_nl a b)), .second, .val (.long (own_dl a b)), .second, .val (.double (FP.l2d (own_nl a b))), .second, .val (.double (FP.l2d (own_dl a b))), .second, .val (.double (FP.dmul (own_r a b) (FP.l2d (own_dl a b)))), .second, .val (.double (FP.dsub (FP.dmul (own_r a b) (FP.l2d (own_dl a b))) (FP.l2d (own_nl a b)))), .second, .val (.double (FP.ddiv (FP.l2d (own_nl a b)) (4787326403894837248 : UInt64))), .second, .val (.int (1 : Int32)), .unset, .unset, .unset] [])) _
      refine XS.iconst X105.here hx rfl (hb hby at_119) ?_
      show Steps p.tables e below (T105.setTop (mkF m 120 #[.val (.int p1), .val (.int p2), .val (.int a), .val (.int b), .val (.double (FP.i2d a)), .second, .val (.double (FP.i2d b)), .second, .val (.ref b101), .val (.double (own_r a b)), .second, .val (.long (own_nl a b)), .second, .val (.long (own_dl a b)), .second, .val (.double (FP.l2d (own_nl a b))), .second, .val (.double (FP.l2d (own_dl a b))), .second, .val (.double (FP.dmul (own_r a b) (FP.l2d (own_dl a b)))), .second, .val (.double (FP.dsub (FP.dmul (own_r a b) (FP.l2d (own_dl a b))) (FP.l2d (own_nl a b)))), .second, .val (.double (FP.ddiv (FP.l2d (own_nl a b)) (4787326403894837248 : UInt64))), .second, .val (.int (1 : Int32)), .unset, .unset, .unset] [(.int (1 : Int32))])) _
      refine XS.goto X105.here hx rfl (pc0 := 120) (pc' := 124) rfl (hb hby at_120) (by decide) (by decide) ?_
      show Steps p.tables e below (T105.setTop (mkF m 124 #[.val (.int p1), .val (.int p2), .val (.int a), .val (.int b), .val (.double (FP.i2d a)), .second, .val (.double (FP.i2d b)), .second, .val (.ref b101), .val (.double (own_r a b)), .second, .val (.long (own_nl a b)), .second, .val (.long (own_dl a b)), .second, .val (.double (FP.l2d (own_nl a b))), .second, .val (.double (FP.l2d (own_dl a b))), .second, .val (.double (FP.dmul (own_r a b) (FP.l2d (own_dl a b)))), .second, .val (.double (FP.dsub (FP.dmul (own_r a b) (FP.l2d (own_dl a b))) (FP.l2d (own_nl a b)))), .second, .val (.double (FP.ddiv (FP.l2d (own_nl a b)) (4787326403894837248 : UInt64))), .second, .val (.int (1 : Int32)), .unset, .unset, .unset] [(.int (1 : Int32))])) _
      refine XS.istore X105.here hx rfl (hb hby at_124) rfl (l' := #[.val (.int p1), .val (.int p2), .val (.int a), .val (.int b), .val (.double (FP.i2d a)), .second, .val (.double (FP.i2d b)), .second, .val (.ref b101), .val (.double (own_r a b)), .second, .val (.long (own_nl a b)), .second, .val (.long (own_dl a b)), .second, .val (.double (FP.l2d (own_nl a b))), .second, .val (.double (FP.l2d (own_dl a b))), .second, .val (.double (FP.dmul (own_r a b) (FP.l2d (own_dl a b)))), .second, .val (.double (FP.dsub (FP.dmul (own_r a b) (FP.l2d (own_dl a b))) (FP.l2d (own_nl a b)))), .second, .val (.double (FP.ddiv (FP.l2d (own_nl a b)) (4787326403894837248 : UInt64))), .second, .val (.int (1 : Int32)), .val (.int (1 : Int32)), .unset, .unset]) rfl ?_
      show Steps p.tables e below (T105.setTop (mkF m 126 #[.val (.int p1), .val (.int p2), .val (.int a), .val (.int b), .val (.double (FP.i2d a)), .second, .val (.double (FP.i2d b)), .second, .val (.ref b101), .val (.double (own_r a b)), .second, .val (.long (own_nl a b)), .second, .val (.long (own_dl a b)), .second, .val (.double (FP.l2d (own_nl a b))), .second, .val (.double (FP.l2d (own_dl a b))), .second, .val (.double (FP.dmul (own_r a b) (FP.l2d (own_dl a b)))), .second, .val (.double (FP.dsub (FP.dmul (own_r a b) (FP.l2d (own_dl a b))) (FP.l2d (own_nl a b)))), .second, .val (.double (FP.ddiv (FP.l2d (own_nl a b)) (4787326403894837248 : UInt64))), .second, .val (.int (1 : Int32)), .val (.int (1 : Int32)), .unset, .unset] [])) _
      refine XS.dload X105.here hx rfl (hb hby at_126) rfl ?_
      show Steps p.tables e below (T105.setTop (mkF m 128 #[.val (.int p1), .val (.int p2), .val (.int a), .val (.int b), .val (.double (FP.i2d a)), .second, .val (.double (FP.i2d b)), .second, .val (.ref b101), .val (.double (own_r a b)), .second, .val (.long (own_nl a b)), .second, .val (.long (own_dl a b)), .second, .val (.double (FP.l2d (own_nl a b))), .second, .val (.double (FP.l2d (own_dl a b))), .second, .val (.double (FP.dmul (own_r a b) (FP.l2d (own_dl a b)))), .second, .val (.double (FP.dsub (FP.dmul (own_r a b) (FP.l2d (own_dl a b))) (FP.l2d (own_nl a b)))), .second, .val (.double (FP.ddiv (FP.l2d (own_nl a b)) (4787326403894837248 : UInt64))), .second, .val (.int (1 : Int32)), .val (.int (1 : Int32)), .unset, .unset] [(.double (own_r a b))])) _
      refine XS.dload X105.here hx rfl (hb hby at_128) rfl ?_
      show Steps p.tables e below (T105.setTop (mkF m 130 #[.val (.int p1), .val (.int p2), .val (.int a), .val (.int b), .val (.double (FP.i2d a)), .second, .val (.double (FP.i2d b)), .second, .val (.ref b101), .val (.double (own_r a b)), .second, .val (.long (own_nl a b)), .second, .val (.long (own_dl a b)), .second, .val (.double (FP.l2d (own_nl a b))), .second, .val (.double (FP.l2d (own_dl a b))), .second, .val (.double (FP.dmul (own_r a b) (FP.l2d (own_dl a b)))), .second, .val (.double (FP.dsub (FP.dmul (own_r a b) (FP.l2d (own_dl a b))) (FP.l2d (own_nl a b)))), .second, .val (.double (FP.ddiv (FP.l2d (own_nl a b)) (4787326403894837248 : UInt64))), .second, .val (.int (1 : Int32)), .val (.int (1 : Int32)), .unset, .unset] [(.double (FP.i2d b)), (.double (own_r a b))])) _
      refine XS.dcmpS X105.here hx rfl (hb hby at_130) rfl (v := (cmpValue (FP.dcmp (own_r a b) (FP.i2d b)) .g)) rfl ?_
      show Steps p.tables e below (T105.setTop (mkF m 131 #[.val (.int p1), .val (.int p2), .val (.int a), .val (.int b), .val (.double (FP.i2d a)), .second, .val (.double (FP.i2d b)), .second, .val (.ref b101), .val (.double (own_r a b)), .second, .val (.long (own_nl a b)), .second, .val (.long (own_dl a b)), .second, .val (.double (FP.l2d (own_nl a b))), .second, .val (.double (FP.l2d (own_dl a b))), .second, .val (.double (FP.dmul (own_r a b) (FP.l2d (own_dl a b)))), .second, .val (.double (FP.dsub (FP.dmul (own_r a b) (FP.l2d (own_dl a b))) (FP.l2d (own_nl a b)))), .second, .val (.double (FP.ddiv (FP.l2d (own_nl a b)) (4787326403894837248 : UInt64))), .second, .val (.int (1 : Int32)), .val (.int (1 : Int32)), .unset, .unset] [(.int (cmpValue (FP.dcmp (own_r a b) (FP.i2d b)) .g))])) _
      refine XS.ifNo X105.here hx rfl (hb hby at_131) rfl ((if0 _ _).trans (flt (OwnFP.cv_le f1.noNaN (Fl.i2d_fin _).noNaN g4 .g : ¬ ((0 : Int32) < (cmpValue (FP.dcmp (own_r a b) (FP.i2d b)) .g)))).2.2.1) ?_
      show Steps p.tables e below (T105.setTop (mkF m 134 #[.val (.int p1), .val (.int p2), .val (.int a), .val (.int b), .val (.double (FP.i2d a)), .second, .val (.double (FP.i2d b)), .second, .val (.ref b101), .val (.double (own_r a b)), .second, .val (.long (own_nl a b)), .second, .val (.long (own_dl a b)), .second, .val (.double (FP.l2d (own_nl a b))), .second, .val (.double (FP.l2d (own_dl a b))), .second, .val (.double (FP.dmul (own_r a b) (FP.l2d (own_dl a b)))), .second, .val (.double (FP.dsub (FP.dmul (own_r a b) (FP.l2d (own_dl a b))) (FP.l2d (own_nl a b)))), .second, .val (.double (FP.ddiv (FP.l2d (own_nl a b)) (4787326403894837248 : UInt64))), .second, .val (.int (1 : Int32)), .val (.int (1 : Int32)), .unset, .unset] [])) _
      refine XS.dload X105.here hx rfl (hb hby at_134) rfl ?_
      show Steps p.tables e below (T105.setTop (mkF m 136 #[.val (.int p1), .val (.int p2), .val (.int a), .val (.int b), .val (.double (FP.i2d a)), .second, .val (.double (FP.i2d b)), .second, .val (.ref b101), .val (.double (own_r a b)), .second, .val (.long (own_nl a b)), .second, .val (.long (own_dl a b)), .second, .val (.double (FP.l2d (own_nl a b))), .second, .val (.double (FP.l2d (own_dl a b))), .second, .val (.double (FP.dmul (own_r a b) (FP.l2d (own_dl a b)))), .second, .val (.double (FP.dsub (FP.dmul (own_r a b) (FP.l2d (own_dl a b))) (FP.l2d (own_nl a b)))), .second, .val (.double (FP.ddiv (FP.l2d (own_nl a b)) (4787326403894837248 : UInt64))), .second, .val (.int (1 : Int32)), .val (.int (1 : Int32)), .unset, .unset] [(.double (own_r a b))])) _
      refine XS.dload X105.here hx rfl (hb hby at_136) rfl ?_
      show Steps p.tables e below (T105.setTop (mkF m 138 #[.val (.int p1), .val (.int p2), .val (.int a), .val (.int b), .val (.double (FP.i2d a)), .second, .val (.double (FP.i2d b)), .second, .val (.ref b101), .val (.double (own_r a b)), .second, .val (.long (own_nl a b)), .second, .val (.long (own_dl a b)), .second, .val (.double (FP.l2d (own_nl a b))), .second, .val (.double (FP.l2d (own_dl a b))), .second, .val (.double (FP.dmul (own_r a b) (FP.l2d (own_dl a b)))), .second, .val (.double (FP.dsub (FP.dmul (own_r a b) (FP.l2d (own_dl a b))) (FP.l2d (own_nl a b)))), .second, .val (.double (FP.ddiv (FP.l2d (own_nl a b)) (4787326403894837248 : UInt64))), .second, .val (.int (1 : Int32)), .val (.int (1 : Int32)), .unset, .unset] [(.double (FP.i2d a)), (.double (own_r a b))])) _
      refine XS.dconst1 X105.here hx rfl (hb hby at_138) (v := (4607182418800017408 : UInt64)) rfl ?_
      show Steps p.tables e below (T105.setTop (mkF m 139 #[.val (.int p1), .val (.int p2), .val (.int a), .val (.int b), .val (.double (FP.i2d a)), .second, .val (.double (FP.i2d b)), .second, .val (.ref b101), .val (.double (own_r a b)), .second, .val (.long (own_nl a b)), .second, .val (.long (own_dl a b)), .second, .val (.double (FP.l2d (own_nl a b))), .second, .val (.double (FP.l2d (own_dl a b))), .second, .val (.double (FP.dmul (own_r a b) (FP.l2d (own_dl a b)))), .second, .val (.double (FP.dsub (FP.dmul (own_r a b) (FP.l2d (own_dl a b))) (FP.l2d (own_nl a b)))), .second, .val (.double (FP.ddiv (FP.l2d (own_nl a b)) (4787326403894837248 : UInt64))), .second, .val (.int (1 : Int32)), .val (.int (1 : Int32)), .unset, .unset] [(.double (4607182418800017408 : UInt64)), (.double (FP.i2d a)), (.double (own_r a b))])) _
      refine XS.daddS X105.here hx rfl (hb hby at_139) rfl s1.nn (v := (FP.dadd (FP.i2d a) (4607182418800017408 : UInt64))) rfl ?_
      show Steps p.tables e below (T105.setTop (mkF m 140 #[.val (.int p1), .val (.int p2), .val (.int a), .val (.int b), .val (.double (FP.i2d a)), .second, .val (.double (FP.i2d b)), .second, .val (.ref b101), .val (.double (own_r a b)), .second, .val (.long (own_nl a b)), .second, .val (.long (own_dl a b)), .second, .val (.double (FP.l2d (own_nl a b))), .second, .val (.double (FP.l2d (own_dl a b))), .second, .val (.double (FP.dmul (own_r a b) (FP.l2d (own_dl a b)))), .second, .val (.double (FP.dsub (FP.dmul (own_r a b) (FP.l2d (own_dl a b))) (FP.l2d (own_nl a b)))), .second, .val (.double (FP.ddiv (FP.l2d (own_nl a b)) (4787326403894837248 : UInt64))), .second, .val (.int (1 : Int32)), .val (.int (1 : Int32)), .unset, .unset] [(.double (FP.dadd (FP.i2d a) (4607182418800017408 : UInt64))), (.double (own_r a b))])) _
      refine XS.dcmpS X105.here hx rfl (hb hby at_140) rfl (v := (cmpValue (FP.dcmp (own_r a b) (FP.dadd (FP.i2d a) (4607182418800017408 : UInt64))) .g)) rfl ?_
      show Steps p.tables e below (T105.setTop (mkF m 141 #[.val (.int p1), .val (.int p2), .val (.int a), .val (.int b), .val (.double (FP.i2d a)), .second, .val (.double (FP.i2d b)), .second, .val (.ref b101), .val (.double (own_r a b)), .second, .val (.long (own_nl a b)), .second, .val (.long (own_dl a b)), .second, .val (.double (FP.l2d (own_nl a b))), .second, .val (.double (FP.l2d (own_dl a b))), .second, .val (.double (FP.dmul (own_r a b) (FP.l2d (own_dl a b)))), .second, .val (.double (FP.dsub (FP.dmul (own_r a b) (FP.l2d (own_dl a b))) (FP.l2d (own_nl a b)))), .second, .val (.double (FP.ddiv (FP.l2d (own_nl a b)) (4787326403894837248 : UInt64))), .second, .val (.int (1 : Int32)), .val (.int (1 : Int32)), .unset, .unset] [(.int (cmpValue (FP.dcmp (own_r a b) (FP.dadd (FP.i2d a) (4607182418800017408 : UInt64))) .g))])) _
      refine XS.ifNo X105.here hx rfl (hb hby at_141) rfl ((if0 _ _).trans (flt (OwnFP.cv_le f1.noNaN s1.nn g5 .g : ¬ ((0 : Int32) < (cmpValue (FP.dcmp (own_r a b) (FP.dadd (FP.i2d a) (4607182418800017408 : UInt64))) .g)))).2.2.1) ?_
      show Steps p.tables e below (T105.setTop (mkF m 144 #[.val (.int p1), .val (.int p2), .val (.int a), .val (.int b), .val (.double (FP.i2d a)), .second, .val (.double (FP.i2d b)), .second, .val (.ref b101), .val (.double (own_r a b)), .second, .val (.long (own_nl a b)), .second, .val (.long (own_dl a b)), .second, .val (.double (FP.l2d (own_nl a b))), .second, .val (.double (FP.l2d (own_dl a b))), .second, .val (.double (FP.dmul (own_r a b) (FP.l2d (own_dl a b)))), .second, .val (.double (FP.dsub (FP.dmul (own_r a b) (FP.l2d (own_dl a b))) (FP.l2d (own_nl a b)))), .second, .val (.double (FP.ddiv (FP.l2d (own_nl a b)) (4787326403894837248 : UInt64))), .second, .val (.int (1 : Int32)), .val (.int (1 : Int32)), .unset, .unset] [])) _
      refine XS.iconst X105.here hx rfl (hb hby at_144) ?_
      show Steps p.tables e below (T105.setTop (mkF m 145 #[.val (.int p1), .val (.int p2), .val (.int a), .val (.int b), .val (.double (FP.i2d a)), .second, .val (.double (FP.i2d b)), .second, .val (.ref b101), .val (.double (own_r a b)), .second, .val (.long (own_nl a b)), .second, .val (.long (own_dl a b)), .second, .val (.double (FP.l2d (own_nl a b))), .second, .val (.double (FP.l2d (own_dl a b))), .second, .val (.double (FP.dmul (own_r a b) (FP.l2d (own_dl a b)))), .second, .val (.double (FP.dsub (FP.dmul (own_r a b) (FP.l2d (own_dl a b))) (FP.l2d (own_nl a b)))), .second, .val (.double (FP.ddiv (FP.l2d (own_nl a b)) (4787326403894837248 : UInt64))), .second, .val (.int (1 : Int32)), .val (.int (1 : Int32)), .unset, .unset] [(.int (1 : Int32))])) _
      refine XS.goto X105.here hx rfl (pc0 := 145) (pc' := 149) rfl (hb hby at_145) (by decide) (by decide) ?_
      show Steps p.tables e below (T105.setTop (mkF m 149 #[.val (.int p1), .val (.int p2), .val (.int a), .val (.int b), .val (.double (FP.i2d a)), .second, .val (.double (FP.i2d b)), .second, .val (.ref b101), .val (.double (own_r a b)), .second, .val (.long (own_nl a b)), .second, .val (.long (own_dl a b)), .second, .val (.double (FP.l2d (own_nl a b))), .second, .val (.double (FP.l2d (own_dl a b))), .second, .val (.double (FP.dmul (own_r a b) (FP.l2d (own_dl a b)))), .second, .val (.double (FP.dsub (FP.dmul (own_r a b) (FP.l2d (own_dl a b))) (FP.l2d (own_nl a b)))), .second, .val (.double (FP.ddiv (FP.l2d (own_nl a b)) (4787326403894837248 : UInt64))), .second, .val (.int (1 : Int32)), .val (.int (1 : Int32)), .unset, .unset] [(.int (1 : Int32))])) _
      refine XS.istore X105.here hx rfl (hb hby at_149) rfl (l' := #[.val (.int p1), .val (.int p2), .val (.int a), .val (.int b), .val (.double (FP.i2d a)), .second, .val (.double (FP.i2d b)), .second, .val (.ref b101), .val (.double (own_r a b)), .second, .val (.long (own_nl a b)), .second, .val (.long (own_dl a b)), .second, .val (.double (FP.l2d (own_nl a b))), .second, .val (.double (FP.l2d (own_dl a b))), .second, .val (.double (FP.dmul (own_r a b) (FP.l2d (own_dl a b)))), .second, .val (.double (FP.dsub (FP.dmul (own_r a b) (FP.l2d (own_dl a b))) (FP.l2d (own_nl a b)))), .second, .val (.double (FP.ddiv (FP.l2d (own_nl a b)) (4787326403894837248 : UInt64))), .second, .val (.int (1 : Int32)), .val (.int (1 : Int32)), .val (.int (1 : Int32)), .unset]) rfl ?_
      show Steps p.tables e below (T105.setTop (mkF m 151 #[.val (.int p1), .val (.int p2), .val (.int a), .val (.int b), .val (.double (FP.i2d a)), .second, .val (.double (FP.i2d b)), .second, .val (.ref b101), .val (.double (own_r a b)), .second, .val (.long (own_nl a b)), .second, .val (.long (own_dl a b)), .second, .val (.double (FP.l2d (own_nl a b))), .second, .val (.double (FP.l2d (own_dl a b))), .second, .val (.double (FP.dmul (own_r a b) (FP.l2d (own_dl a b)))), .second, .val (.double (FP.dsub (FP.dmul (own_r a b) (FP.l2d (own_dl a b))) (FP.l2d (own_nl a b)))), .second, .val (.double (FP.ddiv (FP.l2d (own_nl a b)) (4787326403894837248 : UInt64))), .second, .val (.int (1 : Int32)), .val (.int (1 : Int32)), .val (.int (1 : Int32)), .unset] [])) _
      refine XS.iloadN X105.here hx rfl (hb hby at_151) rfl ?_
      exact kt)
  by_cases hz : a = (0 : Int32)
  · skip
    have pre107 : ∀ t, Steps p.tables e below (T105.setTop (mkF m 194 #[.val (.int p1), .val (.int p2), .val (.int a), .val (.int b), .val (.double (FP.i2d a)), .second, .val (.double (FP.i2d b)), .second, .val (.ref b101), .val (.double (own_r a b)), .second, .val (.long (own_nl a b)), .second, .val (.long (own_dl a b)), .second, .val (.double (FP.l2d (own_nl a b))), .second, .val (.double (FP.l2d (own_dl a b))), .second, .val (.double (FP.dmul (own_r a b) (FP.l2d (own_dl a b)))), .second, .val (.double (FP.dsub (FP.dmul (own_r a b) (FP.l2d (own_dl a b))) (FP.l2d (own_nl a b)))), .second, .val (.double (FP.ddiv (FP.l2d (own_nl a b)) (4787326403894837248 : UInt64))), .second, .val (.int (1 : Int32)), .val (.int (1 : Int32)), .val (.int (1 : Int32)), .val (.int (1 : Int32))] [(.int (1 : Int32))])) t → Steps p.tables e below (s₁.setTop (entryFrame m #[(.int p1), (.int p2)] maxLocals)) t := fun t kt => pre106 t (by
        show Steps p.tables e below (T105.setTop (mkF m 152 #[.val (.int p1), .val (.int p2), .val (.int a), .val (.int b), .val (.double (FP.i2d a)), .second, .val (.double (FP.i2d b)), .second, .val (.ref b101), .val (.double (own_r a b)), .second, .val (.long (own_nl a b)), .second, .val (.long (own_dl a b)), .second, .val (.double (FP.l2d (own_nl a b))), .second, .val (.double (FP.l2d (own_dl a b))), .second, .val (.double (FP.dmul (own_r a b) (FP.l2d (own_dl a b)))), .second, .val (.double (FP.dsub (FP.dmul (own_r a b) (FP.l2d (own_dl a b))) (FP.l2d (own_nl a b)))), .second, .val (.double (FP.ddiv (FP.l2d (own_nl a b)) (4787326403894837248 : UInt64))), .second, .val (.int (1 : Int32)), .val (.int (1 : Int32)), .val (.int (1 : Int32)), .unset] [(.int a)])) _
        refine XS.ifNo X105.here hx rfl (hb hby at_152) rfl ((if0 _ _).trans (teq (hz : a = (0 : Int32))).2) ?_
        show Steps p.tables e below (T105.setTop (mkF m 155 #[.val (.int p1), .val (.int p2), .val (.int a), .val (.int b), .val (.double (FP.i2d a)), .second, .val (.double (FP.i2d b)), .second, .val (.ref b101), .val (.double (own_r a b)), .second, .val (.long (own_nl a b)), .second, .val (.long (own_dl a b)), .second, .val (.double (FP.l2d (own_nl a b))), .second, .val (.double (FP.l2d (own_dl a b))), .second, .val (.double (FP.dmul (own_r a b) (FP.l2d (own_dl a b)))), .second, .val (.double (FP.dsub (FP.dmul (own_r a b) (FP.l2d (own_dl a b))) (FP.l2d (own_nl a b)))), .second, .val (.double (FP.ddiv (FP.l2d (own_nl a b)) (4787326403894837248 : UInt64))), .second, .val (.int (1 : Int32)), .val (.int (1 : Int32)), .val (.int (1 : Int32)), .unset] [])) _
        refine XS.dload X105.here hx rfl (hb hby at_155) rfl ?_
        show Steps p.tables e below (T105.setTop (mkF m 157 #[.val (.int p1), .val (.int p2), .val (.int a), .val (.int b), .val (.double (FP.i2d a)), .second, .val (.double (FP.i2d b)), .second, .val (.ref b101), .val (.double (own_r a b)), .second, .val (.long (own_nl a b)), .second, .val (.long (own_dl a b)), .second, .val (.double (FP.l2d (own_nl a b))), .second, .val (.double (FP.l2d (own_dl a b))), .second, .val (.double (FP.dmul (own_r a b) (FP.l2d (own_dl a b)))), .second, .val (.double (FP.dsub (FP.dmul (own_r a b) (FP.l2d (own_dl a b))) (FP.l2d (own_nl a b)))), .second, .val (.double (FP.ddiv (FP.l2d (own_nl a b)) (4787326403894837248 : UInt64))), .second, .val (.int (1 : Int32)), .val (.int (1 : Int32)), .val (.int (1 : Int32)), .unset] [(.double (own_r a b))])) _
        refine XS.dconst1 X105.here hx rfl (hb hby at_157) (v := (4607182418800017408 : UInt64)) rfl ?_
        show Steps p.tables e below (T105.setTop (mkF m 158 #[.val (.int p1), .val (.int p2), .val (.int a), .val (.int b), .val (.double (FP.i2d a)), .second, .val (.double (FP.i2d b)), .second, .val (.ref b101), .val (.double (own_r a b)), .second, .val (.long (own_nl a b)), .second, .val (.long (own_dl a b)), .second, .val (.double (FP.l2d (own_nl a b))), .second, .val (.double (FP.l2d (own_dl a b))), .second, .val (.double (FP.dmul (own_r a b) (FP.l2d (own_dl a b)))), .second, .val (.double (FP.dsub (FP.dmul (own_r a b) (FP.l2d (own_dl a b))) (FP.l2d (own_nl a b)))), .second, .val (.double (FP.ddiv (FP.l2d (own_nl a b)) (4787326403894837248 : UInt64))), .second, .val (.int (1 : Int32)), .val (.int (1 : Int32)), .val (.int (1 : Int32)), .unset] [(.double (4607182418800017408 : UInt64)), (.double (own_r a b))])) _
        refine XS.dcmpS X105.here hx rfl (hb hby at_158) rfl (v := (cmpValue (FP.dcmp (own_r a b) (4607182418800017408 : UInt64)) .l)) rfl ?_
        show Steps p.tables e below (T105.setTop (mkF m 159 #[.val (.int p1), .val (.int p2), .val (.int a), .val (.int b), .val (.double (FP.i2d a)), .second, .val (.double (FP.i2d b)), .second, .val (.ref b101), .val (.double (own_r a b)), .second, .val (.long (own_nl a b)), .second, .val (.long (own_dl a b)), .second, .val (.double (FP.l2d (own_nl a b))), .second, .val (.double (FP.l2d (own_dl a b))), .second, .val (.double (FP.dmul (own_r a b) (FP.l2d (own_dl a b)))), .second, .val (.double (FP.dsub (FP.dmul (own_r a b) (FP.l2d (own_dl a b))) (FP.l2d (own_nl a b)))), .second, .val (.double (FP.ddiv (FP.l2d (own_nl a b)) (4787326403894837248 : UInt64))), .second, .val (.int (1 : Int32)), .val (.int (1 : Int32)), .val (.int (1 : Int32)), .unset] [(.int (cmpValue (FP.dcmp (own_r a b) (4607182418800017408 : UInt64)) .l))])) _
        refine XS.ifNo X105.here hx rfl (hb hby at_159) rfl ((if0 _ _).trans (teq (OwnFP.cv_eq f1.noNaN OwnFP.fin_one.noNaN (g6 (by rw [hz]; rfl)) .l : (cmpValue (FP.dcmp (own_r a b) (4607182418800017408 : UInt64)) .l) = (0 : Int32))).2) ?_
        show Steps p.tables e below (T105.setTop (mkF m 162 #[.val (.int p1), .val (.int p2), .val (.int a), .val (.int b), .val (.double (FP.i2d a)), .second, .val (.double (FP.i2d b)), .second, .val (.ref b101), .val (.double (own_r a b)), .second, .val (.long (own_nl a b)), .second, .val (.long (own_dl a b)), .second, .val (.double (FP.l2d (own_nl a b))), .second, .val (.double (FP.l2d (own_dl a b))), .second, .val (.double (FP.dmul (own_r a b) (FP.l2d (own_dl a b)))), .second, .val (.double (FP.dsub (FP.dmul (own_r a b) (FP.l2d (own_dl a b))) (FP.l2d (own_nl a b)))), .second, .val (.double (FP.ddiv (FP.l2d (own_nl a b)) (4787326403894837248 : UInt64))), .second, .val (.int (1 : Int32)), .val (.int (1 : Int32)), .val (.int (1 : Int32)), .unset] [])) _
        refine XS.iconst X105.here hx rfl (hb hby at_162) ?_
        show Steps p.tables e below (T105.setTop (mkF m 163 #[.val (.int p1), .val (.int p2), .val (.int a), .val (.int b), .val (.double (FP.i2d a)), .second, .val (.double (FP.i2d b)), .second, .val (.ref b101), .val (.double (own_r a b)), .second, .val (.long (own_nl a b)), .second, .val (.long (own_dl a b)), .second, .val (.double (FP.l2d (own_nl a b))), .second, .val (.double (FP.l2d (own_dl a b))), .second, .val (.double (FP.dmul (own_r a b) (FP.l2d (own_dl a b)))), .second, .val (.double (FP.dsub (FP.dmul (own_r a b) (FP.l2d (own_dl a b))) (FP.l2d (own_nl a b)))), .second, .val (.double (FP.ddiv (FP.l2d (own_nl a b)) (4787326403894837248 : UInt64))), .second, .val (.int (1 : Int32)), .val (.int (1 : Int32)), .val (.int (1 : Int32)), .unset] [(.int (1 : Int32))])) _
        refine XS.goto X105.here hx rfl (pc0 := 163) (pc' := 167) rfl (hb hby at_163) (by decide) (by decide) ?_
        show Steps p.tables e below (T105.setTop (mkF m 167 #[.val (.int p1), .val (.int p2), .val (.int a), .val (.int b), .val (.double (FP.i2d a)), .second, .val (.double (FP.i2d b)), .second, .val (.ref b101), .val (.double (own_r a b)), .second, .val (.long (own_nl a b)), .second, .val (.long (own_dl a b)), .second, .val (.double (FP.l2d (own_nl a b))), .second, .val (.double (FP.l2d (own_dl a b))), .second, .val (.double (FP.dmul (own_r a b) (FP.l2d (own_dl a b)))), .second, .val (.double (FP.dsub (FP.dmul (own_r a b) (FP.l2d (own_dl a b))) (FP.l2d (own_nl a b)))), .second, .val (.double (FP.ddiv (FP.l2d (own_nl a b)) (4787326403894837248 : UInt64))), .second, .val (.int (1 : Int32)), .val (.int (1 : Int32)), .val (.int (1 : Int32)), .unset] [(.int (1 : Int32))])) _
        refine XS.istore X105.here hx rfl (hb hby at_167) rfl (l' := #[.val (.int p1), .val (.int p2), .val (.int a), .val (.int b), .val (.double (FP.i2d a)), .second, .val (.double (FP.i2d b)), .second, .val (.ref b101), .val (.double (own_r a b)), .second, .val (.long (own_nl a b)), .second, .val (.long (own_dl a b)), .second, .val (.double (FP.l2d (own_nl a b))), .second, .val (.double (FP.l2d (own_dl a b))), .second, .val (.double (FP.dmul (own_r a b) (FP.l2d (own_dl a b)))), .second, .val (.double (FP.dsub (FP.dmul (own_r a b) (FP.l2d (own_dl a b))) (FP.l2d (own_nl a b)))), .second, .val (.double (FP.ddiv (FP.l2d (own_nl a b)) (4787326403894837248 : UInt64))), .second, .val (.int (1 : Int32)), .val (.int (1 : Int32)), .val (.int (1 : Int32)), .val (.int (1 : Int32))]) rfl ?_
        show Steps p.tables e below (T105.setTop (mkF m 169 #[.val (.int p1), .val (.int p2), .val (.int a), .val (.int b), .val (.double (FP.i2d a)), .second, .val (.double (FP.i2d b)), .second, .val (.ref b101), .val (.double (own_r a b)), .second, .val (.long (own_nl a b)), .second, .val (.long (own_dl a b)), .second, .val (.double (FP.l2d (own_nl a b))), .second, .val (.double (FP.l2d (own_dl a b))), .second, .val (.double (FP.dmul (own_r a b) (FP.l2d (own_dl a b)))), .second, .val (.double (FP.dsub (FP.dmul (own_r a b) (FP.l2d (own_dl a b))) (FP.l2d (own_nl a b)))), .second, .val (.double (FP.ddiv (FP.l2d (own_nl a b)) (4787326403894837248 : UInt64))), .second, .val (.int (1 : Int32)), .val (.int (1 : Int32)), .val (.int (1 : Int32)), .val (.int (1 : Int32))] [])) _
        refine XS.iload X105.here hx rfl (hb hby at_169) rfl ?_
        show Steps p.tables e below (T105.setTop (mkF m 171 #[.val (.int p1), .val (.int p2), .val (.int a), .val (.int b), .val (.double (FP.i2d a)), .second, .val (.double (FP.i2d b)), .second, .val (.ref b101), .val (.double (own_r a b)), .second, .val (.long (own_nl a b)), .second, .val (.long (own_dl a b)), .second, .val (.double (FP.l2d (own_nl a b))), .second, .val (.double (FP.l2d (own_dl a b))), .second, .val (.double (FP.dmul (own_r a b) (FP.l2d (own_dl a b)))), .second, .val (.double (FP.dsub (FP.dmul (own_r a b) (FP.l2d (own_dl a b))) (FP.l2d (own_nl a b)))), .second, .val (.double (FP.ddiv (FP.l2d (own_nl a b)) (4787326403894837248 : UInt64))), .second, .val (.int (1 : Int32)), .val (.int (1 : Int32)), .val (.int (1 : Int32)), .val (.int (1 : Int32))] [(.int (1 : Int32))])) _
        refine XS.ifNo X105.here hx rfl (hb hby at_171) rfl ((if0 _ _).trans (feq ((by decide) : ¬ ((1 : Int32) = (0 : Int32)))).1) ?_
        show Steps p.tables e below (T105.setTop (mkF m 174 #[.val (.int p1), .val (.int p2), .val (.int a), .val (.int b), .val (.double (FP.i2d a)), .second, .val (.double (FP.i2d b)), .second, .val (.ref b101), .val (.double (own_r a b)), .second, .val (.long (own_nl a b)), .second, .val (.long (own_dl a b)), .second, .val (.double (FP.l2d (own_nl a b))), .second, .val (.double (FP.l2d (own_dl a b))), .second, .val (.double (FP.dmul (own_r a b) (FP.l2d (own_dl a b)))), .second, .val (.double (FP.dsub (FP.dmul (own_r a b) (FP.l2d (own_dl a b))) (FP.l2d (own_nl a b)))), .second, .val (.double (FP.ddiv (FP.l2d (own_nl a b)) (4787326403894837248 : UInt64))), .second, .val (.int (1 : Int32)), .val (.int (1 : Int32)), .val (.int (1 : Int32)), .val (.int (1 : Int32))] [])) _
        refine XS.iload X105.here hx rfl (hb hby at_174) rfl ?_
        show Steps p.tables e below (T105.setTop (mkF m 176 #[.val (.int p1), .val (.int p2), .val (.int a), .val (.int b), .val (.double (FP.i2d a)), .second, .val (.double (FP.i2d b)), .second, .val (.ref b101), .val (.double (own_r a b)), .second, .val (.long (own_nl a b)), .second, .val (.long (own_dl a b)), .second, .val (.double (FP.l2d (own_nl a b))), .second, .val (.double (FP.l2d (own_dl a b))), .second, .val (.double (FP.dmul (own_r a b) (FP.l2d (own_dl a b)))), .second, .val (.double (FP.dsub (FP.dmul (own_r a b) (FP.l2d (own_dl a b))) (FP.l2d (own_nl a b)))), .second, .val (.double (FP.ddiv (FP.l2d (own_nl a b)) (4787326403894837248 : UInt64))), .second, .val (.int (1 : Int32)), .val (.int (1 : Int32)), .val (.int (1 : Int32)), .val (.int (1 : Int32))] [(.int (1 : Int32))])) _
        refine XS.ifNo X105.here hx rfl (hb hby at_176) rfl ((if0 _ _).trans (feq ((by decide) : ¬ ((1 : Int32) = (0 : Int32)))).1) ?_
        show Steps p.tables e below (T105.setTop (mkF m 179 #[.val (.int p1), .val (.int p2), .val (.int a), .val (.int b), .val (.double (FP.i2d a)), .second, .val (.double (FP.i2d b)), .second, .val (.ref b101), .val (.double (own_r a b)), .second, .val (.long (own_nl a b)), .second, .val (.long (own_dl a b)), .second, .val (.double (FP.l2d (own_nl a b))), .second, .val (.double (FP.l2d (own_dl a b))), .second, .val (.double (FP.dmul (own_r a b) (FP.l2d (own_dl a b)))), .second, .val (.double (FP.dsub (FP.dmul (own_r a b) (FP.l2d (own_dl a b))) (FP.l2d (own_nl a b)))), .second, .val (.double (FP.ddiv (FP.l2d (own_nl a b)) (4787326403894837248 : UInt64))), .second, .val (.int (1 : Int32)), .val (.int (1 : Int32)), .val (.int (1 : Int32)), .val (.int (1 : Int32))] [])) _
        refine XS.iload X105.here hx rfl (hb hby at_179) rfl ?_
        show Steps p.tables e below (T105.setTop (mkF m 181 #[.val (.int p1), .val (.int p2), .val (.int a), .val (.int b), .val (.double (FP.i2d a)), .second, .val (.double (FP.i2d b)), .second, .val (.ref b101), .val (.double (own_r a b)), .second, .val (.long (own_nl a b)), .second, .val (.long (own_dl a b)), .second, .val (.double (FP.l2d (own_nl a b))), .second, .val (.double (FP.l2d (own_dl a b))), .second, .val (.double (FP.dmul (own_r a b) (FP.l2d (own_dl a b)))), .second, .val (.double (FP.dsub (FP.dmul (own_r a b) (FP.l2d (own_dl a b))) (FP.l2d (own_nl a b)))), .second, .val (.double (FP.ddiv (FP.l2d (own_nl a b)) (4787326403894837248 : UInt64))), .second, .val (.int (1 : Int32)), .val (.int (1 : Int32)), .val (.int (1 : Int32)), .val (.int (1 : Int32))] [(.int (1 : Int32))])) _
        refine XS.ifNo X105.here hx rfl (hb hby at_181) rfl ((if0 _ _).trans (feq ((by decide) : ¬ ((1 : Int32) = (0 : Int32)))).1) ?_
        show Steps p.tables e below (T105.setTop (mkF m 184 #[.val (.int p1), .val (.int p2), .val (.int a), .val (.int b), .val (.double (FP.i2d a)), .second, .val (.double (FP.i2d b)), .second, .val (.ref b101), .val (.double (own_r a b)), .second, .val (.long (own_nl a b)), .second, .val (.long (own_dl a b)), .second, .val (.double (FP.l2d (own_nl a b))), .second, .val (.double (FP.l2d (own_dl a b))), .second, .val (.double (FP.dmul (own_r a b) (FP.l2d (own_dl a b)))), .second, .val (.double (FP.dsub (FP.dmul (own_r a b) (FP.l2d (own_dl a b))) (FP.l2d (own_nl a b)))), .second, .val (.double (FP.ddiv (FP.l2d (own_nl a b)) (4787326403894837248 : UInt64))), .second, .val (.int (1 : Int32)), .val (.int (1 : Int32)), .val (.int (1 : Int32)), .val (.int (1 : Int32))] [])) _
        refine XS.iload X105.here hx rfl (hb hby at_184) rfl ?_
        show Steps p.tables e below (T105.setTop (mkF m 186 #[.val (.int p1), .val (.int p2), .val (.int a), .val (.int b), .val (.double (FP.i2d a)), .second, .val (.double (FP.i2d b)), .second, .val (.ref b101), .val (.double (own_r a b)), .second, .val (.long (own_nl a b)), .second, .val (.long (own_dl a b)), .second, .val (.double (FP.l2d (own_nl a b))), .second, .val (.double (FP.l2d (own_dl a b))), .second, .val (.double (FP.dmul (own_r a b) (FP.l2d (own_dl a b)))), .second, .val (.double (FP.dsub (FP.dmul (own_r a b) (FP.l2d (own_dl a b))) (FP.l2d (own_nl a b)))), .second, .val (.double (FP.ddiv (FP.l2d (own_nl a b)) (4787326403894837248 : UInt64))), .second, .val (.int (1 : Int32)), .val (.int (1 : Int32)), .val (.int (1 : Int32)), .val (.int (1 : Int32))] [(.int (1 : Int32))])) _
        refine XS.ifNo X105.here hx rfl (hb hby at_186) rfl ((if0 _ _).trans (feq ((by decide) : ¬ ((1 : Int32) = (0 : Int32)))).1) ?_
        show Steps p.tables e below (T105.setTop (mkF m 189 #[.val (.int p1), .val (.int p2), .val (.int a), .val (.int b), .val (.double (FP.i2d a)), .second, .val (.double (FP.i2d b)), .second, .val (.ref b101), .val (.double (own_r a b)), .second, .val (.long (own_nl a b)), .second, .val (.long (own_dl a b)), .second, .val (.double (FP.l2d (own_nl a b))), .second, .val (.double (FP.l2d (own_dl a b))), .second, .val (.double (FP.dmul (own_r a b) (FP.l2d (own_dl a b)))), .second, .val (.double (FP.dsub (FP.dmul (own_r a b) (FP.l2d (own_dl a b))) (FP.l2d (own_nl a b)))), .second, .val (.double (FP.ddiv (FP.l2d (own_nl a b)) (4787326403894837248 : UInt64))), .second, .val (.int (1 : Int32)), .val (.int (1 : Int32)), .val (.int (1 : Int32)), .val (.int (1 : Int32))] [])) _
        refine XS.iconst X105.here hx rfl (hb hby at_189) ?_
        show Steps p.tables e below (T105.setTop (mkF m 190 #[.val (.int p1), .val (.int p2), .val (.int a), .val (.int b), .val (.double (FP.i2d a)), .second, .val (.double (FP.i2d b)), .second, .val (.ref b101), .val (.double (own_r a b)), .second, .val (.long (own_nl a b)), .second, .val (.long (own_dl a b)), .second, .val (.double (FP.l2d (own_nl a b))), .second, .val (.double (FP.l2d (own_dl a b))), .second, .val (.double (FP.dmul (own_r a b) (FP.l2d (own_dl a b)))), .second, .val (.double (FP.dsub (FP.dmul (own_r a b) (FP.l2d (own_dl a b))) (FP.l2d (own_nl a b)))), .second, .val (.double (FP.ddiv (FP.l2d (own_nl a b)) (4787326403894837248 : UInt64))), .second, .val (.int (1 : Int32)), .val (.int (1 : Int32)), .val (.int (1 : Int32)), .val (.int (1 : Int32))] [(.int (1 : Int32))])) _
        refine XS.goto X105.here hx rfl (pc0 := 190) (pc' := 194) rfl (hb hby at_190) (by decide) (by decide) ?_
        exact kt)
    obtain ⟨fs, hr, hrun, hended, hW, hsame⟩ := X105.leave (v := some (.int (1 : Int32))) (fun h => by rw [Bd.returns] at h; cases h)
    refine ⟨_, _, pre107 _ ?_, hrun, hended, _, _, rfl, ?_, ⟨_, rfl⟩, hW, hsame.mono (by decide) (by decide)⟩
    · show Steps p.tables e below (T105.setTop (mkF m 194 #[.val (.int p1), .val (.int p2), .val (.int a), .val (.int b), .val (.double (FP.i2d a)), .second, .val (.double (FP.i2d b)), .second, .val (.ref b101), .val (.double (own_r a b)), .second, .val (.long (own_nl a b)), .second, .val (.long (own_dl a b)), .second, .val (.double (FP.l2d (own_nl a b))), .second, .val (.double (FP.l2d (own_dl a b))), .second, .val (.double (FP.dmul (own_r a b) (FP.l2d (own_dl a b)))), .second, .val (.double (FP.dsub (FP.dmul (own_r a b) (FP.l2d (own_dl a b))) (FP.l2d (own_nl a b)))), .second, .val (.double (FP.ddiv (FP.l2d (own_nl a b)) (4787326403894837248 : UInt64))), .second, .val (.int (1 : Int32)), .val (.int (1 : Int32)), .val (.int (1 : Int32)), .val (.int (1 : Int32))] [(.int (1 : Int32))])) _
      exact retN X105 hx (t := .boolean) Bd.returns (by simp) (hb hby at_194) hr
    · show Q0 Z p1 p2 h0 n0 _ T105.heap _
      rw [e105]
      exact ⟨rfl, N105⟩
  · skip
    have pre108 : ∀ t, Steps p.tables e below (T105.setTop (mkF m 194 #[.val (.int p1), .val (.int p2), .val (.int a), .val (.int b), .val (.double (FP.i2d a)), .second, .val (.double (FP.i2d b)), .second, .val (.ref b101), .val (.double (own_r a b)), .second, .val (.long (own_nl a b)), .second, .val (.long (own_dl a b)), .second, .val (.double (FP.l2d (own_nl a b))), .second, .val (.double (FP.l2d (own_dl a b))), .second, .val (.double (FP.dmul (own_r a b) (FP.l2d (own_dl a b)))), .second, .val (.double (FP.dsub (FP.dmul (own_r a b) (FP.l2d (own_dl a b))) (FP.l2d (own_nl a b)))), .second, .val (.double (FP.ddiv (FP.l2d (own_nl a b)) (4787326403894837248 : UInt64))), .second, .val (.int (1 : Int32)), .val (.int (1 : Int32)), .val (.int (1 : Int32)), .val (.int (1 : Int32))] [(.int (1 : Int32))])) t → Steps p.tables e below (s₁.setTop (entryFrame m #[(.int p1), (.int p2)] maxLocals)) t := fun t kt => pre106 t (by
        show Steps p.tables e below (T105.setTop (mkF m 152 #[.val (.int p1), .val (.int p2), .val (.int a), .val (.int b), .val (.double (FP.i2d a)), .second, .val (.double (FP.i2d b)), .second, .val (.ref b101), .val (.double (own_r a b)), .second, .val (.long (own_nl a b)), .second, .val (.long (own_dl a b)), .second, .val (.double (FP.l2d (own_nl a b))), .second, .val (.double (FP.l2d (own_dl a b))), .second, .val (.double (FP.dmul (own_r a b) (FP.l2d (own_dl a b)))), .second, .val (.double (FP.dsub (FP.dmul (own_r a b) (FP.l2d (own_dl a b))) (FP.l2d (own_nl a b)))), .second, .val (.double (FP.ddiv (FP.l2d (own_nl a b)) (4787326403894837248 : UInt64))), .second, .val (.int (1 : Int32)), .val (.int (1 : Int32)), .val (.int (1 : Int32)), .unset] [(.int a)])) _
        refine XS.ifYes X105.here hx rfl (pc0 := 152) (pc' := 162) rfl (hb hby at_152) rfl ((if0 _ _).trans (feq (hz : ¬ (a = (0 : Int32)))).2) (by decide) (by decide) ?_
        show Steps p.tables e below (T105.setTop (mkF m 162 #[.val (.int p1), .val (.int p2), .val (.int a), .val (.int b), .val (.double (FP.i2d a)), .second, .val (.double (FP.i2d b)), .second, .val (.ref b101), .val (.double (own_r a b)), .second, .val (.long (own_nl a b)), .second, .val (.long (own_dl a b)), .second, .val (.double (FP.l2d (own_nl a b))), .second, .val (.double (FP.l2d (own_dl a b))), .second, .val (.double (FP.dmul (own_r a b) (FP.l2d (own_dl a b)))), .second, .val (.double (FP.dsub (FP.dmul (own_r a b) (FP.l2d (own_dl a b))) (FP.l2d (own_nl a b)))), .second, .val (.double (FP.ddiv (FP.l2d (own_nl a b)) (4787326403894837248 : UInt64))), .second, .val (.int (1 : Int32)), .val (.int (1 : Int32)), .val (.int (1 : Int32)), .unset] [])) _
        refine XS.iconst X105.here hx rfl (hb hby at_162) ?_
        show Steps p.tables e below (T105.setTop (mkF m 163 #[.val (.int p1), .val (.int p2), .val (.int a), .val (.int b), .val (.double (FP.i2d a)), .second, .val (.double (FP.i2d b)), .second, .val (.ref b101), .val (.double (own_r a b)), .second, .val (.long (own_nl a b)), .second, .val (.long (own_dl a b)), .second, .val (.double (FP.l2d (own_nl a b))), .second, .val (.double (FP.l2d (own_dl a b))), .second, .val (.double (FP.dmul (own_r a b) (FP.l2d (own_dl a b)))), .second, .val (.double (FP.dsub (FP.dmul (own_r a b) (FP.l2d (own_dl a b))) (FP.l2d (own_nl a b)))), .second, .val (.double (FP.ddiv (FP.l2d (own_nl a b)) (4787326403894837248 : UInt64))), .second, .val (.int (1 : Int32)), .val (.int (1 : Int32)), .val (.int (1 : Int32)), .unset] [(.int (1 : Int32))])) _
        refine XS.goto X105.here hx rfl (pc0 := 163) (pc' := 167) rfl (hb hby at_163) (by decide) (by decide) ?_
        show Steps p.tables e below (T105.setTop (mkF m 167 #[.val (.int p1), .val (.int p2), .val (.int a), .val (.int b), .val (.double (FP.i2d a)), .second, .val (.double (FP.i2d b)), .second, .val (.ref b101), .val (.double (own_r a b)), .second, .val (.long (own_nl a b)), .second, .val (.long (own_dl a b)), .second, .val (.double (FP.l2d (own_nl a b))), .second, .val (.double (FP.l2d (own_dl a b))), .second, .val (.double (FP.dmul (own_r a b) (FP.l2d (own_dl a b)))), .second, .val (.double (FP.dsub (FP.dmul (own_r a b) (FP.l2d (own_dl a b))) (FP.l2d (own_nl a b)))), .second, .val (.double (FP.ddiv (FP.l2d (own_nl a b)) (4787326403894837248 : UInt64))), .second, .val (.int (1 : Int32)), .val (.int (1 : Int32)), .val (.int (1 : Int32)), .unset] [(.int (1 : Int32))])) _
        refine XS.istore X105.here hx rfl (hb hby at_167) rfl (l' := #[.val (.int p1), .val (.int p2), .val (.int a), .val (.int b), .val (.double (FP.i2d a)), .second, .val (.double (FP.i2d b)), .second, .val (.ref b101), .val (.double (own_r a b)), .second, .val (.long (own_nl a b)), .second, .val (.long (own_dl a b)), .second, .val (.double (FP.l2d (own_nl a b))), .second, .val (.double (FP.l2d (own_dl a b))), .second, .val (.double (FP.dmul (own_r a b) (FP.l2d (own_dl a b)))), .second, .val (.double (FP.dsub (FP.dmul (own_r a b) (FP.l2d (own_dl a b))) (FP.l2d (own_nl a b)))), .second, .val (.double (FP.ddiv (FP.l2d (own_nl a b)) (4787326403894837248 : UInt64))), .second, .val (.int (1 : Int32)), .val (.int (1 : Int32)), .val (.int (1 : Int32)), .val (.int (1 : Int32))]) rfl ?_
        show Steps p.tables e below (T105.setTop (mkF m 169 #[.val (.int p1), .val (.int p2), .val (.int a), .val (.int b), .val (.double (FP.i2d a)), .second, .val (.double (FP.i2d b)), .second, .val (.ref b101), .val (.double (own_r a b)), .second, .val (.long (own_nl a b)), .second, .val (.long (own_dl a b)), .second, .val (.double (FP.l2d (own_nl a b))), .second, .val (.double (FP.l2d (own_dl a b))), .second, .val (.double (FP.dmul (own_r a b) (FP.l2d (own_dl a b)))), .second, .val (.double (FP.dsub (FP.dmul (own_r a b) (FP.l2d (own_dl a b))) (FP.l2d (own_nl a b)))), .second, .val (.double (FP.ddiv (FP.l2d (own_nl a b)) (4787326403894837248 : UInt64))), .second, .val (.int (1 : Int32)), .val (.int (1 : Int32)), .val (.int (1 : Int32)), .val (.int (1 : Int32))] [])) _
        refine XS.iload X105.here hx rfl (hb hby at_169) rfl ?_
        show Steps p.tables e below (T105.setTop (mkF m 171 #[.val (.int p1), .val (.int p2), .val (.int a), .val (.int b), .val (.double (FP.i2d a)), .second, .val (.double (FP.i2d b)), .second, .val (.ref b101), .val (.double (own_r a b)), .second, .val (.long (own_nl a b)), .second, .val (.long (own_dl a b)), .second, .val (.double (FP.l2d (own_nl a b))), .second, .val (.double (FP.l2d (own_dl a b))), .second, .val (.double (FP.dmul (own_r a b) (FP.l2d (own_dl a b)))), .second, .val (.double (FP.dsub (FP.dmul (own_r a b) (FP.l2d (own_dl a b))) (FP.l2d (own_nl a b)))), .second, .val (.double (FP.ddiv (FP.l2d (own_nl a b)) (4787326403894837248 : UInt64))), .second, .val (.int (1 : Int32)), .val (.int (1 : Int32)), .val (.int (1 : Int32)), .val (.int (1 : Int32))] [(.int (1 : Int32))])) _
        refine XS.ifNo X105.here hx rfl (hb hby at_171) rfl ((if0 _ _).trans (feq ((by decide) : ¬ ((1 : Int32) = (0 : Int32)))).1) ?_
        show Steps p.tables e below (T105.setTop (mkF m 174 #[.val (.int p1), .val (.int p2), .val (.int a), .val (.int b), .val (.double (FP.i2d a)), .second, .val (.double (FP.i2d b)), .second, .val (.ref b101), .val (.double (own_r a b)), .second, .val (.long (own_nl a b)), .second, .val (.long (own_dl a b)), .second, .val (.double (FP.l2d (own_nl a b))), .second, .val (.double (FP.l2d (own_dl a b))), .second, .val (.double (FP.dmul (own_r a b) (FP.l2d (own_dl a b)))), .second, .val (.double (FP.dsub (FP.dmul (own_r a b) (FP.l2d (own_dl a b))) (FP.l2d (own_nl a b)))), .second, .val (.double (FP.ddiv (FP.l2d (own_nl a b)) (4787326403894837248 : UInt64))), .second, .val (.int (1 : Int32)), .val (.int (1 : Int32)), .val (.int (1 : Int32)), .val (.int (1 : Int32))] [])) _
        refine XS.iload X105.here hx rfl (hb hby at_174) rfl ?_
        show Steps p.tables e below (T105.setTop (mkF m 176 #[.val (.int p1), .val (.int p2), .val (.int a), .val (.int b), .val (.double (FP.i2d a)), .second, .val (.double (FP.i2d b)), .second, .val (.ref b101), .val (.double (own_r a b)), .second, .val (.long (own_nl a b)), .second, .val (.long (own_dl a b)), .second, .val (.double (FP.l2d (own_nl a b))), .second, .val (.double (FP.l2d (own_dl a b))), .second, .val (.double (FP.dmul (own_r a b) (FP.l2d (own_dl a b)))), .second, .val (.double (FP.dsub (FP.dmul (own_r a b) (FP.l2d (own_dl a b))) (FP.l2d (own_nl a b)))), .second, .val (.double (FP.ddiv (FP.l2d (own_nl a b)) (4787326403894837248 : UInt64))), .second, .val (.int (1 : Int32)), .val (.int (1 : Int32)), .val (.int (1 : Int32)), .val (.int (1 : Int32))] [(.int (1 : Int32))])) _
        refine XS.ifNo X105.here hx rfl (hb hby at_176) rfl ((if0 _ _).trans (feq ((by decide) : ¬ ((1 : Int32) = (0 : Int32)))).1) ?_
        show Steps p.tables e below (T105.setTop (mkF m 179 #[.val (.int p1), .val (.int p2), .val (.int a), .val (.int b), .val (.double (FP.i2d a)), .second, .val (.double (FP.i2d b)), .second, .val (.ref b101), .val (.double (own_r a b)), .second, .val (.long (own_nl a b)), .second, .val (.long (own_dl a b)), .second, .val (.double (FP.l2d (own_nl a b))), .second, .val (.double (FP.l2d (own_dl a b))), .second, .val (.double (FP.dmul (own_r a b) (FP.l2d (own_dl a b)))), .second, .val (.double (FP.dsub (FP.dmul (own_r a b) (FP.l2d (own_dl a b))) (FP.l2d (own_nl a b)))), .second, .val (.double (FP.ddiv (FP.l2d (own_nl a b)) (4787326403894837248 : UInt64))), .second, .val (.int (1 : Int32)), .val (.int (1 : Int32)), .val (.int (1 : Int32)), .val (.int (1 : Int32))] [])) _
        refine XS.iload X105.here hx rfl (hb hby at_179) rfl ?_
        show Steps p.tables e below (T105.setTop (mkF m 181 #[.val (.int p1), .val (.int p2), .val (.int a), .val (.int b), .val (.double (FP.i2d a)), .second, .val (.double (FP.i2d b)), .second, .val (.ref b101), .val (.double (own_r a b)), .second, .val (.long (own_nl a b)), .second, .val (.long (own_dl a b)), .second, .val (.double (FP.l2d (own_nl a b))), .second, .val (.double (FP.l2d (own_dl a b))), .second, .val (.double (FP.dmul (own_r a b) (FP.l2d (own_dl a b)))), .second, .val (.double (FP.dsub (FP.dmul (own_r a b) (FP.l2d (own_dl a b))) (FP.l2d (own_nl a b)))), .second, .val (.double (FP.ddiv (FP.l2d (own_nl a b)) (4787326403894837248 : UInt64))), .second, .val (.int (1 : Int32)), .val (.int (1 : Int32)), .val (.int (1 : Int32)), .val (.int (1 : Int32))] [(.int (1 : Int32))])) _
        refine XS.ifNo X105.here hx rfl (hb hby at_181) rfl ((if0 _ _).trans (feq ((by decide) : ¬ ((1 : Int32) = (0 : Int32)))).1) ?_
        show Steps p.tables e below (T105.setTop (mkF m 184 #[.val (.int p1), .val (.int p2), .val (.int a), .val (.int b), .val (.double (FP.i2d a)), .second, .val (.double (FP.i2d b)), .second, .val (.ref b101), .val (.double (own_r a b)), .second, .val (.long (own_nl a b)), .second, .val (.long (own_dl a b)), .second, .val (.double (FP.l2d (own_nl a b))), .second, .val (.double (FP.l2d (own_dl a b))), .second, .val (.double (FP.dmul (own_r a b) (FP.l2d (own_dl a b)))), .second, .val (.double (FP.dsub (FP.dmul (own_r a b) (FP.l2d (own_dl a b))) (FP.l2d (own_nl a b)))), .second, .val (.double (FP.ddiv (FP.l2d (own_nl a b)) (4787326403894837248 : UInt64))), .second, .val (.int (1 : Int32)), .val (.int (1 : Int32)), .val (.int (1 : Int32)), .val (.int (1 : Int32))] [])) _
        refine XS.iload X105.here hx rfl (hb hby at_184) rfl ?_
        show Steps p.tables e below (T105.setTop (mkF m 186 #[.val (.int p1), .val (.int p2), .val (.int a), .val (.int b), .val (.double (FP.i2d a)), .second, .val (.double (FP.i2d b)), .second, .val (.ref b101), .val (.double (own_r a b)), .second, .val (.long (own_nl a b)), .second, .val (.long (own_dl a b)), .second, .val (.double (FP.l2d (own_nl a b))), .second, .val (.double (FP.l2d (own_dl a b))), .second, .val (.double (FP.dmul (own_r a b) (FP.l2d (own_dl a b)))), .second, .val (.double (FP.dsub (FP.dmul (own_r a b) (FP.l2d (own_dl a b))) (FP.l2d (own_nl a b)))), .second, .val (.double (FP.ddiv (FP.l2d (own_nl a b)) (4787326403894837248 : UInt64))), .second, .val (.int (1 : Int32)), .val (.int (1 : Int32)), .val (.int (1 : Int32)), .val (.int (1 : Int32))] [(.int (1 : Int32))])) _
        refine XS.ifNo X105.here hx rfl (hb hby at_186) rfl ((if0 _ _).trans (feq ((by decide) : ¬ ((1 : Int32) = (0 : Int32)))).1) ?_
        show Steps p.tables e below (T105.setTop (mkF m 189 #[.val (.int p1), .val (.int p2), .val (.int a), .val (.int b), .val (.double (FP.i2d a)), .second, .val (.double (FP.i2d b)), .second, .val (.ref b101), .val (.double (own_r a b)), .second, .val (.long (own_nl a b)), .second, .val (.long (own_dl a b)), .second, .val (.double (FP.l2d (own_nl a b))), .second, .val (.double (FP.l2d (own_dl a b))), .second, .val (.double (FP.dmul (own_r a b) (FP.l2d (own_dl a b)))), .second, .val (.double (FP.dsub (FP.dmul (own_r a b) (FP.l2d (own_dl a b))) (FP.l2d (own_nl a b)))), .second, .val (.double (FP.ddiv (FP.l2d (own_nl a b)) (4787326403894837248 : UInt64))), .second, .val (.int (1 : Int32)), .val (.int (1 : Int32)), .val (.int (1 : Int32)), .val (.int (1 : Int32))] [])) _
        refine XS.iconst X105.here hx rfl (hb hby at_189) ?_
        show Steps p.tables e below (T105.setTop (mkF m 190 #[.val (.int p1), .val (.int p2), .val (.int a), .val (.int b), .val (.double (FP.i2d a)), .second, .val (.double (FP.i2d b)), .second, .val (.ref b101), .val (.double (own_r a b)), .second, .val (.long (own_nl a b)), .second, .val (.long (own_dl a b)), .second, .val (.double (FP.l2d (own_nl a b))), .second, .val (.double (FP.l2d (own_dl a b))), .second, .val (.double (FP.dmul (own_r a b) (FP.l2d (own_dl a b)))), .second, .val (.double (FP.dsub (FP.dmul (own_r a b) (FP.l2d (own_dl a b))) (FP.l2d (own_nl a b)))), .second, .val (.double (FP.ddiv (FP.l2d (own_nl a b)) (4787326403894837248 : UInt64))), .second, .val (.int (1 : Int32)), .val (.int (1 : Int32)), .val (.int (1 : Int32)), .val (.int (1 : Int32))] [(.int (1 : Int32))])) _
        refine XS.goto X105.here hx rfl (pc0 := 190) (pc' := 194) rfl (hb hby at_190) (by decide) (by decide) ?_
        exact kt)
    obtain ⟨fs, hr, hrun, hended, hW, hsame⟩ := X105.leave (v := some (.int (1 : Int32))) (fun h => by rw [Bd.returns] at h; cases h)
    refine ⟨_, _, pre108 _ ?_, hrun, hended, _, _, rfl, ?_, ⟨_, rfl⟩, hW, hsame.mono (by decide) (by decide)⟩
    · show Steps p.tables e below (T105.setTop (mkF m 194 #[.val (.int p1), .val (.int p2), .val (.int a), .val (.int b), .val (.double (FP.i2d a)), .second, .val (.double (FP.i2d b)), .second, .val (.ref b101), .val (.double (own_r a b)), .second, .val (.long (own_nl a b)), .second, .val (.long (own_dl a b)), .second, .val (.double (FP.l2d (own_nl a b))), .second, .val (.double (FP.l2d (own_dl a b))), .second, .val (.double (FP.dmul (own_r a b) (FP.l2d (own_dl a b)))), .second, .val (.double (FP.dsub (FP.dmul (own_r a b) (FP.l2d (own_dl a b))) (FP.l2d (own_nl a b)))), .second, .val (.double (FP.ddiv (FP.l2d (own_nl a b)) (4787326403894837248 : UInt64))), .second, .val (.int (1 : Int32)), .val (.int (1 : Int32)), .val (.int (1 : Int32)), .val (.int (1 : Int32))] [(.int (1 : Int32))])) _
      exact retN X105 hx (t := .boolean) Bd.returns (by simp) (hb hby at_194) hr
    · show Q0 Z p1 p2 h0 n0 _ T105.heap _
      rw [e105]
      exact ⟨rfl, N105⟩
set_option maxRecDepth 65536 in
set_option maxHeartbeats 40000000 in
theorem comes_1 {Post : Tables → Env → Array Value → State → Outcome → State → Prop} (hpost : ∀ tb e args s v u, (limb_1_1.after args s (.returned v) u = true ∧ limb_1_2.after args s (.returned v) u = true ∧ True) → FrameEnd s (.returned v) u (Jvm.fieldLocs frame_1_writes args s ++ Jvm.arrayLocs frame_1_arrays args s ++ Jvm.staticLocs frame_1_statics s) 16 128 → Post tb e args s (.returned v) u) :
    ArmFor flags0 classFile x code maxLocals ret World_1 tables_1 room_1 Calls_1 rest_1 Pre_1 Post := by
  intro l hfl _ _ p e ha hc hk s m args below hf hA hF happ hP
  obtain ⟨hcalls, hrest, hpre⟩ := hP
  obtain ⟨-, -, -, hnamed, -, -, -, hat⟩ := (Spec.applies_iff hf).mp happ
  obtain ⟨hg, hn⟩ := and_e (Cond.before_iff.mp (show (Jvm.Cond.and given_1 narrow_1).before args s = true from hpre))
  obtain ⟨g1, g2⟩ := and_e hg
  obtain ⟨g3, g4⟩ := and_e g2
  obtain ⟨w0, w1, rfl⟩ : ∃ w0 w1 : Value, args = #[w0, w1] := by
    have hs : args.size = 2 := by simpa [Cond.value, given_1] using g1
    obtain ⟨L⟩ := args
    match L, hs with
    | [w0, w1], _ => exact ⟨w0, w1, rfl⟩
  have hw := fun d (hd : d ∈ tables_1) => atoms_spec (ws := Jvm.Cond.code x code maxLocals ret :: tables_1) hat d (List.mem_cons_of_mem _ hd)
  have hfit : Fit s := fun {y c} hc i hi => by
    obtain ⟨ha, rfl⟩ := Array.getElem?_eq_some_iff.mp hc
    have q := List.all_eq_true.mp ((Array.all_eq_true_iff_forall_mem.mp hF) _ (Array.getElem_mem ha)) i (List.mem_range.mpr hi)
    simpa [Array.getElem?_eq_getElem hi] using q
  obtain ⟨i0, ei0⟩ := is_v g3
  obtain rfl : w0 = (.int i0) := Option.some.inj ei0
  obtain ⟨i1, ei1⟩ := is_v g4
  obtain rfl : w1 = (.int i1) := Option.some.inj ei1
  obtain ⟨n, o, h1, h2, h3, _, L, rfl, ⟨rfl, N⟩, hq⟩ := rm0 l s _ hw tables_1 i0 i1 s.heap s.heap.size (Nat.le_refl _)  p e ha hc hk s m _ below hf ((Spec.applies_iff_loose hf).mp happ).1 ⟨rfl, State.Warmed39.refl s, rfl⟩ trivial
  refine ⟨n, _, h1, h2, h3, hpost _ _ _ _ _ _ ⟨Cond.after_iff.mpr rfl, Cond.after_iff.mpr (eq_i res_at (Term.int_eval (1)) rfl), trivial⟩ ⟨hq.1, hq.2.1, (hq.2.2.sift fun y hy => Or.inr (N y hy)).mono (by decide) (by decide)⟩⟩
theorem main_1_1 : Claimed_1_1 := comes_1 fun _ _ _ _ _ _ h hF => ⟨h.1, hF⟩
theorem main_1_2 : Claimed_1_2 := comes_1 fun _ _ _ _ _ _ h hF => ⟨h.2.1, hF⟩
end Jvm.Pilot.@@N@@
namespace Jvm.Pilot.@@N@@
open Jvm Jvm.ClassFile Sem Op Lib Jvm.Free Jvm.Stand Jvm.Pilot.@@N@@.Jvm.D
/-! MADE BY PROGRAM (witnessworld.py) out of the Statement's table words and the real class files: 9 classes; the members and pool entries that the words name. The judged class is class 1, her method 1. -/
namespace start1
open Jvm.ClassFile
def u (s : String) : CpInfo := .utf8 (stringToUtf16 s)
/-- a pool by its gaps: so many unusable entries, then the entry; so many at the end -/
def gap : Nat → List CpInfo → List CpInfo
  | 0, r => r
  | n + 1, r => .unusable :: gap n r
def poolList (es : List (Nat × CpInfo)) (last : Nat) : List CpInfo := es.foldr (fun e r => gap e.1 (e.2 :: r)) (gap last [])
def pool (es : List (Nat × CpInfo)) (last : Nat) : Array CpInfo := ⟨poolList es last⟩
def fileOf (pool : Array CpInfo) (this : Nat) (attrs : Array Attribute := #[]) (ms : Array MethodInfo := #[]) (fl : Nat := 33) (sup : Nat := 0) (ifs : Array Nat := #[]) (fds : Array FieldInfo := #[]) : ClassFile where
  minorVersion := 0
  majorVersion := 65
  constantPool := pool
  accessFlags := fl
  thisClass := this
  superClass := sup
  interfaces := ifs
  fields := fds
  methods := ms
  attributes := attrs
def plain (name : String) (sup : Option ClassId) : Class where
  name := name
  kind := .ordinary
  loader := none
  accessFlags := 33
  super := sup
  interfaces := #[]
  cf := none
  fields := #[]
  methods := #[]
  instanceTypes := #[]
  staticTypes := #[]
  resolved := #[]
  callSites := []
  init := .initialized
  statics := none
  mirror := none

def pool0 : Array CpInfo := pool [(5, u "<init>"), (0, u "()V"), (1, .class_ 10), (1, u "java/lang/Object")] 113

def k0c0 : Code := { maxStack := 0, maxLocals := 1, code := object_method_1_code, exceptionTable := #[], attributes := #[] }
def k0m0 : Method := { name := "<init>", desc := "()V", sig := { parameters := [], returnType := none }, accessFlags := 1, code := some k0c0 }
/-- java/lang/Object -/
def k0 : Class := { plain "java/lang/Object" none with
  accessFlags := 33
  interfaces := #[]
  cf := some (fileOf pool0 8 #[] #[{ accessFlags := 1, nameIndex := 5, descriptorIndex := 6, attributes := #[] }] 33 0 #[] #[])
  fields := #[]
  methods := #[k0m0]
  instanceTypes := #[]
  staticTypes := #[]
  resolved := Array.replicate 124 none
  statics := none }

def pool1 : Array CpInfo := pool [(2, .class_ 4), (1, u "java/lang/Object"), (0, u "<init>"), (0, u "()V"), (0, .integer 1048575), (0, .class_ 9), (0, u "com/example/libfolk/libfolk/ranking/Qtf"), (0, .methodref 8 11), (0, .nameAndType 5 12), (0, u "(D)V"), (0, .methodref 8 14), (0, .nameAndType 15 16), (0, u "of"), (0, u "(D)D"), (0, .double 4787326403894837248), (1, .class_ 20), (0, u "com/example/libfolk/libfolk/ranking/QtfOfPinLaw"), (2, u "law"), (0, u "(II)Z")] 3

def k1m0 : Method := { name := "<init>", desc := "()V", sig := { parameters := [], returnType := none }, accessFlags := 1, code := none }
def k1c1 : Code := { maxStack := 6, maxLocals := 29, code := code, exceptionTable := #[], attributes := #[] }
def k1m1 : Method := { name := "law", desc := "(II)Z", sig := { parameters := [.int, .int], returnType := some .boolean }, accessFlags := 9, code := some k1c1 }
/-- com/example/libfolk/libfolk/ranking/QtfOfPinLaw -/
def k1 : Class := { plain "com/example/libfolk/libfolk/ranking/QtfOfPinLaw" (some 0) with
  accessFlags := 49
  interfaces := #[]
  cf := some (fileOf pool1 19 #[] #[{ accessFlags := 1, nameIndex := 5, descriptorIndex := 6, attributes := #[] }, { accessFlags := 9, nameIndex := 23, descriptorIndex := 24, attributes := #[] }] 49 2 #[] #[])
  fields := #[]
  methods := #[k1m0, k1m1]
  instanceTypes := #[]
  staticTypes := #[]
  resolved := Array.replicate 28 none
  statics := none }

def pool2 : Array CpInfo := pool [(1, .methodref 2 3), (0, .class_ 4), (0, .nameAndType 5 6), (0, u "java/lang/Object"), (0, u "<init>"), (0, u "()V"), (2, .double 9218868437227405312), (10, .fieldref 21 22), (0, .class_ 23), (0, .nameAndType 24 25), (0, u "com/example/libfolk/libfolk/ranking/Qtf"), (0, u "k3"), (0, u "D"), (1, u "(D)V"), (5, u "of"), (0, u "(D)D")] 19

def k2c0 : Code := { maxStack := 4, maxLocals := 3, code := prog_54_method_1_code, exceptionTable := #[], attributes := #[] }
def k2m0 : Method := { name := "<init>", desc := "(D)V", sig := { parameters := [.double], returnType := none }, accessFlags := 1, code := some k2c0 }
def k2c1 : Code := { maxStack := 6, maxLocals := 3, code := prog_54_method_3_code, exceptionTable := #[], attributes := #[] }
def k2m1 : Method := { name := "of", desc := "(D)D", sig := { parameters := [.double], returnType := some .double }, accessFlags := 1, code := some k2c1 }
/-- com/example/libfolk/libfolk/ranking/Qtf -/
def k2 : Class := { plain "com/example/libfolk/libfolk/ranking/Qtf" (some 0) with
  accessFlags := 49
  interfaces := #[]
  cf := some (fileOf pool2 21 #[] #[{ accessFlags := 1, nameIndex := 5, descriptorIndex := 27, attributes := #[] }, { accessFlags := 1, nameIndex := 33, descriptorIndex := 34, attributes := #[] }] 49 2 #[] #[{ accessFlags := 18, nameIndex := 24, descriptorIndex := 25, attributes := #[] }])
  fields := #[{ name := "k3", type := .double, accessFlags := 18, slot := 0, constantValue := 0 }]
  methods := #[k2m0, k2m1]
  instanceTypes := #[.double]
  staticTypes := #[]
  resolved := Array.replicate 54 none
  statics := none }

def pool3 : Array CpInfo := pool [(1, u "java/lang/Cloneable"), (0, .class_ 1), (0, u "java/lang/Object"), (0, .class_ 3)] 3

/-- java/lang/Cloneable -/
def k3 : Class := { plain "java/lang/Cloneable" (some 0) with
  accessFlags := 1537
  interfaces := #[]
  cf := some (fileOf pool3 2 #[] #[] 1537 4 #[] #[])
  fields := #[]
  methods := #[]
  instanceTypes := #[]
  staticTypes := #[]
  resolved := Array.replicate 8 none
  statics := none }

def pool4 : Array CpInfo := pool [(1, u "java/io/Serializable"), (0, .class_ 1), (0, u "java/lang/Object"), (0, .class_ 3)] 3

/-- java/io/Serializable -/
def k4 : Class := { plain "java/io/Serializable" (some 0) with
  accessFlags := 1537
  interfaces := #[]
  cf := some (fileOf pool4 2 #[] #[] 1537 4 #[] #[])
  fields := #[]
  methods := #[]
  instanceTypes := #[]
  staticTypes := #[]
  resolved := Array.replicate 8 none
  statics := none }

/-- the primitive byte -/
def k5 : Class := { plain "byte" none with kind := .primitive 'B', accessFlags := 0x411 }
/-- [B -/
def k6 : Class := { plain "[B" (some 0) with kind := .array 5 .byte, interfaces := #[3, 4], accessFlags := 1041 }

/-- the primitive int -/
def k7 : Class := { plain "int" none with kind := .primitive 'I', accessFlags := 0x411 }
/-- [I -/
def k8 : Class := { plain "[I" (some 0) with kind := .array 7 .int, interfaces := #[3, 4], accessFlags := 1041 }

def heap : Heap := #[]
def classes : Array Class := #[k0, k1, k2, k3, k4, k5, k6, k7, k8]
def interned : List (Array UInt16 × Addr) := []
def slotsUsed : Nat := 0
def theMethod : MethodId := ⟨1, 1⟩
def args0 : Array Value := #[.int 5, .int 6]
def aboutOver (below : List Frame) : State where
  vm := { classes := classes, interned := interned.toArray }
  heap := heap
  slotsUsed := slotsUsed
  threads := #[{ frames := .invoking theMethod args0 :: below }]
def below0 : List Frame := [.native { method := ⟨0, 0⟩, args := #[] }]
def about1 : State := aboutOver below0
def p0 : Program := .bare "" "" ""
def e0 : Env := launch0.env 0 0 0
theorem w_frames : about1.frames = Frame.invoking theMethod args0 :: below0 := rfl
set_option maxRecDepth 65536 in
theorem w_args : argsFit about1.vm theMethod args0 = true := by decide +kernel
set_option maxRecDepth 65536 in
theorem w_heap : heapFits about1 = true := by decide +kernel
set_option maxRecDepth 65536 in
theorem w_runnable : about1.curStatus? = some .runnable := by decide +kernel
set_option maxRecDepth 65536 in
theorem w_alone : about1.alone = true := by decide +kernel
set_option maxRecDepth 65536 in
theorem w_named : about1.methodNamed? x = some theMethod := by decide +kernel
set_option maxRecDepth 65536 in
theorem w_hears : about1.hears theMethod below0 = true := by decide +kernel
set_option maxRecDepth 65536 in
theorem w_ripe : about1.ripe theMethod args0 below0 = true := by decide +kernel
theorem w_running : about1.status = .running := rfl
set_option maxRecDepth 65536 in
theorem w_room : about1.hasRoom e0.platform room_1 = true :=
  launch0.hasRoom_least _ room_1 (by decide +kernel) (by decide +kernel) (by decide +kernel) (by decide +kernel) (by decide +kernel) (by decide +kernel)
theorem allAtoms_all (ts : List Jvm.Cond) (a : Array Jvm.Value) (st : Jvm.State) : (allAtoms ts).before a st = ts.all (fun c => c.before a st) := by
  induction ts with
  | nil => rfl
  | cons c t ih =>
    show (Jvm.Cond.and c (allAtoms t)).before a st = _
    rw [Jvm.Cond.before_and, ih, List.all_cons]
def words1 : List Jvm.Cond := Jvm.Cond.code x code maxLocals ret :: tables_1
/-- a 'code' word, met by the world's own term for the bytes: nothing is compared byte by byte -/
theorem code_word {y : MethodName} {bytes : ByteArray} {mx : Nat} {rt : Option FieldType} {a : Array Value} {s : State} {m : MethodId} {meth : Method} {c : Code} (h1 : s.methodNamed? y = some m) (h2 : s.vm.method? m = some meth) (h3 : meth.code = some c) (h4 : c.code = bytes)
    (h5 : (c.maxLocals == mx && c.exceptionTable.isEmpty && decide (c.maxStack ≤ mostOperands) && decide (meth.sig.returnType = rt) && !meth.locks && decide (parseMethodDescriptor y.desc = some meth.sig)) = true) : (Jvm.Cond.code y bytes mx rt).before a s = true := by
  simp only [Bool.and_eq_true, beq_iff_eq, Bool.not_eq_true', decide_eq_true_eq] at h5
  obtain ⟨⟨⟨⟨⟨g1, g2⟩, g3⟩, g4⟩, g5⟩, g6⟩ := h5
  simp [Cond.before, Cond.holds, Cond.value, h1, h2, h3, h4, g1, g2, g3, g4, g5, g6]
def isCode : Jvm.Cond → Bool
  | .code _ _ _ _ => true
  | _ => false
theorem all_split {L : List Jvm.Cond} {P : Jvm.Cond → Bool} (h1 : L.all (fun c => isCode c || P c) = true) (h2 : ∀ c ∈ L.filter isCode, P c = true) : L.all P = true := by
  refine List.all_eq_true.mpr fun c hc => ?_
  have h := List.all_eq_true.mp h1 c hc
  rcases Bool.eq_false_or_eq_true (isCode c) with hi | hi
  · exact h2 c (List.mem_filter.mpr ⟨hc, hi⟩)
  · simpa [hi] using h
set_option maxRecDepth 65536 in
theorem w_c0 : (Jvm.Cond.code x code maxLocals ret).before args0 about1 = true := code_word (m := ⟨1, 1⟩) (meth := k1m1) (c := k1c1) (by decide +kernel) rfl rfl rfl (by decide +kernel)
set_option maxRecDepth 65536 in
theorem w_c1 : (Jvm.Cond.code ({ cls := "com/example/libfolk/libfolk/ranking/Qtf", name := "<init>", desc := "(D)V" } : Jvm.MethodName) prog_54_method_1_code (3 : Nat) (Option.none : Option Jvm.ClassFile.FieldType)).before args0 about1 = true := code_word (m := ⟨2, 0⟩) (meth := k2m0) (c := k2c0) (by decide +kernel) rfl rfl rfl (by decide +kernel)
set_option maxRecDepth 65536 in
theorem w_c2 : (Jvm.Cond.code ({ cls := "java/lang/Object", name := "<init>", desc := "()V" } : Jvm.MethodName) object_method_1_code (1 : Nat) (Option.none : Option Jvm.ClassFile.FieldType)).before args0 about1 = true := code_word (m := ⟨0, 0⟩) (meth := k0m0) (c := k0c0) (by decide +kernel) rfl rfl rfl (by decide +kernel)
set_option maxRecDepth 65536 in
theorem w_c3 : (Jvm.Cond.code ({ cls := "com/example/libfolk/libfolk/ranking/Qtf", name := "of", desc := "(D)D" } : Jvm.MethodName) prog_54_method_3_code (3 : Nat) (Option.some Jvm.ClassFile.FieldType.double)).before args0 about1 = true := code_word (m := ⟨2, 1⟩) (meth := k2m1) (c := k2c1) (by decide +kernel) rfl rfl rfl (by decide +kernel)
def codes1 : List Jvm.Cond := [Jvm.Cond.code x code maxLocals ret, Jvm.Cond.code ({ cls := "com/example/libfolk/libfolk/ranking/Qtf", name := "<init>", desc := "(D)V" } : Jvm.MethodName) prog_54_method_1_code (3 : Nat) (Option.none : Option Jvm.ClassFile.FieldType), Jvm.Cond.code ({ cls := "java/lang/Object", name := "<init>", desc := "()V" } : Jvm.MethodName) object_method_1_code (1 : Nat) (Option.none : Option Jvm.ClassFile.FieldType), Jvm.Cond.code ({ cls := "com/example/libfolk/libfolk/ranking/Qtf", name := "of", desc := "(D)D" } : Jvm.MethodName) prog_54_method_3_code (3 : Nat) (Option.some Jvm.ClassFile.FieldType.double)]
set_option maxRecDepth 65536 in
theorem codes_eq : words1.filter isCode = codes1 := rfl
theorem w_codes : ∀ c ∈ words1.filter isCode, c.before args0 about1 = true := by
  rw [codes_eq]
  intro c hc
  simp only [codes1, List.mem_cons, List.not_mem_nil, or_false] at hc
  rcases hc with rfl | rfl | rfl | rfl
  · exact w_c0
  · exact w_c1
  · exact w_c2
  · exact w_c3
set_option maxRecDepth 65536 in
theorem w_t1 : words1.all (fun c => isCode c || c.before args0 about1) = true := by decide +kernel
theorem w_tables : (allAtoms (Jvm.Cond.code x code maxLocals ret :: tables_1)).before args0 about1 = true := by
  rw [allAtoms_all]
  show words1.all (fun c => c.before args0 about1) = true
  refine all_split ?_ w_codes
  rw [w_t1]
set_option maxRecDepth 65536 in
theorem w_case : (Jvm.Cond.and given_1 narrow_1).before args0 about1 = true := by decide +kernel
theorem w_applies : (headSpec (Jvm.Cond.code x code maxLocals ret :: tables_1) room_1).applies x e0.platform about1 = true :=
  (Spec.applies_iff w_frames).mpr ⟨w_running, w_runnable, w_alone, w_named, w_hears, w_ripe, w_room, w_tables⟩
theorem atStart : AtStart classFile x code maxLocals ret World_1 tables_1 room_1 Calls_1 rest_1 Pre_1 launch0 p0 e0 about1 theMethod args0 below0 :=
  ⟨lists_1, trivial, launch0.admits_env _ _ _, launch0.least_env, fairChoices_fair.cas, fairChoices_fair.clock, w_frames, w_args, w_heap, w_applies, trivial, trivial, w_case⟩
end start1
theorem witness_1 : WitnessClaimed_1 := ⟨start1.p0, start1.e0, start1.about1, start1.theMethod, start1.args0, start1.below0, start1.atStart⟩
end Jvm.Pilot.@@N@@
