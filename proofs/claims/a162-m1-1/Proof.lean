import JvmDerived
import JvmDerived.Pilot.@@N@@Statement
import JvmDerived.Pilot.@@N@@Code
set_option linter.unusedVariables false
set_option linter.unusedSimpArgs false
namespace Jvm.RoadKit
open Sem ClassFile Op Lib Jvm.Stand Jvm.Free Jvm.LawKit
section New
variable {p : Program} {l : Launch} {e : Env} {R : Room} {s : State} {m : MethodId} {args : Array Value} {below : List Frame} {meth : Method} {c : Code} {T : State} {locs : List Loc} {cells slots : Nat}
theorem retI (X : Stand p l e R s m args below meth c T locs cells slots) (hx : p.tables.exec = Jvm.exec) {pc : Nat} {Ls : Array Slot} {z : Int32} {rest : List Value} (hret : meth.sig.returnType = some .int) (hd : decode c.code pc = .ok (.ireturn, 1)) {fs : List Frame}
    (hl : ∀ (f : JFrame) (acts : List Action), f.method = m → f.locked = none → f.entered = [] → (doReturn e (T.setTop f) acts (some (.int z))).1 = T.setFrames fs) : Steps p.tables e below (T.setTop (mkF m pc Ls (.int z :: rest))) (T.setFrames fs) := by
  have hm' : T.vm.method? m = some meth := X.method'
  have hn : narrow .int (.int z) = .int z := rfl
  show Steps p.tables e below (T.setTop { method := m, pc := pc, locals := Ls, stack := _ :: rest, locked := none }) _
  jvm_step X.here [X.here.top, hx, hd, hm', hret, hn]
  first | (intro acts; rw [hl _ acts rfl rfl rfl]) | rw [hl _ _ rfl rfl rfl]
  exact Steps.refl _
theorem own_retJ (X : Stand p l e R s m args below meth c T locs cells slots) (hx : p.tables.exec = Jvm.exec) {pc : Nat} {Ls : Array Slot} {z : Int64} {rest : List Value} (hret : meth.sig.returnType = some .long) (hd : decode c.code pc = .ok (.lreturn, 1)) {fs : List Frame}
    (hl : ∀ (f : JFrame) (acts : List Action), f.method = m → f.locked = none → f.entered = [] → (doReturn e (T.setTop f) acts (some (.long z))).1 = T.setFrames fs) : Steps p.tables e below (T.setTop (mkF m pc Ls (.long z :: rest))) (T.setFrames fs) := by
  have hm' : T.vm.method? m = some meth := X.method'
  show Steps p.tables e below (T.setTop { method := m, pc := pc, locals := Ls, stack := _ :: rest, locked := none }) _
  jvm_step X.here [X.here.top, hx, hd, hm', hret, narrow]
  first | (intro acts; rw [hl _ acts rfl rfl rfl]) | rw [hl _ _ rfl rfl rfl]
  exact Steps.refl _
theorem own_retD (X : Stand p l e R s m args below meth c T locs cells slots) (hx : p.tables.exec = Jvm.exec) {pc : Nat} {Ls : Array Slot} {z : UInt64} {rest : List Value} (hret : meth.sig.returnType = some .double) (hd : decode c.code pc = .ok (.dreturn, 1)) {fs : List Frame}
    (hl : ∀ (f : JFrame) (acts : List Action), f.method = m → f.locked = none → f.entered = [] → (doReturn e (T.setTop f) acts (some (.double z))).1 = T.setFrames fs) : Steps p.tables e below (T.setTop (mkF m pc Ls (.double z :: rest))) (T.setFrames fs) := by
  have hm' : T.vm.method? m = some meth := X.method'
  show Steps p.tables e below (T.setTop { method := m, pc := pc, locals := Ls, stack := _ :: rest, locked := none }) _
  jvm_step X.here [X.here.top, hx, hd, hm', hret, narrow]
  first | (intro acts; rw [hl _ acts rfl rfl rfl]) | rw [hl _ _ rfl rfl rfl]
  exact Steps.refl _
theorem own_retR (X : Stand p l e R s m args below meth c T locs cells slots) (hx : p.tables.exec = Jvm.exec) {pc : Nat} {Ls : Array Slot} {z : Addr} {rest : List Value} {ty : FieldType} (hret : meth.sig.returnType = some ty) (hty : ty.isReference = true) (hd : decode c.code pc = .ok (.areturn, 1)) {fs : List Frame}
    (hl : ∀ (f : JFrame) (acts : List Action), f.method = m → f.locked = none → f.entered = [] → (doReturn e (T.setTop f) acts (some (.ref z))).1 = T.setFrames fs) : Steps p.tables e below (T.setTop (mkF m pc Ls (.ref z :: rest))) (T.setFrames fs) := by
  have hm' : T.vm.method? m = some meth := X.method'
  show Steps p.tables e below (T.setTop { method := m, pc := pc, locals := Ls, stack := _ :: rest, locked := none }) _
  jvm_step X.here [X.here.top, hx, hd, hm', hret, hty, Value.isRef]
  first | (intro acts; rw [hl _ acts rfl rfl rfl]) | rw [hl _ _ rfl rfl rfl]
  exact Steps.refl _
theorem own_nm0 {a : Addr} : a ∉ ([] : List Addr) := List.not_mem_nil
theorem own_nmc {a w : Addr} {ws : List Addr} (h : a ≠ w) (r : a ∉ ws) : a ∉ w :: ws := fun q => (List.mem_cons.mp q).elim h r
theorem own_wm0 {P : Addr → Prop} : ∀ x ∈ ([] : List Addr), P x := fun _ q => nomatch q
theorem own_wmc {P : Addr → Prop} {w : Addr} {ws : List Addr} (h : P w) (r : ∀ x ∈ ws, P x) : ∀ x ∈ w :: ws, P x := fun x q => (List.mem_cons.mp q).elim (fun z => z ▸ h) (r x)
end New
end Jvm.RoadKit
namespace Jvm.OwnFP
open Jvm.FP Jvm.Free.Fl Sem ClassFile Op
/-- the double's value in units of 2 ^ -1074 -/
def zv (x : UInt64) : Int := Core.zval Core.b64 (Core.val64 x)
def zm (x : UInt64) : Nat := Core.zmag Core.b64 (Core.val64 x)
theorem nn {x : UInt64} (h : NoNaN64 x) : Core.val64 x ≠ .nan := (Core.notNaN_iff x).mp (noNaN64_no.mp h)
theorem nnF {x : UInt64} (h : Fin64 x) : NoNaN64 x := h.noNaN
theorem cv {x y : UInt64} (hx : NoNaN64 x) (hy : NoNaN64 y) (o : CmpOp) : cmpValue (FP.dcmp x y) o = if zv x < zv y then -1 else if zv x = zv y then 0 else 1 := by
  have h : FP.dcmp x y = some (compare (zv x) (zv y)) := Core.dcmp_zval (nn hx) (nn hy)
  rw [h, Core.compare_ite]
  by_cases h1 : zv x < zv y
  · rw [if_pos h1, if_pos h1]; cases o <;> rfl
  · rw [if_neg h1, if_neg h1]
    by_cases h2 : zv x = zv y
    · rw [if_pos h2, if_pos h2]; cases o <;> rfl
    · rw [if_neg h2, if_neg h2]; cases o <;> rfl
theorem cv_lt {x y : UInt64} (hx : NoNaN64 x) (hy : NoNaN64 y) (h : zv x < zv y) (o : CmpOp) : cmpValue (FP.dcmp x y) o = -1 := by rw [cv hx hy, if_pos h]
theorem cv_eq {x y : UInt64} (hx : NoNaN64 x) (hy : NoNaN64 y) (h : zv x = zv y) (o : CmpOp) : cmpValue (FP.dcmp x y) o = 0 := by rw [cv hx hy, if_neg (by omega), if_pos h]
theorem cv_gt {x y : UInt64} (hx : NoNaN64 x) (hy : NoNaN64 y) (h : zv y < zv x) (o : CmpOp) : cmpValue (FP.dcmp x y) o = 1 := by rw [cv hx hy, if_neg (by omega), if_neg (by omega)]
theorem cv_ge {x y : UInt64} (hx : NoNaN64 x) (hy : NoNaN64 y) (h : zv y ≤ zv x) (o : CmpOp) : ¬ cmpValue (FP.dcmp x y) o < 0 := by
  rw [cv hx hy, if_neg (by omega)]; split <;> decide
theorem cv_le {x y : UInt64} (hx : NoNaN64 x) (hy : NoNaN64 y) (h : zv x ≤ zv y) (o : CmpOp) : ¬ 0 < cmpValue (FP.dcmp x y) o := by
  rw [cv hx hy]; split
  · decide
  · rw [if_pos (by omega)]; decide
theorem sh {x : UInt64} (h : Fin64 x) : ∃ s c q, Core.val64 x = .fin s c q := fin64_core.mp h
theorem zv_dint {i : Int} {x : UInt64} (h : Core.DInt i x) : zv x = i * (Core.one64 : Int) := Core.DInt_zval h
theorem zv_zero : zv 0 = 0 := Core.zval64_zero
theorem fin_zero : Fin64 0 := by unfold Fin64; decide
theorem fin_one : Fin64 4607182418800017408 := by unfold Fin64; decide
theorem one_pos : (0 : Int) < (Core.one64 : Int) := by have := Core.one64_pos; omega
theorem zv_sgn (x : UInt64) : zv x = Core.signed (Core.sgn (Core.val64 x)) (zm x) := rfl
theorem zm_abs (x : UInt64) : (zv x).natAbs = zm x := by rw [zv_sgn, Core.natAbs_signed]
theorem add_le {x y v : UInt64} (hx : Fin64 x) (hy : Fin64 y) (hv : NoNaN64 v) (h : zv x + zv y ≤ zv v) : zv (FP.dadd x y) ≤ zv v := by
  show Core.zval Core.b64 (Core.val64 (Core.dadd x y)) ≤ _
  rw [Core.val64_dadd]
  exact Core.sum_le Core.good_b64 (sh hx) (sh hy) (Core.val64_fits x) (Core.val64_fits y) (Core.val64_fits v) (nn hv) h
theorem add_ge {x y v : UInt64} (hx : Fin64 x) (hy : Fin64 y) (hv : NoNaN64 v) (h : zv v ≤ zv x + zv y) : zv v ≤ zv (FP.dadd x y) := by
  show _ ≤ Core.zval Core.b64 (Core.val64 (Core.dadd x y))
  rw [Core.val64_dadd]
  exact Core.sum_ge Core.good_b64 (sh hx) (sh hy) (Core.val64_fits x) (Core.val64_fits y) (Core.val64_fits v) (nn hv) h
theorem shn {x : UInt64} (h : Fin64 x) : ∃ s c q, Core.negate (Core.val64 x) = .fin s c q := by
  obtain ⟨s, c, q, e⟩ := sh h; exact ⟨!s, c, q, by rw [e]; rfl⟩
theorem sub_le {x y v : UInt64} (hx : Fin64 x) (hy : Fin64 y) (hv : NoNaN64 v) (h : zv x - zv y ≤ zv v) : zv (FP.dsub x y) ≤ zv v := by
  show Core.zval Core.b64 (Core.val64 (Core.dsub x y)) ≤ _
  rw [Core.val64_dsub]
  exact Core.sum_le Core.good_b64 (sh hx) (shn hy) (Core.val64_fits x) (Core.negate_fits (Core.val64_fits y)) (Core.val64_fits v) (nn hv) (by rw [Core.zval_negate]; exact h)
theorem sub_ge {x y v : UInt64} (hx : Fin64 x) (hy : Fin64 y) (hv : NoNaN64 v) (h : zv v ≤ zv x - zv y) : zv v ≤ zv (FP.dsub x y) := by
  show _ ≤ Core.zval Core.b64 (Core.val64 (Core.dsub x y))
  rw [Core.val64_dsub]
  exact Core.sum_ge Core.good_b64 (sh hx) (shn hy) (Core.val64_fits x) (Core.negate_fits (Core.val64_fits y)) (Core.val64_fits v) (nn hv) (by rw [Core.zval_negate]; exact h)
/-- no NaN and no greater than something finite: finite -/
theorem fin_of {x v : UInt64} (hx : NoNaN64 x) (hv : Fin64 v) (h : zm x ≤ zm v) : Fin64 x := by
  refine fin64_core.mpr ?_
  have h1 : Core.zmag Core.b64 (Core.val64 v) < _ := (fin64_core.mp hv).zval_lt
  have h2 := nn hx
  unfold zm at h
  cases e : Core.val64 x with
  | nan => exact absurd e h2
  | inf s => rw [e] at h; exact absurd (Nat.lt_of_le_of_lt h h1) (Nat.lt_irrefl _)
  | fin s c q => exact ⟨s, c, q, e⟩
/-- 2 ^ -k in those units -/
def U (k : Nat) : Int := ((2 ^ (1074 - k) : Nat) : Int)
theorem U_pos (k : Nat) : 0 < U k := by unfold U; have := Nat.two_pow_pos (1074 - k); omega
theorem U_zero : U 0 = (Core.one64 : Int) := rfl
theorem U_add {k j : Nat} (h : k + j ≤ 1074) : U k = ((2 ^ j : Nat) : Int) * U (k + j) := by
  unfold U
  rw [← Int.natCast_mul, ← Nat.pow_add, show j + (1074 - (k + j)) = 1074 - k by omega]
/-- x is i / 2 ^ k, exactly -/
def Is (x : UInt64) (i : Int) (k : Nat) : Prop := Fin64 x ∧ zv x = i * U k
theorem signed_abs (i : Int) : Core.signed (decide (i < 0)) i.natAbs = i := by
  unfold Core.signed
  by_cases h : i < 0
  · simp [h]; omega
  · simp [h]; omega
theorem repr (i : Int) (k : Nat) (hk : k ≤ 1074) (hi : i.natAbs < 2 ^ 53) : ∃ v : UInt64, Is v i k := by
  obtain ⟨c', q', h1, h2⟩ := Core.round_exact Core.good_b64 (decide (i < 0)) (c := i.natAbs) (q := -(k : Int)) hi (by rw [Core.qmin_b64]; omega) (by show _ ≤ (971 : Int); omega)
  have hf : Core.fits Core.b64 (.fin (decide (i < 0)) c' q') := h1 ▸ Core.round_fits Core.good_b64 _
  have hv := Core.val64_of64 hf
  refine ⟨Core.of64 (.fin (decide (i < 0)) c' q'), fin64_core.mpr ⟨_, _, _, hv⟩, ?_⟩
  unfold zv Core.zval
  rw [hv]
  show Core.signed (decide (i < 0)) (Core.inUnits c' q' Core.b64.qmin) = _
  rw [h2]
  unfold Core.inUnits
  rw [Core.signed_mul, signed_abs, Core.qmin_b64]
  unfold U
  rw [show (-(k : Int) - -1074).toNat = 1074 - k by omega]
theorem is_dint {i : Int} {x : UInt64} (h : Core.DInt i x) (hf : Fin64 x) : Is x i 0 := ⟨hf, by rw [zv_dint h, U_zero]⟩
theorem is_i2d (v : Int32) : Is (FP.i2d v) v.toInt 0 := is_dint (Core.i2d_int v) (i2d_fin v)
theorem is_l2d {v : Int64} (h : v.toInt.natAbs ≤ 2 ^ 53) : Is (FP.l2d v) v.toInt 0 := is_dint (Core.l2d_int h) (l2d_fin v)
theorem is_zero (k : Nat) : Is 0 0 k := ⟨fin_zero, by rw [zv_zero, Int.zero_mul]⟩
theorem is_one : Is 4607182418800017408 1 0 := is_dint Core.dint_one fin_one
theorem Is.nn {x : UInt64} {i : Int} {k : Nat} (h : Is x i k) : NoNaN64 x := h.1.noNaN
theorem Is.up {x : UInt64} {i : Int} {k : Nat} (h : Is x i k) (j : Nat) (hj : k + j ≤ 1074) : Is x (i * ((2 ^ j : Nat) : Int)) (k + j) := ⟨h.1, by rw [h.2, U_add hj, Int.mul_assoc]⟩
theorem is_val {x v : UInt64} {i : Int} {k : Nat} (hn : NoNaN64 x) (hv : Is v i k) (h : zv x = zv v) : Is x i k := ⟨fin_of hn hv.1 (by rw [← zm_abs, ← zm_abs, h]; exact Nat.le_refl _), h.trans hv.2⟩
theorem Is.add {x y : UInt64} {i j : Int} {k : Nat} (hx : Is x i k) (hy : Is y j k) (hk : k ≤ 1074) (h : (i + j).natAbs < 2 ^ 53) : Is (FP.dadd x y) (i + j) k := by
  obtain ⟨v, hv⟩ := repr (i + j) k hk h
  have e : zv x + zv y = zv v := by rw [hx.2, hy.2, hv.2, Int.add_mul]
  exact is_val (dadd_out hx.nn hy.1) hv (Int.le_antisymm (add_le hx.1 hy.1 hv.nn (by omega)) (add_ge hx.1 hy.1 hv.nn (by omega)))
theorem Is.sub {x y : UInt64} {i j : Int} {k : Nat} (hx : Is x i k) (hy : Is y j k) (hk : k ≤ 1074) (h : (i - j).natAbs < 2 ^ 53) : Is (FP.dsub x y) (i - j) k := by
  obtain ⟨v, hv⟩ := repr (i - j) k hk h
  have e : zv x - zv y = zv v := by rw [hx.2, hy.2, hv.2, Int.sub_mul]
  exact is_val (dsub_out hx.nn hy.1) hv (Int.le_antisymm (sub_le hx.1 hy.1 hv.nn (by omega)) (sub_ge hx.1 hy.1 hv.nn (by omega)))
theorem Is.lt_iff {x y : UInt64} {i j : Int} {k : Nat} (hx : Is x i k) (hy : Is y j k) : zv x < zv y ↔ i < j := by
  rw [hx.2, hy.2]; exact Int.mul_lt_mul_right (U_pos k)
theorem Is.eq_iff {x y : UInt64} {i j : Int} {k : Nat} (hx : Is x i k) (hy : Is y j k) : zv x = zv y ↔ i = j := by
  rw [hx.2, hy.2]; exact ⟨fun h => Int.eq_of_mul_eq_mul_right (Int.ne_of_gt (U_pos k)) h, fun h => by rw [h]⟩
theorem Is.cmp {x y : UInt64} {i j : Int} {k : Nat} (hx : Is x i k) (hy : Is y j k) (o : CmpOp) : cmpValue (FP.dcmp x y) o = if i < j then -1 else if i = j then 0 else 1 := by
  rw [cv hx.nn hy.nn]
  simp only [hx.lt_iff hy, hx.eq_iff hy]
/-- a quotient: her magnitude lies on the same side of any double as the true one; her sign is the signs' product -/
theorem div_shape {x y : UInt64} (hx : Fin64 x) (hy : Fin64 y) (hz : zm y ≠ 0) : ∃ (s t : Bool) (c d : Nat) (q r : Int), Core.val64 x = .fin s c q ∧ Core.val64 y = .fin t d r ∧ 0 < d ∧ Core.val64 (FP.ddiv x y) = Core.roundRatio Core.b64 (s != t) c d (q - r) := by
  obtain ⟨s, c, q, e1⟩ := sh hx
  obtain ⟨t, d, r, e2⟩ := sh hy
  have hd : d ≠ 0 := fun h => hz (by unfold zm; rw [e2]; show Core.inUnits d r _ = 0; rw [h]; simp [Core.inUnits])
  refine ⟨s, t, c, d, q, r, e1, e2, by omega, ?_⟩
  have := Core.val64_ddiv x y
  rw [e1, e2] at this
  show Core.val64 (Core.ddiv x y) = _
  rw [this]
  simp [Core.quotient, hd]
theorem units2 (c : Nat) (q r : Int) (hq : -1074 ≤ q) (hr : -1074 ≤ r) : Core.inUnits c (q - r) (-1074 - (r + 1074)) = Core.inUnits c q (-1074) * Core.one64 := by
  unfold Core.inUnits Core.one64
  rw [Nat.mul_assoc, ← Nat.pow_add]
  congr 2
  omega
theorem div_le {x y v : UInt64} (hx : Fin64 x) (hy : Fin64 y) (hz : zm y ≠ 0) (hv : NoNaN64 v) (h : zm x * Core.one64 ≤ zm v * zm y) : zm (FP.ddiv x y) ≤ zm v := by
  obtain ⟨s, t, c, d, q, r, e1, e2, hd, e3⟩ := div_shape hx hy hz
  have f1 := Core.val64_fits x; have f2 := Core.val64_fits y
  rw [e1] at f1; rw [e2] at f2
  have q1 := f1.2.1; have r1 := f2.2.1
  rw [Core.qmin_b64] at q1 r1
  unfold zm at h ⊢
  rw [e3]
  rw [e1, e2] at h
  refine Core.zmag_roundRatio_le Core.good_b64 hd (Core.val64_fits v) (nn hv) (e0 := -1074 - (r + 1074)) (by rw [Core.qmin_b64]; omega) (by omega) ?_
  rw [units2 c q r q1 r1, Core.qmin_b64, show (-1074 - (-1074 - (r + 1074))).toNat = (r + 1074).toNat by omega]
  change Core.inUnits c q Core.b64.qmin * _ ≤ _ * Core.inUnits d r Core.b64.qmin at h
  rw [Core.qmin_b64] at h
  refine Nat.le_trans h (Nat.le_of_eq ?_)
  unfold Core.inUnits
  rw [show (r - -1074).toNat = (r + 1074).toNat by omega]
  ac_rfl
theorem div_ge {x y v : UInt64} (hx : Fin64 x) (hy : Fin64 y) (hz : zm y ≠ 0) (h : zm v * zm y ≤ zm x * Core.one64) : zm v ≤ zm (FP.ddiv x y) := by
  obtain ⟨s, t, c, d, q, r, e1, e2, hd, e3⟩ := div_shape hx hy hz
  have f1 := Core.val64_fits x; have f2 := Core.val64_fits y
  rw [e1] at f1; rw [e2] at f2
  have q1 := f1.2.1; have r1 := f2.2.1
  rw [Core.qmin_b64] at q1 r1
  unfold zm at h ⊢
  rw [e3]
  rw [e1, e2] at h
  refine Core.zmag_roundRatio_ge Core.good_b64 hd (Core.val64_fits v) (e0 := -1074 - (r + 1074)) (by rw [Core.qmin_b64]; omega) (by omega) ?_
  rw [units2 c q r q1 r1, Core.qmin_b64, show (-1074 - (-1074 - (r + 1074))).toNat = (r + 1074).toNat by omega]
  change _ * Core.inUnits d r Core.b64.qmin ≤ Core.inUnits c q Core.b64.qmin * _ at h
  rw [Core.qmin_b64] at h
  refine Nat.le_trans (Nat.le_of_eq ?_) h
  unfold Core.inUnits
  rw [show (r - -1074).toNat = (r + 1074).toNat by omega]
  ac_rfl
theorem div_sgn {x y : UInt64} (hx : Fin64 x) (hy : Fin64 y) (hz : zm y ≠ 0) : Core.sgn (Core.val64 (FP.ddiv x y)) = (Core.sgn (Core.val64 x) != Core.sgn (Core.val64 y)) := by
  obtain ⟨s, t, c, d, q, r, e1, e2, hd, e3⟩ := div_shape hx hy hz
  rw [e3, Core.sgn_roundRatio, e1, e2]; rfl
theorem nz_of {y : UInt64} (hy : Fin64 y) (hz : zm y ≠ 0) : Nz64 y := by
  refine nz64_core.mpr fun ⟨s, q, e⟩ => hz ?_
  unfold zm; rw [e]; simp [Core.zmag, Core.inUnits]
theorem div_nn {x y : UInt64} (hx : Fin64 x) (hy : Fin64 y) (hz : zm y ≠ 0) : NoNaN64 (FP.ddiv x y) := ddiv_out hx.noNaN hy (nz_of hy hz)
theorem sgn_pos {x : UInt64} (h : 0 < zv x) : Core.sgn (Core.val64 x) = false := by
  rw [zv_sgn] at h
  cases e : Core.sgn (Core.val64 x)
  · rfl
  · rw [e] at h; simp [Core.signed] at h; omega
theorem zv_of_pos {x : UInt64} (h : Core.sgn (Core.val64 x) = false) : zv x = (zm x : Int) := by rw [zv_sgn, h]; rfl
theorem Is.zm {x : UInt64} {i : Int} {k : Nat} (h : Is x i k) : (OwnFP.zm x : Int) = (i.natAbs : Int) * U k := by
  rw [← zm_abs, h.2, Int.natAbs_mul, Int.natCast_mul, Int.natAbs_of_nonneg (Int.le_of_lt (U_pos k))]
/-- i / 2 ^ j is exact -/
theorem Is.div2 {x y : UInt64} {i : Int} {j : Nat} (hx : Is x i 0) (hy : Is y ((2 ^ j : Nat) : Int) 0) (hj : j ≤ 1074) (hi : i.natAbs < 2 ^ 53) : Is (FP.ddiv x y) i j := by
  obtain ⟨v, hv⟩ := repr i j hj hi
  have p2 := Nat.two_pow_pos j
  have hyz : (OwnFP.zm y : Int) = ((2 ^ j : Nat) : Int) * U 0 := by rw [hy.zm]; simp
  have hz : OwnFP.zm y ≠ 0 := fun h => by
    rw [h] at hyz
    have := Int.mul_pos (Int.natCast_pos.mpr p2) (U_pos 0)
    omega
  have e : OwnFP.zm x * Core.one64 = OwnFP.zm v * OwnFP.zm y := by
    have : ((OwnFP.zm x * Core.one64 : Nat) : Int) = ((OwnFP.zm v * OwnFP.zm y : Nat) : Int) := by
      rw [Int.natCast_mul, Int.natCast_mul, hx.zm, hv.zm, hyz, ← U_zero, U_add (k := 0) (j := j) (by omega), Nat.zero_add]
      ac_rfl
    exact Int.ofNat.inj this
  have em : OwnFP.zm (FP.ddiv x y) = OwnFP.zm v := Nat.le_antisymm (div_le hx.1 hy.1 hz hv.nn (Nat.le_of_eq e)) (div_ge hx.1 hy.1 hz (Nat.le_of_eq e.symm))
  have sy : Core.sgn (Core.val64 y) = false := sgn_pos (by rw [hy.2]; exact Int.mul_pos (Int.natCast_pos.mpr p2) (U_pos 0))
  refine ⟨fin_of (div_nn hx.1 hy.1 hz) hv.1 (Nat.le_of_eq em), ?_⟩
  rw [zv_sgn, div_sgn hx.1 hy.1 hz, sy, em]
  by_cases h0 : i = 0
  · have : OwnFP.zm v = 0 := by have := hv.zm; rw [h0] at this; simp at this; exact this
    rw [this, h0]; simp [Core.signed_zero]
  · have ex : Core.signed (Core.sgn (Core.val64 x)) (OwnFP.zm x) = i * U 0 := hx.2
    have hz2 := hv.zm
    have hzx := hx.zm
    have u0 := U_pos 0; have uj := U_pos j
    cases e : Core.sgn (Core.val64 x)
    · rw [e] at ex
      have : 0 < i := by
        have h1 : (0 : Int) ≤ i * U 0 := by rw [← ex]; simp [Core.signed]
        have h2 : 0 ≤ i := Int.not_lt.mp fun q => by have := Int.mul_neg_of_neg_of_pos q u0; omega
        omega
      show ((OwnFP.zm v : Nat) : Int) = _
      rw [hz2, show ((i.natAbs : Nat) : Int) = i by omega]
    · rw [e] at ex
      have : i < 0 := by
        have h1 : i * U 0 ≤ 0 := by rw [← ex]; simp [Core.signed]
        have h2 : i ≤ 0 := Int.not_lt.mp fun q => by have := Int.mul_pos q u0; omega
        omega
      show -((OwnFP.zm v : Nat) : Int) = _
      rw [hz2, show ((i.natAbs : Nat) : Int) = -i by omega, Int.neg_mul, Int.neg_neg]
theorem abs_le_max {x : UInt64} (h : Fin64 x) : ¬ (0 : Int32) < cmpValue (FP.dcmp (x &&& 0x7fffffffffffffff) (9218868437227405311 : UInt64)) .g := by
  rcases (Core.le_max (noNaN64_no.mp h.noNaN)).mpr (fin64_core.mp h) with q | q
  · rw [show FP.dcmp (x &&& 0x7fffffffffffffff) (9218868437227405311 : UInt64) = some .lt from q]; decide
  · rw [show FP.dcmp (x &&& 0x7fffffffffffffff) (9218868437227405311 : UInt64) = some .eq from q]; decide
/-- equal numbers over one divisor: equal numbers -/
theorem div_congr {x x' y : UInt64} (hx : Fin64 x) (hx' : Fin64 x') (h : zv x = zv x') (hy : Fin64 y) (hz : OwnFP.zm y ≠ 0) : zv (FP.ddiv x y) = zv (FP.ddiv x' y) := by
  by_cases h0 : zv x' = 0
  · have e1 : OwnFP.zm x = 0 := by rw [← zm_abs, h, h0]; rfl
    have e2 : OwnFP.zm x' = 0 := by rw [← zm_abs, h0]; rfl
    have z0 : OwnFP.zm 0 = 0 := by rw [← zm_abs, zv_zero]; rfl
    have d1 := div_le (v := 0) hx hy hz fin_zero.noNaN (by rw [e1]; simp)
    have d2 := div_le (v := 0) hx' hy hz fin_zero.noNaN (by rw [e2]; simp)
    rw [z0] at d1 d2
    rw [zv_sgn, zv_sgn, Nat.le_zero.mp d1, Nat.le_zero.mp d2, Core.signed_zero, Core.signed_zero]
  · have : x = x' := by
      refine Core.eq_bits (fun hz' => h0 hz'.zval) ?_
      have q : Core.dcmp x x' = some (compare (zv x) (zv x')) := Core.dcmp_zval (nn hx.noNaN) (nn hx'.noNaN)
      rw [q, h, Core.compare_self_int]
    rw [this]
end Jvm.OwnFP
namespace Jvm.Pilot.@@N@@
open Jvm Jvm.ClassFile Sem Op Lib Jvm.Free Jvm.Stand Jvm.LawKit Jvm.RoadKit Bundle Jvm.Pilot.@@N@@.Jvm.D
open Jvm.Free.Fl (NoNaN64 Fin64 Nz64)
theorem ef_2 (m : MethodId) (a1 : Addr) (q1 : Int64) (d1 : UInt64) (q2 : Int64) (q3 : Int64) (q4 : Int64) : entryFrame m #[(.ref a1), (.long q1), (.double d1), (.long q2), (.long q3), (.long q4)] 11 = mkF m 0 #[.val (.ref a1), .val (.long q1), .second, .val (.double d1), .second, .val (.long q2), .second, .val (.long q3), .second, .val (.long q4), .second] [] := by first | (simp [entryFrame, mkF, argsToLocals, Value.category]; done) | rfl
theorem d2_0 : decode prog_20_method_1_code 0 = .ok (.aload_n 0, 1) := by decide +kernel
theorem d2_1 : decode prog_20_method_1_code 1 = .ok (.invokespecial 1, 3) := by decide +kernel
theorem d2_4 : decode prog_20_method_1_code 4 = .ok (.aload_n 0, 1) := by decide +kernel
theorem d2_5 : decode prog_20_method_1_code 5 = .ok (.lload_n 1, 1) := by decide +kernel
theorem d2_6 : decode prog_20_method_1_code 6 = .ok (.putfield 7, 3) := by decide +kernel
theorem d2_9 : decode prog_20_method_1_code 9 = .ok (.aload_n 0, 1) := by decide +kernel
theorem d2_10 : decode prog_20_method_1_code 10 = .ok (.dload_n 3, 1) := by decide +kernel
theorem d2_11 : decode prog_20_method_1_code 11 = .ok (.putfield 13, 3) := by decide +kernel
theorem d2_14 : decode prog_20_method_1_code 14 = .ok (.aload_n 0, 1) := by decide +kernel
theorem d2_15 : decode prog_20_method_1_code 15 = .ok (.lload 5, 2) := by decide +kernel
theorem d2_17 : decode prog_20_method_1_code 17 = .ok (.putfield 17, 3) := by decide +kernel
theorem d2_20 : decode prog_20_method_1_code 20 = .ok (.aload_n 0, 1) := by decide +kernel
theorem d2_21 : decode prog_20_method_1_code 21 = .ok (.lload 7, 2) := by decide +kernel
theorem d2_23 : decode prog_20_method_1_code 23 = .ok (.putfield 20, 3) := by decide +kernel
theorem d2_26 : decode prog_20_method_1_code 26 = .ok (.aload_n 0, 1) := by decide +kernel
theorem d2_27 : decode prog_20_method_1_code 27 = .ok (.lload 9, 2) := by decide +kernel
theorem d2_29 : decode prog_20_method_1_code 29 = .ok (.putfield 23, 3) := by decide +kernel
theorem d2_32 : decode prog_20_method_1_code 32 = .ok (.return_, 1) := by decide +kernel
theorem pn_com_example_attacca_attacca_Varispeed : plainName "com/example/attacca/attacca/Varispeed" = true := by first | (simp [plainName, overriddenIn]; done) | decide +kernel
def Q2 (Z : State) (a1 : Addr) (q1 : Int64) (d1 : UInt64) (q2 : Int64) (q3 : Int64) (q4 : Int64) (h0 : Heap) (n0 : Nat) (v : Option Value) (h : Heap) (L : List Loc) : Prop := v = none ∧ Fr n0 L ∧ Keep h0 h [a1] ∧ (Exa Z h a1 "com/example/attacca/attacca/Varispeed") ∧ (Fld Z h a1 "com/example/attacca/attacca/Varispeed" "frames" "J" (.long q1)) ∧ (Fld Z h a1 "com/example/attacca/attacca/Varispeed" "speed" "D" (.double d1)) ∧ (Fld Z h a1 "com/example/attacca/attacca/Varispeed" "entry" "J" (.long q2)) ∧ (Fld Z h a1 "com/example/attacca/attacca/Varispeed" "glide" "J" (.long q3)) ∧ (Fld Z h a1 "com/example/attacca/attacca/Varispeed" "resumed" "J" (.long q4))
set_option maxRecDepth 65536 in
set_option maxHeartbeats 40000000 in
theorem rm2 (l : Launch) (Z : State) (a0 : Array Value) (hw : ∀ d ∈ tables_1, d.before a0 Z = true) (ws : List Jvm.Cond) (a1 : Addr) (q1 : Int64) (d1 : UInt64) (q2 : Int64) (q3 : Int64) (q4 : Int64) (h0 : Heap) (n0 : Nat) (Z0 : n0 ≤ h0.size) (P_E_a1 : Exa Z h0 a1 "com/example/attacca/attacca/Varispeed") (P_G_a1 : n0 ≤ a1) (P_F_a1_frames : Fld Z h0 a1 "com/example/attacca/attacca/Varispeed" "frames" "J" (.long (0 : Int64))) (P_F_a1_speed : Fld Z h0 a1 "com/example/attacca/attacca/Varispeed" "speed" "D" (.double (0 : UInt64))) (P_F_a1_entry : Fld Z h0 a1 "com/example/attacca/attacca/Varispeed" "entry" "J" (.long (0 : Int64))) (P_F_a1_glide : Fld Z h0 a1 "com/example/attacca/attacca/Varispeed" "glide" "J" (.long (0 : Int64))) (P_F_a1_resumed : Fld Z h0 a1 "com/example/attacca/attacca/Varispeed" "resumed" "J" (.long (0 : Int64))) :
    MetFree l (⟨"com/example/attacca/attacca/Varispeed", "<init>", "(JDJJJ)V"⟩ : MethodName) (head1 (Jvm.Cond.code (⟨"com/example/attacca/attacca/Varispeed", "<init>", "(JDJJJ)V"⟩ : MethodName) prog_20_method_1_code 11 none :: ws) ({ frames := 1, cells := 0, slots := 0, locals := 12 } : Room)) (fun a U => a = #[(.ref a1), (.long q1), (.double d1), (.long q2), (.long q3), (.long q4)] ∧ Z.Warmed39 U.vm ∧ U.heap = h0) (fun _ _ _ _ _ => True) (fun _ U o U' => ∃ v L, o = .returned v ∧ Q2 Z a1 q1 d1 q2 q3 q4 h0 n0 v U'.heap L ∧ FrameEnd U o U' L ({ frames := 1, cells := 0, slots := 0, locals := 12 } : Room).cells ({ frames := 1, cells := 0, slots := 0, locals := 12 } : Room).slots) := by
  refine MetFree.of_bodySF (plainFor_of_name pn_com_example_attacca_attacca_Varispeed) hisR ?_
  intro p e s m args below meth c s₁ Bd hml0 hP hK
  obtain ⟨rfl, hZ, hh⟩ := hP
  have hx := Bd.exec
  have hby := Bd.bytes
  have hml : c.maxLocals = 11 := hml0
  have hown : s.vm.findClass "com/example/attacca/attacca/Varispeed" = some m.cls := findClass_of_methodNamed Bd.named
  have hnm := (name_of_methodNamed Bd.named Bd.method).1
  have X0 : Stand p l e ({ frames := 1, cells := 0, slots := 0, locals := 12 } : Room) s m #[(.ref a1), (.long q1), (.double d1), (.long q2), (.long q3), (.long q4)] below meth c s₁ [] 0 0 := Stand.of_body Bd
  have e0 : s₁.heap = h0 := by rw [← hh, Bd.state]; rfl
  have N0 := Fr.nil n0
  have pre0 : ∀ t, Steps p.tables e below (s₁.setTop (mkF m 0 #[.val (.ref a1), .val (.long q1), .second, .val (.double d1), .second, .val (.long q2), .second, .val (.long q3), .second, .val (.long q4), .second] [])) t → Steps p.tables e below (s₁.setTop (entryFrame m #[(.ref a1), (.long q1), (.double d1), (.long q2), (.long q3), (.long q4)] 11)) t := fun t k => castTop (ef_2 m a1 q1 d1 q2 q3 q4) k
  obtain ⟨T1, X1, e1, st1⟩ := initO X0 hx hZ hown (hw _ (List.mem_of_getElem? (i := 9) rfl)) (hw _ (List.mem_of_getElem? (i := 10) rfl)) (hw _ (List.mem_of_getElem? (i := 11) rfl)) e0 (g := (mkF m 1 #[.val (.ref a1), .val (.long q1), .second, .val (.double d1), .second, .val (.long q2), .second, .val (.long q3), .second, .val (.long q4), .second] [(.ref a1)])) rfl (by rw [hml]; rfl) rfl (hb hby d2_1) (by decide) (W := 0) (by show 2 * 0 + _ ≤ _; exact Nat.le_of_eq rfl) (by decide)
  obtain ⟨T2, h2, X2, e2, W2, st2⟩ := putF X1 hx hZ hown (host := "") (Or.inl (hw _ (List.mem_of_getElem? (i := 12) rfl))) Via.refl e1 P_F_a1_frames P_E_a1 (Or.inr ⟨(hw _ (List.mem_of_getElem? (i := 13) rfl)), rfl, hnm⟩) (hw _ (List.mem_of_getElem? (i := 5) rfl)) (ty := .long) (by decide) rfl rfl (g := (mkF m 6 #[.val (.ref a1), .val (.long q1), .second, .val (.double d1), .second, .val (.long q2), .second, .val (.long q3), .second, .val (.long q4), .second] [(.long q1), (.ref a1)])) rfl rfl (hb hby d2_6)
  have F2 : Fld Z h2 a1 "com/example/attacca/attacca/Varispeed" "frames" "J" (.long q1) := P_F_a1_frames.same W2
  have z3 : n0 ≤ h2.size := Nat.le_trans Z0 (Keep.of_wr W2).1
  have k4 : Keep h0 h2 [a1] := (Keep.refl h0 [a1]).wr W2 (Or.inl (List.mem_of_getElem? (i := 0) rfl))
  have N2 : Fr n0 _ := Fr.snoc X2 N0 P_G_a1
  have f5 : Fld Z h2 a1 "com/example/attacca/attacca/Varispeed" "speed" "D" (.double (0 : UInt64)) := (P_F_a1_speed.other W2 (Or.inr (slot_ne (Or.inr (hw _ (List.mem_of_getElem? (i := 15) rfl))) (Or.inr (hw _ (List.mem_of_getElem? (i := 13) rfl))) (by decide) (t := .double) (t' := .long) (by decide) (by decide))))
  have f6 : Exa Z h2 a1 "com/example/attacca/attacca/Varispeed" := (P_E_a1.wr W2)
  obtain ⟨T7, h7, X7, e7, W7, st7⟩ := putF X2 hx hZ hown (host := "") (Or.inl (hw _ (List.mem_of_getElem? (i := 14) rfl))) Via.refl e2 f5 f6 (Or.inr ⟨(hw _ (List.mem_of_getElem? (i := 15) rfl)), rfl, hnm⟩) (hw _ (List.mem_of_getElem? (i := 5) rfl)) (ty := .double) (by decide) rfl rfl (g := (mkF m 11 #[.val (.ref a1), .val (.long q1), .second, .val (.double d1), .second, .val (.long q2), .second, .val (.long q3), .second, .val (.long q4), .second] [(.double d1), (.ref a1)])) rfl rfl (hb hby d2_11)
  have F7 : Fld Z h7 a1 "com/example/attacca/attacca/Varispeed" "speed" "D" (.double d1) := f5.same W7
  have z8 : n0 ≤ h7.size := Nat.le_trans z3 (Keep.of_wr W7).1
  have k9 : Keep h0 h7 [a1] := k4.wr W7 (Or.inl (List.mem_of_getElem? (i := 0) rfl))
  have N7 : Fr n0 _ := Fr.snoc X7 N2 P_G_a1
  have f10 : Fld Z h7 a1 "com/example/attacca/attacca/Varispeed" "entry" "J" (.long (0 : Int64)) := ((P_F_a1_entry.other W2 (Or.inr (slot_ne (Or.inr (hw _ (List.mem_of_getElem? (i := 17) rfl))) (Or.inr (hw _ (List.mem_of_getElem? (i := 13) rfl))) (by decide) (t := .long) (t' := .long) (by decide) (by decide)))).other W7 (Or.inr (slot_ne (Or.inr (hw _ (List.mem_of_getElem? (i := 17) rfl))) (Or.inr (hw _ (List.mem_of_getElem? (i := 15) rfl))) (by decide) (t := .long) (t' := .double) (by decide) (by decide))))
  have f11 : Exa Z h7 a1 "com/example/attacca/attacca/Varispeed" := (f6.wr W7)
  obtain ⟨T12, h12, X12, e12, W12, st12⟩ := putF X7 hx hZ hown (host := "") (Or.inl (hw _ (List.mem_of_getElem? (i := 16) rfl))) Via.refl e7 f10 f11 (Or.inr ⟨(hw _ (List.mem_of_getElem? (i := 17) rfl)), rfl, hnm⟩) (hw _ (List.mem_of_getElem? (i := 5) rfl)) (ty := .long) (by decide) rfl rfl (g := (mkF m 17 #[.val (.ref a1), .val (.long q1), .second, .val (.double d1), .second, .val (.long q2), .second, .val (.long q3), .second, .val (.long q4), .second] [(.long q2), (.ref a1)])) rfl rfl (hb hby d2_17)
  have F12 : Fld Z h12 a1 "com/example/attacca/attacca/Varispeed" "entry" "J" (.long q2) := f10.same W12
  have z13 : n0 ≤ h12.size := Nat.le_trans z8 (Keep.of_wr W12).1
  have k14 : Keep h0 h12 [a1] := k9.wr W12 (Or.inl (List.mem_of_getElem? (i := 0) rfl))
  have N12 : Fr n0 _ := Fr.snoc X12 N7 P_G_a1
  have f15 : Fld Z h12 a1 "com/example/attacca/attacca/Varispeed" "glide" "J" (.long (0 : Int64)) := (((P_F_a1_glide.other W2 (Or.inr (slot_ne (Or.inr (hw _ (List.mem_of_getElem? (i := 19) rfl))) (Or.inr (hw _ (List.mem_of_getElem? (i := 13) rfl))) (by decide) (t := .long) (t' := .long) (by decide) (by decide)))).other W7 (Or.inr (slot_ne (Or.inr (hw _ (List.mem_of_getElem? (i := 19) rfl))) (Or.inr (hw _ (List.mem_of_getElem? (i := 15) rfl))) (by decide) (t := .long) (t' := .double) (by decide) (by decide)))).other W12 (Or.inr (slot_ne (Or.inr (hw _ (List.mem_of_getElem? (i := 19) rfl))) (Or.inr (hw _ (List.mem_of_getElem? (i := 17) rfl))) (by decide) (t := .long) (t' := .long) (by decide) (by decide))))
  have f16 : Exa Z h12 a1 "com/example/attacca/attacca/Varispeed" := (f11.wr W12)
  obtain ⟨T17, h17, X17, e17, W17, st17⟩ := putF X12 hx hZ hown (host := "") (Or.inl (hw _ (List.mem_of_getElem? (i := 18) rfl))) Via.refl e12 f15 f16 (Or.inr ⟨(hw _ (List.mem_of_getElem? (i := 19) rfl)), rfl, hnm⟩) (hw _ (List.mem_of_getElem? (i := 5) rfl)) (ty := .long) (by decide) rfl rfl (g := (mkF m 23 #[.val (.ref a1), .val (.long q1), .second, .val (.double d1), .second, .val (.long q2), .second, .val (.long q3), .second, .val (.long q4), .second] [(.long q3), (.ref a1)])) rfl rfl (hb hby d2_23)
  have F17 : Fld Z h17 a1 "com/example/attacca/attacca/Varispeed" "glide" "J" (.long q3) := f15.same W17
  have z18 : n0 ≤ h17.size := Nat.le_trans z13 (Keep.of_wr W17).1
  have k19 : Keep h0 h17 [a1] := k14.wr W17 (Or.inl (List.mem_of_getElem? (i := 0) rfl))
  have N17 : Fr n0 _ := Fr.snoc X17 N12 P_G_a1
  have f20 : Fld Z h17 a1 "com/example/attacca/attacca/Varispeed" "resumed" "J" (.long (0 : Int64)) := ((((P_F_a1_resumed.other W2 (Or.inr (slot_ne (Or.inr (hw _ (List.mem_of_getElem? (i := 21) rfl))) (Or.inr (hw _ (List.mem_of_getElem? (i := 13) rfl))) (by decide) (t := .long) (t' := .long) (by decide) (by decide)))).other W7 (Or.inr (slot_ne (Or.inr (hw _ (List.mem_of_getElem? (i := 21) rfl))) (Or.inr (hw _ (List.mem_of_getElem? (i := 15) rfl))) (by decide) (t := .long) (t' := .double) (by decide) (by decide)))).other W12 (Or.inr (slot_ne (Or.inr (hw _ (List.mem_of_getElem? (i := 21) rfl))) (Or.inr (hw _ (List.mem_of_getElem? (i := 17) rfl))) (by decide) (t := .long) (t' := .long) (by decide) (by decide)))).other W17 (Or.inr (slot_ne (Or.inr (hw _ (List.mem_of_getElem? (i := 21) rfl))) (Or.inr (hw _ (List.mem_of_getElem? (i := 19) rfl))) (by decide) (t := .long) (t' := .long) (by decide) (by decide))))
  have f21 : Exa Z h17 a1 "com/example/attacca/attacca/Varispeed" := (f16.wr W17)
  obtain ⟨T22, h22, X22, e22, W22, st22⟩ := putF X17 hx hZ hown (host := "") (Or.inl (hw _ (List.mem_of_getElem? (i := 20) rfl))) Via.refl e17 f20 f21 (Or.inr ⟨(hw _ (List.mem_of_getElem? (i := 21) rfl)), rfl, hnm⟩) (hw _ (List.mem_of_getElem? (i := 5) rfl)) (ty := .long) (by decide) rfl rfl (g := (mkF m 29 #[.val (.ref a1), .val (.long q1), .second, .val (.double d1), .second, .val (.long q2), .second, .val (.long q3), .second, .val (.long q4), .second] [(.long q4), (.ref a1)])) rfl rfl (hb hby d2_29)
  have F22 : Fld Z h22 a1 "com/example/attacca/attacca/Varispeed" "resumed" "J" (.long q4) := f20.same W22
  have z23 : n0 ≤ h22.size := Nat.le_trans z18 (Keep.of_wr W22).1
  have k24 : Keep h0 h22 [a1] := k19.wr W22 (Or.inl (List.mem_of_getElem? (i := 0) rfl))
  have N22 : Fr n0 _ := Fr.snoc X22 N17 P_G_a1
  have pre25 : ∀ t, Steps p.tables e below (T22.setTop (mkF m 32 #[.val (.ref a1), .val (.long q1), .second, .val (.double d1), .second, .val (.long q2), .second, .val (.long q3), .second, .val (.long q4), .second] [])) t → Steps p.tables e below (s₁.setTop (entryFrame m #[(.ref a1), (.long q1), (.double d1), (.long q2), (.long q3), (.long q4)] 11)) t := fun t kt => pre0 t (by
      show Steps p.tables e below (s₁.setTop (mkF m 0 #[.val (.ref a1), .val (.long q1), .second, .val (.double d1), .second, .val (.long q2), .second, .val (.long q3), .second, .val (.long q4), .second] [])) _
      refine XS.aloadN X0.here hx rfl (hb hby d2_0) rfl rfl ?_
      show Steps p.tables e below (s₁.setTop (mkF m 1 #[.val (.ref a1), .val (.long q1), .second, .val (.double d1), .second, .val (.long q2), .second, .val (.long q3), .second, .val (.long q4), .second] [(.ref a1)])) _
      refine st1 _ ?_
      show Steps p.tables e below (T1.setTop (mkF m 4 #[.val (.ref a1), .val (.long q1), .second, .val (.double d1), .second, .val (.long q2), .second, .val (.long q3), .second, .val (.long q4), .second] [])) _
      refine XS.aloadN X1.here hx rfl (hb hby d2_4) rfl rfl ?_
      show Steps p.tables e below (T1.setTop (mkF m 5 #[.val (.ref a1), .val (.long q1), .second, .val (.double d1), .second, .val (.long q2), .second, .val (.long q3), .second, .val (.long q4), .second] [(.ref a1)])) _
      refine XS.lloadN X1.here hx rfl (hb hby d2_5) rfl ?_
      show Steps p.tables e below (T1.setTop (mkF m 6 #[.val (.ref a1), .val (.long q1), .second, .val (.double d1), .second, .val (.long q2), .second, .val (.long q3), .second, .val (.long q4), .second] [(.long q1), (.ref a1)])) _
      refine st2 _ ?_
      show Steps p.tables e below (T2.setTop (mkF m 9 #[.val (.ref a1), .val (.long q1), .second, .val (.double d1), .second, .val (.long q2), .second, .val (.long q3), .second, .val (.long q4), .second] [])) _
      refine XS.aloadN X2.here hx rfl (hb hby d2_9) rfl rfl ?_
      show Steps p.tables e below (T2.setTop (mkF m 10 #[.val (.ref a1), .val (.long q1), .second, .val (.double d1), .second, .val (.long q2), .second, .val (.long q3), .second, .val (.long q4), .second] [(.ref a1)])) _
      refine XS.dloadN X2.here hx rfl (hb hby d2_10) rfl ?_
      show Steps p.tables e below (T2.setTop (mkF m 11 #[.val (.ref a1), .val (.long q1), .second, .val (.double d1), .second, .val (.long q2), .second, .val (.long q3), .second, .val (.long q4), .second] [(.double d1), (.ref a1)])) _
      refine st7 _ ?_
      show Steps p.tables e below (T7.setTop (mkF m 14 #[.val (.ref a1), .val (.long q1), .second, .val (.double d1), .second, .val (.long q2), .second, .val (.long q3), .second, .val (.long q4), .second] [])) _
      refine XS.aloadN X7.here hx rfl (hb hby d2_14) rfl rfl ?_
      show Steps p.tables e below (T7.setTop (mkF m 15 #[.val (.ref a1), .val (.long q1), .second, .val (.double d1), .second, .val (.long q2), .second, .val (.long q3), .second, .val (.long q4), .second] [(.ref a1)])) _
      refine XS.lload X7.here hx rfl (hb hby d2_15) rfl ?_
      show Steps p.tables e below (T7.setTop (mkF m 17 #[.val (.ref a1), .val (.long q1), .second, .val (.double d1), .second, .val (.long q2), .second, .val (.long q3), .second, .val (.long q4), .second] [(.long q2), (.ref a1)])) _
      refine st12 _ ?_
      show Steps p.tables e below (T12.setTop (mkF m 20 #[.val (.ref a1), .val (.long q1), .second, .val (.double d1), .second, .val (.long q2), .second, .val (.long q3), .second, .val (.long q4), .second] [])) _
      refine XS.aloadN X12.here hx rfl (hb hby d2_20) rfl rfl ?_
      show Steps p.tables e below (T12.setTop (mkF m 21 #[.val (.ref a1), .val (.long q1), .second, .val (.double d1), .second, .val (.long q2), .second, .val (.long q3), .second, .val (.long q4), .second] [(.ref a1)])) _
      refine XS.lload X12.here hx rfl (hb hby d2_21) rfl ?_
      show Steps p.tables e below (T12.setTop (mkF m 23 #[.val (.ref a1), .val (.long q1), .second, .val (.double d1), .second, .val (.long q2), .second, .val (.long q3), .second, .val (.long q4), .second] [(.long q3), (.ref a1)])) _
      refine st17 _ ?_
      show Steps p.tables e below (T17.setTop (mkF m 26 #[.val (.ref a1), .val (.long q1), .second, .val (.double d1), .second, .val (.long q2), .second, .val (.long q3), .second, .val (.long q4), .second] [])) _
      refine XS.aloadN X17.here hx rfl (hb hby d2_26) rfl rfl ?_
      show Steps p.tables e below (T17.setTop (mkF m 27 #[.val (.ref a1), .val (.long q1), .second, .val (.double d1), .second, .val (.long q2), .second, .val (.long q3), .second, .val (.long q4), .second] [(.ref a1)])) _
      refine XS.lload X17.here hx rfl (hb hby d2_27) rfl ?_
      show Steps p.tables e below (T17.setTop (mkF m 29 #[.val (.ref a1), .val (.long q1), .second, .val (.double d1), .second, .val (.long q2), .second, .val (.long q3), .second, .val (.long q4), .second] [(.long q4), (.ref a1)])) _
      refine st22 _ ?_
      exact kt)
  have f26 : Exa Z h22 a1 "com/example/attacca/attacca/Varispeed" := (f21.wr W22)
  have f27 : Fld Z h22 a1 "com/example/attacca/attacca/Varispeed" "frames" "J" (.long q1) := ((((F2.other W7 (Or.inr (slot_ne (Or.inr (hw _ (List.mem_of_getElem? (i := 13) rfl))) (Or.inr (hw _ (List.mem_of_getElem? (i := 15) rfl))) (by decide) (t := .long) (t' := .double) (by decide) (by decide)))).other W12 (Or.inr (slot_ne (Or.inr (hw _ (List.mem_of_getElem? (i := 13) rfl))) (Or.inr (hw _ (List.mem_of_getElem? (i := 17) rfl))) (by decide) (t := .long) (t' := .long) (by decide) (by decide)))).other W17 (Or.inr (slot_ne (Or.inr (hw _ (List.mem_of_getElem? (i := 13) rfl))) (Or.inr (hw _ (List.mem_of_getElem? (i := 19) rfl))) (by decide) (t := .long) (t' := .long) (by decide) (by decide)))).other W22 (Or.inr (slot_ne (Or.inr (hw _ (List.mem_of_getElem? (i := 13) rfl))) (Or.inr (hw _ (List.mem_of_getElem? (i := 21) rfl))) (by decide) (t := .long) (t' := .long) (by decide) (by decide))))
  have f28 : Fld Z h22 a1 "com/example/attacca/attacca/Varispeed" "speed" "D" (.double d1) := (((F7.other W12 (Or.inr (slot_ne (Or.inr (hw _ (List.mem_of_getElem? (i := 15) rfl))) (Or.inr (hw _ (List.mem_of_getElem? (i := 17) rfl))) (by decide) (t := .double) (t' := .long) (by decide) (by decide)))).other W17 (Or.inr (slot_ne (Or.inr (hw _ (List.mem_of_getElem? (i := 15) rfl))) (Or.inr (hw _ (List.mem_of_getElem? (i := 19) rfl))) (by decide) (t := .double) (t' := .long) (by decide) (by decide)))).other W22 (Or.inr (slot_ne (Or.inr (hw _ (List.mem_of_getElem? (i := 15) rfl))) (Or.inr (hw _ (List.mem_of_getElem? (i := 21) rfl))) (by decide) (t := .double) (t' := .long) (by decide) (by decide))))
  have f29 : Fld Z h22 a1 "com/example/attacca/attacca/Varispeed" "entry" "J" (.long q2) := ((F12.other W17 (Or.inr (slot_ne (Or.inr (hw _ (List.mem_of_getElem? (i := 17) rfl))) (Or.inr (hw _ (List.mem_of_getElem? (i := 19) rfl))) (by decide) (t := .long) (t' := .long) (by decide) (by decide)))).other W22 (Or.inr (slot_ne (Or.inr (hw _ (List.mem_of_getElem? (i := 17) rfl))) (Or.inr (hw _ (List.mem_of_getElem? (i := 21) rfl))) (by decide) (t := .long) (t' := .long) (by decide) (by decide))))
  have f30 : Fld Z h22 a1 "com/example/attacca/attacca/Varispeed" "glide" "J" (.long q3) := (F17.other W22 (Or.inr (slot_ne (Or.inr (hw _ (List.mem_of_getElem? (i := 19) rfl))) (Or.inr (hw _ (List.mem_of_getElem? (i := 21) rfl))) (by decide) (t := .long) (t' := .long) (by decide) (by decide))))
  obtain ⟨fs, hr, hrun, hended, hW, hsame⟩ := X22.leave (v := none) (fun _ => rfl)
  refine ⟨_, _, pre25 _ ?_, hrun, hended, _, _, rfl, ?_, ⟨_, rfl⟩, hW, hsame.mono (by decide) (by decide)⟩
  · show Steps p.tables e below (T22.setTop (mkF m 32 #[.val (.ref a1), .val (.long q1), .second, .val (.double d1), .second, .val (.long q2), .second, .val (.long q3), .second, .val (.long q4), .second] [])) _
    exact X22.returnOut hx Bd.returns (hb hby d2_32) hr
  · show Q2 Z a1 q1 d1 q2 q3 q4 h0 n0 _ T22.heap _
    rw [e22]
    exact ⟨rfl, N22, k24, f26, f27, f28, f29, f30, F22⟩
theorem ef_1 (m : MethodId) (q1 : Int64) : entryFrame m #[(.long q1)] 2 = mkF m 0 #[.val (.long q1), .second] [] := by first | (simp [entryFrame, mkF, argsToLocals, Value.category]; done) | rfl
theorem d1_0 : decode prog_20_method_2_code 0 = .ok (.new 8, 3) := by decide +kernel
theorem d1_3 : decode prog_20_method_2_code 3 = .ok (.dup, 1) := by decide +kernel
theorem d1_4 : decode prog_20_method_2_code 4 = .ok (.lload_n 0, 1) := by decide +kernel
theorem d1_5 : decode prog_20_method_2_code 5 = .ok (.dconst 1, 1) := by decide +kernel
theorem d1_6 : decode prog_20_method_2_code 6 = .ok (.lconst 0, 1) := by decide +kernel
theorem d1_7 : decode prog_20_method_2_code 7 = .ok (.lconst 0, 1) := by decide +kernel
theorem d1_8 : decode prog_20_method_2_code 8 = .ok (.lconst 0, 1) := by decide +kernel
theorem pd__28JDJJJ_29V : parseMethodDescriptor "(JDJJJ)V" = some ⟨[.long, .double, .long, .long, .long], none⟩ := by decide +kernel
theorem d1_9 : decode prog_20_method_2_code 9 = .ok (.invokespecial 26, 3) := by decide +kernel
theorem d1_12 : decode prog_20_method_2_code 12 = .ok (.areturn, 1) := by decide +kernel
def Q1 (Z : State) (q1 : Int64) (h0 : Heap) (n0 : Nat) (v : Option Value) (h : Heap) (L : List Loc) : Prop := ∃ (b : Addr), v = some (.ref b) ∧ Fr n0 L ∧ Keep h0 h [] ∧ (h0.size ≤ b) ∧ (Exa Z h b "com/example/attacca/attacca/Varispeed") ∧ (Fld Z h b "com/example/attacca/attacca/Varispeed" "frames" "J" (.long q1)) ∧ (Fld Z h b "com/example/attacca/attacca/Varispeed" "speed" "D" (.double (4607182418800017408 : UInt64))) ∧ (Fld Z h b "com/example/attacca/attacca/Varispeed" "entry" "J" (.long (0 : Int64))) ∧ (Fld Z h b "com/example/attacca/attacca/Varispeed" "glide" "J" (.long (0 : Int64))) ∧ (Fld Z h b "com/example/attacca/attacca/Varispeed" "resumed" "J" (.long (0 : Int64)))
set_option maxRecDepth 65536 in
set_option maxHeartbeats 40000000 in
theorem rm1 (l : Launch) (Z : State) (a0 : Array Value) (hw : ∀ d ∈ tables_1, d.before a0 Z = true) (ws : List Jvm.Cond) (q1 : Int64) (h0 : Heap) (n0 : Nat) (Z0 : n0 ≤ h0.size) :
    MetFree l (⟨"com/example/attacca/attacca/Varispeed", "steady", "(J)Lcom/example/attacca/attacca/Varispeed;"⟩ : MethodName) (head1 (Jvm.Cond.code (⟨"com/example/attacca/attacca/Varispeed", "steady", "(J)Lcom/example/attacca/attacca/Varispeed;"⟩ : MethodName) prog_20_method_2_code 2 (some (.object "com/example/attacca/attacca/Varispeed")) :: ws) ({ frames := 2, cells := 1, slots := 5, locals := 35 } : Room)) (fun a U => a = #[(.long q1)] ∧ Z.Warmed39 U.vm ∧ U.heap = h0) (fun _ _ _ _ _ => True) (fun _ U o U' => ∃ v L, o = .returned v ∧ Q1 Z q1 h0 n0 v U'.heap L ∧ FrameEnd U o U' L ({ frames := 2, cells := 1, slots := 5, locals := 35 } : Room).cells ({ frames := 2, cells := 1, slots := 5, locals := 35 } : Room).slots) := by
  refine MetFree.of_bodySF (plainFor_of_name pn_com_example_attacca_attacca_Varispeed) hisR ?_
  intro p e s m args below meth c s₁ Bd hml0 hP hK
  obtain ⟨rfl, hZ, hh⟩ := hP
  have hx := Bd.exec
  have hby := Bd.bytes
  have hml : c.maxLocals = 2 := hml0
  have hown : s.vm.findClass "com/example/attacca/attacca/Varispeed" = some m.cls := findClass_of_methodNamed Bd.named
  have hnm := (name_of_methodNamed Bd.named Bd.method).1
  have X0 : Stand p l e ({ frames := 2, cells := 1, slots := 5, locals := 35 } : Room) s m #[(.long q1)] below meth c s₁ [] 0 0 := Stand.of_body Bd
  have e0 : s₁.heap = h0 := by rw [← hh, Bd.state]; rfl
  have N0 := Fr.nil n0
  have pre0 : ∀ t, Steps p.tables e below (s₁.setTop (mkF m 0 #[.val (.long q1), .second] [])) t → Steps p.tables e below (s₁.setTop (entryFrame m #[(.long q1)] 2)) t := fun t k => castTop (ef_1 m q1) k
  obtain ⟨T1, h1, X1, e1, E1, A1, D1, -, st1⟩ := newO X0 hx hZ hown (hw _ (List.mem_of_getElem? (i := 4) rfl)) (hw _ (List.mem_of_getElem? (i := 5) rfl)) (hw _ (List.mem_of_getElem? (i := 2) rfl)) e0 (g := (mkF m 0 #[.val (.long q1), .second] [])) rfl (hb hby d1_0) (by decide) (by decide)
  obtain ⟨b1, g1⟩ : ∃ z, z = h0.size := ⟨_, rfl⟩
  rw [← g1] at A1 D1 st1
  have g_b1 : n0 ≤ b1 := Nat.le_trans Z0 (Nat.le_of_eq g1.symm)
  have sz_b1 : h0.size ≤ b1 := Nat.le_trans (Keep.refl h0 []).1 (Nat.le_of_eq g1.symm)
  have z2 : n0 ≤ h1.size := Nat.le_trans Z0 E1.1
  have k3 : Keep h0 h1 [] := (Keep.refl h0 []).ext E1
  have F1_13 : Fld Z h1 b1 "com/example/attacca/attacca/Varispeed" "frames" "J" (.long (0 : Int64)) := D1 (Or.inr (hw _ (List.mem_of_getElem? (i := 13) rfl))) (ty := .long) (by decide)
  have F1_15 : Fld Z h1 b1 "com/example/attacca/attacca/Varispeed" "speed" "D" (.double (0 : UInt64)) := D1 (Or.inr (hw _ (List.mem_of_getElem? (i := 15) rfl))) (ty := .double) (by decide)
  have F1_17 : Fld Z h1 b1 "com/example/attacca/attacca/Varispeed" "entry" "J" (.long (0 : Int64)) := D1 (Or.inr (hw _ (List.mem_of_getElem? (i := 17) rfl))) (ty := .long) (by decide)
  have F1_19 : Fld Z h1 b1 "com/example/attacca/attacca/Varispeed" "glide" "J" (.long (0 : Int64)) := D1 (Or.inr (hw _ (List.mem_of_getElem? (i := 19) rfl))) (ty := .long) (by decide)
  have F1_21 : Fld Z h1 b1 "com/example/attacca/attacca/Varispeed" "resumed" "J" (.long (0 : Int64)) := D1 (Or.inr (hw _ (List.mem_of_getElem? (i := 21) rfl))) (ty := .long) (by decide)
  obtain ⟨_, _, ⟨T4, L4, kk4, nn4⟩, -, X4, ⟨Lc4, hQ4, l4, y4, z4⟩, st4⟩ := X1.specialBack hx (y := (⟨"com/example/attacca/attacca/Varispeed", "<init>", "(JDJJJ)V"⟩ : MethodName)) rfl hown (mvT hZ (hw _ (List.mem_of_getElem? (i := 6) rfl))) (mvT hZ (hw _ (List.mem_of_getElem? (i := 7) rfl))) (mvT hZ (hw _ (List.mem_of_getElem? (i := 8) rfl))) (by decide) (backOf (W := 1) (rm2 l Z a0 hw [] b1 q1 (4607182418800017408 : UInt64) (0 : Int64) (0 : Int64) (0 : Int64) h1 n0 z2 A1 g_b1 F1_13 F1_15 F1_17 F1_19 F1_21) hZ (hw _ (List.mem_of_getElem? (i := 8) rfl)) (hw _ (List.mem_of_getElem? (i := 2) rfl)) (by decide) (by decide)) (g := (mkF m 9 #[.val (.long q1), .second] [(.long (0 : Int64)), (.long (0 : Int64)), (.long (0 : Int64)), (.double (4607182418800017408 : UInt64)), (.long q1), (.ref b1), (.ref b1)])) rfl (by rw [hml]; rfl) (Steps.refl _) (a := b1) (argsL := [(.long q1), (.double (4607182418800017408 : UInt64)), (.long (0 : Int64)), (.long (0 : Int64)), (.long (0 : Int64))]) (rest := [(.ref b1)]) (lenOf pd__28JDJJJ_29V rfl) rfl (by show 2 * 0 + _ ≤ _; exact Nat.le_of_eq rfl) (hb hby d1_9) (fun _ _ => ⟨rfl, e1, (by decide : 1 + 0 ≤ _), (by decide : 5 + 0 ≤ _)⟩)
  dsimp only [Pt.U, Pt.locs, Pt.cells, Pt.slots] at X4 l4 y4 z4 st4 hQ4
  subst l4 y4 z4
  obtain ⟨rfl, N4q, K4, x4_0, x4_1, x4_2, x4_3, x4_4, x4_5⟩ := hQ4
  have N4 := Fr.app N0 N4q
  have z5 : n0 ≤ T4.heap.size := Nat.le_trans z2 K4.1
  have k6 : Keep h0 T4.heap [] := k3.trans K4 (own_wmc (Or.inr sz_b1) own_wm0)
  have pre7 : ∀ t, Steps p.tables e below (T4.setTop (mkF m 12 #[.val (.long q1), .second] [(.ref b1)])) t → Steps p.tables e below (s₁.setTop (entryFrame m #[(.long q1)] 2)) t := fun t kt => pre0 t (by
      show Steps p.tables e below (s₁.setTop (mkF m 0 #[.val (.long q1), .second] [])) _
      refine st1 _ ?_
      show Steps p.tables e below (T1.setTop (mkF m 3 #[.val (.long q1), .second] [(.ref b1)])) _
      refine XS.dup X1.here hx rfl (hb hby d1_3) rfl rfl ?_
      show Steps p.tables e below (T1.setTop (mkF m 4 #[.val (.long q1), .second] [(.ref b1), (.ref b1)])) _
      refine XS.lloadN X1.here hx rfl (hb hby d1_4) rfl ?_
      show Steps p.tables e below (T1.setTop (mkF m 5 #[.val (.long q1), .second] [(.long q1), (.ref b1), (.ref b1)])) _
      refine XS.dconst1 X1.here hx rfl (hb hby d1_5) (v := (4607182418800017408 : UInt64)) rfl ?_
      show Steps p.tables e below (T1.setTop (mkF m 6 #[.val (.long q1), .second] [(.double (4607182418800017408 : UInt64)), (.long q1), (.ref b1), (.ref b1)])) _
      refine XS.lconst X1.here hx rfl (hb hby d1_6) ?_
      show Steps p.tables e below (T1.setTop (mkF m 7 #[.val (.long q1), .second] [(.long (0 : Int64)), (.double (4607182418800017408 : UInt64)), (.long q1), (.ref b1), (.ref b1)])) _
      refine XS.lconst X1.here hx rfl (hb hby d1_7) ?_
      show Steps p.tables e below (T1.setTop (mkF m 8 #[.val (.long q1), .second] [(.long (0 : Int64)), (.long (0 : Int64)), (.double (4607182418800017408 : UInt64)), (.long q1), (.ref b1), (.ref b1)])) _
      refine XS.lconst X1.here hx rfl (hb hby d1_8) ?_
      show Steps p.tables e below (T1.setTop (mkF m 9 #[.val (.long q1), .second] [(.long (0 : Int64)), (.long (0 : Int64)), (.long (0 : Int64)), (.double (4607182418800017408 : UInt64)), (.long q1), (.ref b1), (.ref b1)])) _
      refine st4.trans ?_
      exact kt)
  obtain ⟨fs, hr, hrun, hended, hW, hsame⟩ := X4.leave (v := some (.ref b1)) (fun h => by rw [Bd.returns] at h; cases h)
  refine ⟨_, _, pre7 _ ?_, hrun, hended, _, _, rfl, ?_, ⟨_, rfl⟩, hW, hsame.mono (by decide) (by decide)⟩
  · show Steps p.tables e below (T4.setTop (mkF m 12 #[.val (.long q1), .second] [(.ref b1)])) _
    exact own_retR X4 hx Bd.returns rfl (hb hby d1_12) hr
  · show Q1 Z q1 h0 n0 _ T4.heap _
    exact ⟨b1, rfl, N4, k6, sz_b1, x4_0, x4_1, x4_2, x4_3, x4_4, x4_5⟩
theorem ef_4 (m : MethodId) (a1 : Addr) : entryFrame m #[(.ref a1)] 1 = mkF m 0 #[.val (.ref a1)] [] := by first | (simp [entryFrame, mkF, argsToLocals, Value.category]; done) | rfl
theorem d4_0 : decode prog_20_method_4_code 0 = .ok (.aload_n 0, 1) := by decide +kernel
theorem d4_1 : decode prog_20_method_4_code 1 = .ok (.getfield 13, 3) := by decide +kernel
theorem d4_4 : decode prog_20_method_4_code 4 = .ok (.dreturn, 1) := by decide +kernel
def Q4 (Z : State) (a1 : Addr) (q1 : Int64) (h0 : Heap) (n0 : Nat) (v : Option Value) (h : Heap) (L : List Loc) : Prop := v = some (.double (4607182418800017408 : UInt64)) ∧ Fr n0 L ∧ h = h0
set_option maxRecDepth 65536 in
set_option maxHeartbeats 40000000 in
theorem rm4 (l : Launch) (Z : State) (a0 : Array Value) (hw : ∀ d ∈ tables_1, d.before a0 Z = true) (ws : List Jvm.Cond) (a1 : Addr) (q1 : Int64) (h0 : Heap) (n0 : Nat) (Z0 : n0 ≤ h0.size) (P_F_a1_frames : Fld Z h0 a1 "com/example/attacca/attacca/Varispeed" "frames" "J" (.long q1)) (P_F_a1_speed : Fld Z h0 a1 "com/example/attacca/attacca/Varispeed" "speed" "D" (.double (4607182418800017408 : UInt64))) (P_F_a1_entry : Fld Z h0 a1 "com/example/attacca/attacca/Varispeed" "entry" "J" (.long (0 : Int64))) (P_F_a1_glide : Fld Z h0 a1 "com/example/attacca/attacca/Varispeed" "glide" "J" (.long (0 : Int64))) (P_F_a1_resumed : Fld Z h0 a1 "com/example/attacca/attacca/Varispeed" "resumed" "J" (.long (0 : Int64))) :
    MetFree l (⟨"com/example/attacca/attacca/Varispeed", "speed", "()D"⟩ : MethodName) (head1 (Jvm.Cond.code (⟨"com/example/attacca/attacca/Varispeed", "speed", "()D"⟩ : MethodName) prog_20_method_4_code 1 (some .double) :: ws) ({ frames := 0, cells := 0, slots := 0, locals := 0 } : Room)) (fun a U => a = #[(.ref a1)] ∧ Z.Warmed39 U.vm ∧ U.heap = h0) (fun _ _ _ _ _ => True) (fun _ U o U' => ∃ v L, o = .returned v ∧ Q4 Z a1 q1 h0 n0 v U'.heap L ∧ FrameEnd U o U' L ({ frames := 0, cells := 0, slots := 0, locals := 0 } : Room).cells ({ frames := 0, cells := 0, slots := 0, locals := 0 } : Room).slots) := by
  refine MetFree.of_bodySF (plainFor_of_name pn_com_example_attacca_attacca_Varispeed) hisR ?_
  intro p e s m args below meth c s₁ Bd hml0 hP hK
  obtain ⟨rfl, hZ, hh⟩ := hP
  have hx := Bd.exec
  have hby := Bd.bytes
  have hml : c.maxLocals = 1 := hml0
  have hown : s.vm.findClass "com/example/attacca/attacca/Varispeed" = some m.cls := findClass_of_methodNamed Bd.named
  have hnm := (name_of_methodNamed Bd.named Bd.method).1
  have X0 : Stand p l e ({ frames := 0, cells := 0, slots := 0, locals := 0 } : Room) s m #[(.ref a1)] below meth c s₁ [] 0 0 := Stand.of_body Bd
  have e0 : s₁.heap = h0 := by rw [← hh, Bd.state]; rfl
  have N0 := Fr.nil n0
  have pre0 : ∀ t, Steps p.tables e below (s₁.setTop (mkF m 0 #[.val (.ref a1)] [])) t → Steps p.tables e below (s₁.setTop (entryFrame m #[(.ref a1)] 1)) t := fun t k => castTop (ef_4 m a1) k
  obtain ⟨T1, X1, e1, st1⟩ := getF X0 hx hZ hown (host := "") (Or.inl (hw _ (List.mem_of_getElem? (i := 14) rfl))) Via.refl e0 P_F_a1_speed (g := (mkF m 1 #[.val (.ref a1)] [(.ref a1)])) rfl rfl (hb hby d4_1)
  have pre2 : ∀ t, Steps p.tables e below (T1.setTop (mkF m 4 #[.val (.ref a1)] [(.double (4607182418800017408 : UInt64))])) t → Steps p.tables e below (s₁.setTop (entryFrame m #[(.ref a1)] 1)) t := fun t kt => pre0 t (by
      show Steps p.tables e below (s₁.setTop (mkF m 0 #[.val (.ref a1)] [])) _
      refine XS.aloadN X0.here hx rfl (hb hby d4_0) rfl rfl ?_
      show Steps p.tables e below (s₁.setTop (mkF m 1 #[.val (.ref a1)] [(.ref a1)])) _
      refine st1 _ ?_
      exact kt)
  obtain ⟨fs, hr, hrun, hended, hW, hsame⟩ := X1.leave (v := some (.double (4607182418800017408 : UInt64))) (fun h => by rw [Bd.returns] at h; cases h)
  refine ⟨_, _, pre2 _ ?_, hrun, hended, _, _, rfl, ?_, ⟨_, rfl⟩, hW, hsame.mono (by decide) (by decide)⟩
  · show Steps p.tables e below (T1.setTop (mkF m 4 #[.val (.ref a1)] [(.double (4607182418800017408 : UInt64))])) _
    exact own_retD X1 hx Bd.returns (hb hby d4_4) hr
  · show Q4 Z a1 q1 h0 n0 _ T1.heap _
    rw [e1]
    exact ⟨rfl, N0, rfl⟩
theorem ef_5 (m : MethodId) (a1 : Addr) : entryFrame m #[(.ref a1)] 1 = mkF m 0 #[.val (.ref a1)] [] := by first | (simp [entryFrame, mkF, argsToLocals, Value.category]; done) | rfl
theorem d5_0 : decode prog_20_method_5_code 0 = .ok (.aload_n 0, 1) := by decide +kernel
theorem d5_1 : decode prog_20_method_5_code 1 = .ok (.getfield 17, 3) := by decide +kernel
theorem d5_4 : decode prog_20_method_5_code 4 = .ok (.lreturn, 1) := by decide +kernel
def Q5 (Z : State) (a1 : Addr) (q1 : Int64) (h0 : Heap) (n0 : Nat) (v : Option Value) (h : Heap) (L : List Loc) : Prop := v = some (.long (0 : Int64)) ∧ Fr n0 L ∧ h = h0
set_option maxRecDepth 65536 in
set_option maxHeartbeats 40000000 in
theorem rm5 (l : Launch) (Z : State) (a0 : Array Value) (hw : ∀ d ∈ tables_1, d.before a0 Z = true) (ws : List Jvm.Cond) (a1 : Addr) (q1 : Int64) (h0 : Heap) (n0 : Nat) (Z0 : n0 ≤ h0.size) (P_F_a1_frames : Fld Z h0 a1 "com/example/attacca/attacca/Varispeed" "frames" "J" (.long q1)) (P_F_a1_speed : Fld Z h0 a1 "com/example/attacca/attacca/Varispeed" "speed" "D" (.double (4607182418800017408 : UInt64))) (P_F_a1_entry : Fld Z h0 a1 "com/example/attacca/attacca/Varispeed" "entry" "J" (.long (0 : Int64))) (P_F_a1_glide : Fld Z h0 a1 "com/example/attacca/attacca/Varispeed" "glide" "J" (.long (0 : Int64))) (P_F_a1_resumed : Fld Z h0 a1 "com/example/attacca/attacca/Varispeed" "resumed" "J" (.long (0 : Int64))) :
    MetFree l (⟨"com/example/attacca/attacca/Varispeed", "entry", "()J"⟩ : MethodName) (head1 (Jvm.Cond.code (⟨"com/example/attacca/attacca/Varispeed", "entry", "()J"⟩ : MethodName) prog_20_method_5_code 1 (some .long) :: ws) ({ frames := 0, cells := 0, slots := 0, locals := 0 } : Room)) (fun a U => a = #[(.ref a1)] ∧ Z.Warmed39 U.vm ∧ U.heap = h0) (fun _ _ _ _ _ => True) (fun _ U o U' => ∃ v L, o = .returned v ∧ Q5 Z a1 q1 h0 n0 v U'.heap L ∧ FrameEnd U o U' L ({ frames := 0, cells := 0, slots := 0, locals := 0 } : Room).cells ({ frames := 0, cells := 0, slots := 0, locals := 0 } : Room).slots) := by
  refine MetFree.of_bodySF (plainFor_of_name pn_com_example_attacca_attacca_Varispeed) hisR ?_
  intro p e s m args below meth c s₁ Bd hml0 hP hK
  obtain ⟨rfl, hZ, hh⟩ := hP
  have hx := Bd.exec
  have hby := Bd.bytes
  have hml : c.maxLocals = 1 := hml0
  have hown : s.vm.findClass "com/example/attacca/attacca/Varispeed" = some m.cls := findClass_of_methodNamed Bd.named
  have hnm := (name_of_methodNamed Bd.named Bd.method).1
  have X0 : Stand p l e ({ frames := 0, cells := 0, slots := 0, locals := 0 } : Room) s m #[(.ref a1)] below meth c s₁ [] 0 0 := Stand.of_body Bd
  have e0 : s₁.heap = h0 := by rw [← hh, Bd.state]; rfl
  have N0 := Fr.nil n0
  have pre0 : ∀ t, Steps p.tables e below (s₁.setTop (mkF m 0 #[.val (.ref a1)] [])) t → Steps p.tables e below (s₁.setTop (entryFrame m #[(.ref a1)] 1)) t := fun t k => castTop (ef_5 m a1) k
  obtain ⟨T1, X1, e1, st1⟩ := getF X0 hx hZ hown (host := "") (Or.inl (hw _ (List.mem_of_getElem? (i := 16) rfl))) Via.refl e0 P_F_a1_entry (g := (mkF m 1 #[.val (.ref a1)] [(.ref a1)])) rfl rfl (hb hby d5_1)
  have pre2 : ∀ t, Steps p.tables e below (T1.setTop (mkF m 4 #[.val (.ref a1)] [(.long (0 : Int64))])) t → Steps p.tables e below (s₁.setTop (entryFrame m #[(.ref a1)] 1)) t := fun t kt => pre0 t (by
      show Steps p.tables e below (s₁.setTop (mkF m 0 #[.val (.ref a1)] [])) _
      refine XS.aloadN X0.here hx rfl (hb hby d5_0) rfl rfl ?_
      show Steps p.tables e below (s₁.setTop (mkF m 1 #[.val (.ref a1)] [(.ref a1)])) _
      refine st1 _ ?_
      exact kt)
  obtain ⟨fs, hr, hrun, hended, hW, hsame⟩ := X1.leave (v := some (.long (0 : Int64))) (fun h => by rw [Bd.returns] at h; cases h)
  refine ⟨_, _, pre2 _ ?_, hrun, hended, _, _, rfl, ?_, ⟨_, rfl⟩, hW, hsame.mono (by decide) (by decide)⟩
  · show Steps p.tables e below (T1.setTop (mkF m 4 #[.val (.ref a1)] [(.long (0 : Int64))])) _
    exact own_retJ X1 hx Bd.returns (hb hby d5_4) hr
  · show Q5 Z a1 q1 h0 n0 _ T1.heap _
    rw [e1]
    exact ⟨rfl, N0, rfl⟩
theorem ef_6 (m : MethodId) (a1 : Addr) : entryFrame m #[(.ref a1)] 1 = mkF m 0 #[.val (.ref a1)] [] := by first | (simp [entryFrame, mkF, argsToLocals, Value.category]; done) | rfl
theorem d6_0 : decode prog_20_method_6_code 0 = .ok (.aload_n 0, 1) := by decide +kernel
theorem d6_1 : decode prog_20_method_6_code 1 = .ok (.getfield 17, 3) := by decide +kernel
theorem d6_4 : decode prog_20_method_6_code 4 = .ok (.aload_n 0, 1) := by decide +kernel
theorem d6_5 : decode prog_20_method_6_code 5 = .ok (.getfield 20, 3) := by decide +kernel
theorem d6_8 : decode prog_20_method_6_code 8 = .ok (.ladd, 1) := by decide +kernel
theorem d6_9 : decode prog_20_method_6_code 9 = .ok (.lreturn, 1) := by decide +kernel
def Q6 (Z : State) (a1 : Addr) (q1 : Int64) (h0 : Heap) (n0 : Nat) (v : Option Value) (h : Heap) (L : List Loc) : Prop := v = some (.long (0 : Int64)) ∧ Fr n0 L ∧ h = h0
set_option maxRecDepth 65536 in
set_option maxHeartbeats 40000000 in
theorem rm6 (l : Launch) (Z : State) (a0 : Array Value) (hw : ∀ d ∈ tables_1, d.before a0 Z = true) (ws : List Jvm.Cond) (a1 : Addr) (q1 : Int64) (h0 : Heap) (n0 : Nat) (Z0 : n0 ≤ h0.size) (P_F_a1_frames : Fld Z h0 a1 "com/example/attacca/attacca/Varispeed" "frames" "J" (.long q1)) (P_F_a1_speed : Fld Z h0 a1 "com/example/attacca/attacca/Varispeed" "speed" "D" (.double (4607182418800017408 : UInt64))) (P_F_a1_entry : Fld Z h0 a1 "com/example/attacca/attacca/Varispeed" "entry" "J" (.long (0 : Int64))) (P_F_a1_glide : Fld Z h0 a1 "com/example/attacca/attacca/Varispeed" "glide" "J" (.long (0 : Int64))) (P_F_a1_resumed : Fld Z h0 a1 "com/example/attacca/attacca/Varispeed" "resumed" "J" (.long (0 : Int64))) :
    MetFree l (⟨"com/example/attacca/attacca/Varispeed", "steadyFrom", "()J"⟩ : MethodName) (head1 (Jvm.Cond.code (⟨"com/example/attacca/attacca/Varispeed", "steadyFrom", "()J"⟩ : MethodName) prog_20_method_6_code 1 (some .long) :: ws) ({ frames := 0, cells := 0, slots := 0, locals := 0 } : Room)) (fun a U => a = #[(.ref a1)] ∧ Z.Warmed39 U.vm ∧ U.heap = h0) (fun _ _ _ _ _ => True) (fun _ U o U' => ∃ v L, o = .returned v ∧ Q6 Z a1 q1 h0 n0 v U'.heap L ∧ FrameEnd U o U' L ({ frames := 0, cells := 0, slots := 0, locals := 0 } : Room).cells ({ frames := 0, cells := 0, slots := 0, locals := 0 } : Room).slots) := by
  refine MetFree.of_bodySF (plainFor_of_name pn_com_example_attacca_attacca_Varispeed) hisR ?_
  intro p e s m args below meth c s₁ Bd hml0 hP hK
  obtain ⟨rfl, hZ, hh⟩ := hP
  have hx := Bd.exec
  have hby := Bd.bytes
  have hml : c.maxLocals = 1 := hml0
  have hown : s.vm.findClass "com/example/attacca/attacca/Varispeed" = some m.cls := findClass_of_methodNamed Bd.named
  have hnm := (name_of_methodNamed Bd.named Bd.method).1
  have X0 : Stand p l e ({ frames := 0, cells := 0, slots := 0, locals := 0 } : Room) s m #[(.ref a1)] below meth c s₁ [] 0 0 := Stand.of_body Bd
  have e0 : s₁.heap = h0 := by rw [← hh, Bd.state]; rfl
  have N0 := Fr.nil n0
  have pre0 : ∀ t, Steps p.tables e below (s₁.setTop (mkF m 0 #[.val (.ref a1)] [])) t → Steps p.tables e below (s₁.setTop (entryFrame m #[(.ref a1)] 1)) t := fun t k => castTop (ef_6 m a1) k
  obtain ⟨T1, X1, e1, st1⟩ := getF X0 hx hZ hown (host := "") (Or.inl (hw _ (List.mem_of_getElem? (i := 16) rfl))) Via.refl e0 P_F_a1_entry (g := (mkF m 1 #[.val (.ref a1)] [(.ref a1)])) rfl rfl (hb hby d6_1)
  obtain ⟨T2, X2, e2, st2⟩ := getF X1 hx hZ hown (host := "") (Or.inl (hw _ (List.mem_of_getElem? (i := 18) rfl))) Via.refl e1 P_F_a1_glide (g := (mkF m 5 #[.val (.ref a1)] [(.ref a1), (.long (0 : Int64))])) rfl rfl (hb hby d6_5)
  have pre3 : ∀ t, Steps p.tables e below (T2.setTop (mkF m 9 #[.val (.ref a1)] [(.long (0 : Int64))])) t → Steps p.tables e below (s₁.setTop (entryFrame m #[(.ref a1)] 1)) t := fun t kt => pre0 t (by
      show Steps p.tables e below (s₁.setTop (mkF m 0 #[.val (.ref a1)] [])) _
      refine XS.aloadN X0.here hx rfl (hb hby d6_0) rfl rfl ?_
      show Steps p.tables e below (s₁.setTop (mkF m 1 #[.val (.ref a1)] [(.ref a1)])) _
      refine st1 _ ?_
      show Steps p.tables e below (T1.setTop (mkF m 4 #[.val (.ref a1)] [(.long (0 : Int64))])) _
      refine XS.aloadN X1.here hx rfl (hb hby d6_4) rfl rfl ?_
      show Steps p.tables e below (T1.setTop (mkF m 5 #[.val (.ref a1)] [(.ref a1), (.long (0 : Int64))])) _
      refine st2 _ ?_
      show Steps p.tables e below (T2.setTop (mkF m 8 #[.val (.ref a1)] [(.long (0 : Int64)), (.long (0 : Int64))])) _
      refine XS.ladd X2.here hx rfl (hb hby d6_8) rfl ?_
      exact kt)
  obtain ⟨fs, hr, hrun, hended, hW, hsame⟩ := X2.leave (v := some (.long (0 : Int64))) (fun h => by rw [Bd.returns] at h; cases h)
  refine ⟨_, _, pre3 _ ?_, hrun, hended, _, _, rfl, ?_, ⟨_, rfl⟩, hW, hsame.mono (by decide) (by decide)⟩
  · show Steps p.tables e below (T2.setTop (mkF m 9 #[.val (.ref a1)] [(.long (0 : Int64))])) _
    exact own_retJ X2 hx Bd.returns (hb hby d6_9) hr
  · show Q6 Z a1 q1 h0 n0 _ T2.heap _
    rw [e2]
    exact ⟨rfl, N0, rfl⟩
theorem ef_7 (m : MethodId) (a1 : Addr) : entryFrame m #[(.ref a1)] 1 = mkF m 0 #[.val (.ref a1)] [] := by first | (simp [entryFrame, mkF, argsToLocals, Value.category]; done) | rfl
theorem d7_0 : decode prog_20_method_7_code 0 = .ok (.aload_n 0, 1) := by decide +kernel
theorem d7_1 : decode prog_20_method_7_code 1 = .ok (.getfield 23, 3) := by decide +kernel
theorem d7_4 : decode prog_20_method_7_code 4 = .ok (.lreturn, 1) := by decide +kernel
def Q7 (Z : State) (a1 : Addr) (q1 : Int64) (h0 : Heap) (n0 : Nat) (v : Option Value) (h : Heap) (L : List Loc) : Prop := v = some (.long (0 : Int64)) ∧ Fr n0 L ∧ h = h0
set_option maxRecDepth 65536 in
set_option maxHeartbeats 40000000 in
theorem rm7 (l : Launch) (Z : State) (a0 : Array Value) (hw : ∀ d ∈ tables_1, d.before a0 Z = true) (ws : List Jvm.Cond) (a1 : Addr) (q1 : Int64) (h0 : Heap) (n0 : Nat) (Z0 : n0 ≤ h0.size) (P_F_a1_frames : Fld Z h0 a1 "com/example/attacca/attacca/Varispeed" "frames" "J" (.long q1)) (P_F_a1_speed : Fld Z h0 a1 "com/example/attacca/attacca/Varispeed" "speed" "D" (.double (4607182418800017408 : UInt64))) (P_F_a1_entry : Fld Z h0 a1 "com/example/attacca/attacca/Varispeed" "entry" "J" (.long (0 : Int64))) (P_F_a1_glide : Fld Z h0 a1 "com/example/attacca/attacca/Varispeed" "glide" "J" (.long (0 : Int64))) (P_F_a1_resumed : Fld Z h0 a1 "com/example/attacca/attacca/Varispeed" "resumed" "J" (.long (0 : Int64))) :
    MetFree l (⟨"com/example/attacca/attacca/Varispeed", "resumed", "()J"⟩ : MethodName) (head1 (Jvm.Cond.code (⟨"com/example/attacca/attacca/Varispeed", "resumed", "()J"⟩ : MethodName) prog_20_method_7_code 1 (some .long) :: ws) ({ frames := 0, cells := 0, slots := 0, locals := 0 } : Room)) (fun a U => a = #[(.ref a1)] ∧ Z.Warmed39 U.vm ∧ U.heap = h0) (fun _ _ _ _ _ => True) (fun _ U o U' => ∃ v L, o = .returned v ∧ Q7 Z a1 q1 h0 n0 v U'.heap L ∧ FrameEnd U o U' L ({ frames := 0, cells := 0, slots := 0, locals := 0 } : Room).cells ({ frames := 0, cells := 0, slots := 0, locals := 0 } : Room).slots) := by
  refine MetFree.of_bodySF (plainFor_of_name pn_com_example_attacca_attacca_Varispeed) hisR ?_
  intro p e s m args below meth c s₁ Bd hml0 hP hK
  obtain ⟨rfl, hZ, hh⟩ := hP
  have hx := Bd.exec
  have hby := Bd.bytes
  have hml : c.maxLocals = 1 := hml0
  have hown : s.vm.findClass "com/example/attacca/attacca/Varispeed" = some m.cls := findClass_of_methodNamed Bd.named
  have hnm := (name_of_methodNamed Bd.named Bd.method).1
  have X0 : Stand p l e ({ frames := 0, cells := 0, slots := 0, locals := 0 } : Room) s m #[(.ref a1)] below meth c s₁ [] 0 0 := Stand.of_body Bd
  have e0 : s₁.heap = h0 := by rw [← hh, Bd.state]; rfl
  have N0 := Fr.nil n0
  have pre0 : ∀ t, Steps p.tables e below (s₁.setTop (mkF m 0 #[.val (.ref a1)] [])) t → Steps p.tables e below (s₁.setTop (entryFrame m #[(.ref a1)] 1)) t := fun t k => castTop (ef_7 m a1) k
  obtain ⟨T1, X1, e1, st1⟩ := getF X0 hx hZ hown (host := "") (Or.inl (hw _ (List.mem_of_getElem? (i := 20) rfl))) Via.refl e0 P_F_a1_resumed (g := (mkF m 1 #[.val (.ref a1)] [(.ref a1)])) rfl rfl (hb hby d7_1)
  have pre2 : ∀ t, Steps p.tables e below (T1.setTop (mkF m 4 #[.val (.ref a1)] [(.long (0 : Int64))])) t → Steps p.tables e below (s₁.setTop (entryFrame m #[(.ref a1)] 1)) t := fun t kt => pre0 t (by
      show Steps p.tables e below (s₁.setTop (mkF m 0 #[.val (.ref a1)] [])) _
      refine XS.aloadN X0.here hx rfl (hb hby d7_0) rfl rfl ?_
      show Steps p.tables e below (s₁.setTop (mkF m 1 #[.val (.ref a1)] [(.ref a1)])) _
      refine st1 _ ?_
      exact kt)
  obtain ⟨fs, hr, hrun, hended, hW, hsame⟩ := X1.leave (v := some (.long (0 : Int64))) (fun h => by rw [Bd.returns] at h; cases h)
  refine ⟨_, _, pre2 _ ?_, hrun, hended, _, _, rfl, ?_, ⟨_, rfl⟩, hW, hsame.mono (by decide) (by decide)⟩
  · show Steps p.tables e below (T1.setTop (mkF m 4 #[.val (.ref a1)] [(.long (0 : Int64))])) _
    exact own_retJ X1 hx Bd.returns (hb hby d7_4) hr
  · show Q7 Z a1 q1 h0 n0 _ T1.heap _
    rw [e1]
    exact ⟨rfl, N0, rfl⟩
theorem ef_8 (m : MethodId) (a1 : Addr) : entryFrame m #[(.ref a1)] 1 = mkF m 0 #[.val (.ref a1)] [] := by first | (simp [entryFrame, mkF, argsToLocals, Value.category]; done) | rfl
theorem d8_0 : decode prog_20_method_8_code 0 = .ok (.aload_n 0, 1) := by decide +kernel
theorem d8_1 : decode prog_20_method_8_code 1 = .ok (.getfield 17, 3) := by decide +kernel
theorem d8_4 : decode prog_20_method_8_code 4 = .ok (.aload_n 0, 1) := by decide +kernel
theorem d8_5 : decode prog_20_method_8_code 5 = .ok (.getfield 20, 3) := by decide +kernel
theorem d8_8 : decode prog_20_method_8_code 8 = .ok (.ladd, 1) := by decide +kernel
theorem d8_9 : decode prog_20_method_8_code 9 = .ok (.aload_n 0, 1) := by decide +kernel
theorem d8_10 : decode prog_20_method_8_code 10 = .ok (.getfield 7, 3) := by decide +kernel
theorem d8_13 : decode prog_20_method_8_code 13 = .ok (.ladd, 1) := by decide +kernel
theorem d8_14 : decode prog_20_method_8_code 14 = .ok (.aload_n 0, 1) := by decide +kernel
theorem d8_15 : decode prog_20_method_8_code 15 = .ok (.getfield 23, 3) := by decide +kernel
theorem d8_18 : decode prog_20_method_8_code 18 = .ok (.lsub, 1) := by decide +kernel
theorem d8_19 : decode prog_20_method_8_code 19 = .ok (.lreturn, 1) := by decide +kernel
def Q8 (Z : State) (a1 : Addr) (q1 : Int64) (h0 : Heap) (n0 : Nat) (v : Option Value) (h : Heap) (L : List Loc) : Prop := v = some (.long q1) ∧ Fr n0 L ∧ h = h0
set_option maxRecDepth 65536 in
set_option maxHeartbeats 40000000 in
theorem rm8 (l : Launch) (Z : State) (a0 : Array Value) (hw : ∀ d ∈ tables_1, d.before a0 Z = true) (ws : List Jvm.Cond) (a1 : Addr) (q1 : Int64) (h0 : Heap) (n0 : Nat) (Z0 : n0 ≤ h0.size) (P_F_a1_frames : Fld Z h0 a1 "com/example/attacca/attacca/Varispeed" "frames" "J" (.long q1)) (P_F_a1_speed : Fld Z h0 a1 "com/example/attacca/attacca/Varispeed" "speed" "D" (.double (4607182418800017408 : UInt64))) (P_F_a1_entry : Fld Z h0 a1 "com/example/attacca/attacca/Varispeed" "entry" "J" (.long (0 : Int64))) (P_F_a1_glide : Fld Z h0 a1 "com/example/attacca/attacca/Varispeed" "glide" "J" (.long (0 : Int64))) (P_F_a1_resumed : Fld Z h0 a1 "com/example/attacca/attacca/Varispeed" "resumed" "J" (.long (0 : Int64))) :
    MetFree l (⟨"com/example/attacca/attacca/Varispeed", "length", "()J"⟩ : MethodName) (head1 (Jvm.Cond.code (⟨"com/example/attacca/attacca/Varispeed", "length", "()J"⟩ : MethodName) prog_20_method_8_code 1 (some .long) :: ws) ({ frames := 0, cells := 0, slots := 0, locals := 0 } : Room)) (fun a U => a = #[(.ref a1)] ∧ Z.Warmed39 U.vm ∧ U.heap = h0) (fun _ _ _ _ _ => True) (fun _ U o U' => ∃ v L, o = .returned v ∧ Q8 Z a1 q1 h0 n0 v U'.heap L ∧ FrameEnd U o U' L ({ frames := 0, cells := 0, slots := 0, locals := 0 } : Room).cells ({ frames := 0, cells := 0, slots := 0, locals := 0 } : Room).slots) := by
  refine MetFree.of_bodySF (plainFor_of_name pn_com_example_attacca_attacca_Varispeed) hisR ?_
  intro p e s m args below meth c s₁ Bd hml0 hP hK
  obtain ⟨rfl, hZ, hh⟩ := hP
  have hx := Bd.exec
  have hby := Bd.bytes
  have hml : c.maxLocals = 1 := hml0
  have hown : s.vm.findClass "com/example/attacca/attacca/Varispeed" = some m.cls := findClass_of_methodNamed Bd.named
  have hnm := (name_of_methodNamed Bd.named Bd.method).1
  have X0 : Stand p l e ({ frames := 0, cells := 0, slots := 0, locals := 0 } : Room) s m #[(.ref a1)] below meth c s₁ [] 0 0 := Stand.of_body Bd
  have e0 : s₁.heap = h0 := by rw [← hh, Bd.state]; rfl
  have N0 := Fr.nil n0
  have pre0 : ∀ t, Steps p.tables e below (s₁.setTop (mkF m 0 #[.val (.ref a1)] [])) t → Steps p.tables e below (s₁.setTop (entryFrame m #[(.ref a1)] 1)) t := fun t k => castTop (ef_8 m a1) k
  obtain ⟨T1, X1, e1, st1⟩ := getF X0 hx hZ hown (host := "") (Or.inl (hw _ (List.mem_of_getElem? (i := 16) rfl))) Via.refl e0 P_F_a1_entry (g := (mkF m 1 #[.val (.ref a1)] [(.ref a1)])) rfl rfl (hb hby d8_1)
  obtain ⟨T2, X2, e2, st2⟩ := getF X1 hx hZ hown (host := "") (Or.inl (hw _ (List.mem_of_getElem? (i := 18) rfl))) Via.refl e1 P_F_a1_glide (g := (mkF m 5 #[.val (.ref a1)] [(.ref a1), (.long (0 : Int64))])) rfl rfl (hb hby d8_5)
  obtain ⟨T3, X3, e3, st3⟩ := getF X2 hx hZ hown (host := "") (Or.inl (hw _ (List.mem_of_getElem? (i := 12) rfl))) Via.refl e2 P_F_a1_frames (g := (mkF m 10 #[.val (.ref a1)] [(.ref a1), (.long (0 : Int64))])) rfl rfl (hb hby d8_10)
  obtain ⟨T4, X4, e4, st4⟩ := getF X3 hx hZ hown (host := "") (Or.inl (hw _ (List.mem_of_getElem? (i := 20) rfl))) Via.refl e3 P_F_a1_resumed (g := (mkF m 15 #[.val (.ref a1)] [(.ref a1), (.long ((0 : Int64) + q1))])) rfl rfl (hb hby d8_15)
  have pre5 : ∀ t, Steps p.tables e below (T4.setTop (mkF m 19 #[.val (.ref a1)] [(.long (((0 : Int64) + q1) - (0 : Int64)))])) t → Steps p.tables e below (s₁.setTop (entryFrame m #[(.ref a1)] 1)) t := fun t kt => pre0 t (by
      show Steps p.tables e below (s₁.setTop (mkF m 0 #[.val (.ref a1)] [])) _
      refine XS.aloadN X0.here hx rfl (hb hby d8_0) rfl rfl ?_
      show Steps p.tables e below (s₁.setTop (mkF m 1 #[.val (.ref a1)] [(.ref a1)])) _
      refine st1 _ ?_
      show Steps p.tables e below (T1.setTop (mkF m 4 #[.val (.ref a1)] [(.long (0 : Int64))])) _
      refine XS.aloadN X1.here hx rfl (hb hby d8_4) rfl rfl ?_
      show Steps p.tables e below (T1.setTop (mkF m 5 #[.val (.ref a1)] [(.ref a1), (.long (0 : Int64))])) _
      refine st2 _ ?_
      show Steps p.tables e below (T2.setTop (mkF m 8 #[.val (.ref a1)] [(.long (0 : Int64)), (.long (0 : Int64))])) _
      refine XS.ladd X2.here hx rfl (hb hby d8_8) rfl ?_
      show Steps p.tables e below (T2.setTop (mkF m 9 #[.val (.ref a1)] [(.long (0 : Int64))])) _
      refine XS.aloadN X2.here hx rfl (hb hby d8_9) rfl rfl ?_
      show Steps p.tables e below (T2.setTop (mkF m 10 #[.val (.ref a1)] [(.ref a1), (.long (0 : Int64))])) _
      refine st3 _ ?_
      show Steps p.tables e below (T3.setTop (mkF m 13 #[.val (.ref a1)] [(.long q1), (.long (0 : Int64))])) _
      refine XS.ladd X3.here hx rfl (hb hby d8_13) rfl ?_
      show Steps p.tables e below (T3.setTop (mkF m 14 #[.val (.ref a1)] [(.long ((0 : Int64) + q1))])) _
      refine XS.aloadN X3.here hx rfl (hb hby d8_14) rfl rfl ?_
      show Steps p.tables e below (T3.setTop (mkF m 15 #[.val (.ref a1)] [(.ref a1), (.long ((0 : Int64) + q1))])) _
      refine st4 _ ?_
      show Steps p.tables e below (T4.setTop (mkF m 18 #[.val (.ref a1)] [(.long (0 : Int64)), (.long ((0 : Int64) + q1))])) _
      refine XS.lsub X4.here hx rfl (hb hby d8_18) rfl ?_
      exact kt)
  obtain ⟨fs, hr, hrun, hended, hW, hsame⟩ := X4.leave (v := some (.long (((0 : Int64) + q1) - (0 : Int64)))) (fun h => by rw [Bd.returns] at h; cases h)
  refine ⟨_, _, pre5 _ ?_, hrun, hended, _, _, rfl, ?_, ⟨_, rfl⟩, hW, hsame.mono (by decide) (by decide)⟩
  · show Steps p.tables e below (T4.setTop (mkF m 19 #[.val (.ref a1)] [(.long (((0 : Int64) + q1) - (0 : Int64)))])) _
    exact own_retJ X4 hx Bd.returns (hb hby d8_19) hr
  · show Q8 Z a1 q1 h0 n0 _ T4.heap _
    rw [e4]
    exact ⟨(by simp), N0, rfl⟩
theorem ef_10 (m : MethodId) (a1 : Addr) (q2 : Int64) : entryFrame m #[(.ref a1), (.long q2)] 3 = mkF m 0 #[.val (.ref a1), .val (.long q2), .second] [] := by first | (simp [entryFrame, mkF, argsToLocals, Value.category]; done) | rfl
theorem d10_0 : decode prog_20_method_10_code 0 = .ok (.aload_n 0, 1) := by decide +kernel
theorem d10_1 : decode prog_20_method_10_code 1 = .ok (.getfield 17, 3) := by decide +kernel
theorem d10_4 : decode prog_20_method_10_code 4 = .ok (.aload_n 0, 1) := by decide +kernel
theorem d10_5 : decode prog_20_method_10_code 5 = .ok (.getfield 20, 3) := by decide +kernel
theorem d10_8 : decode prog_20_method_10_code 8 = .ok (.ladd, 1) := by decide +kernel
theorem d10_9 : decode prog_20_method_10_code 9 = .ok (.lload_n 1, 1) := by decide +kernel
theorem d10_10 : decode prog_20_method_10_code 10 = .ok (.ladd, 1) := by decide +kernel
theorem d10_11 : decode prog_20_method_10_code 11 = .ok (.aload_n 0, 1) := by decide +kernel
theorem d10_12 : decode prog_20_method_10_code 12 = .ok (.getfield 23, 3) := by decide +kernel
theorem d10_15 : decode prog_20_method_10_code 15 = .ok (.lsub, 1) := by decide +kernel
theorem d10_16 : decode prog_20_method_10_code 16 = .ok (.lreturn, 1) := by decide +kernel
def Q10 (Z : State) (a1 : Addr) (q2 : Int64) (q1 : Int64) (h0 : Heap) (n0 : Nat) (v : Option Value) (h : Heap) (L : List Loc) : Prop := v = some (.long q2) ∧ Fr n0 L ∧ h = h0
set_option maxRecDepth 65536 in
set_option maxHeartbeats 40000000 in
theorem rm10 (l : Launch) (Z : State) (a0 : Array Value) (hw : ∀ d ∈ tables_1, d.before a0 Z = true) (ws : List Jvm.Cond) (a1 : Addr) (q2 : Int64) (q1 : Int64) (h0 : Heap) (n0 : Nat) (Z0 : n0 ≤ h0.size) (P_F_a1_frames : Fld Z h0 a1 "com/example/attacca/attacca/Varispeed" "frames" "J" (.long q1)) (P_F_a1_speed : Fld Z h0 a1 "com/example/attacca/attacca/Varispeed" "speed" "D" (.double (4607182418800017408 : UInt64))) (P_F_a1_entry : Fld Z h0 a1 "com/example/attacca/attacca/Varispeed" "entry" "J" (.long (0 : Int64))) (P_F_a1_glide : Fld Z h0 a1 "com/example/attacca/attacca/Varispeed" "glide" "J" (.long (0 : Int64))) (P_F_a1_resumed : Fld Z h0 a1 "com/example/attacca/attacca/Varispeed" "resumed" "J" (.long (0 : Int64))) :
    MetFree l (⟨"com/example/attacca/attacca/Varispeed", "mixFrame", "(J)J"⟩ : MethodName) (head1 (Jvm.Cond.code (⟨"com/example/attacca/attacca/Varispeed", "mixFrame", "(J)J"⟩ : MethodName) prog_20_method_10_code 3 (some .long) :: ws) ({ frames := 0, cells := 0, slots := 0, locals := 0 } : Room)) (fun a U => a = #[(.ref a1), (.long q2)] ∧ Z.Warmed39 U.vm ∧ U.heap = h0) (fun _ _ _ _ _ => True) (fun _ U o U' => ∃ v L, o = .returned v ∧ Q10 Z a1 q2 q1 h0 n0 v U'.heap L ∧ FrameEnd U o U' L ({ frames := 0, cells := 0, slots := 0, locals := 0 } : Room).cells ({ frames := 0, cells := 0, slots := 0, locals := 0 } : Room).slots) := by
  refine MetFree.of_bodySF (plainFor_of_name pn_com_example_attacca_attacca_Varispeed) hisR ?_
  intro p e s m args below meth c s₁ Bd hml0 hP hK
  obtain ⟨rfl, hZ, hh⟩ := hP
  have hx := Bd.exec
  have hby := Bd.bytes
  have hml : c.maxLocals = 3 := hml0
  have hown : s.vm.findClass "com/example/attacca/attacca/Varispeed" = some m.cls := findClass_of_methodNamed Bd.named
  have hnm := (name_of_methodNamed Bd.named Bd.method).1
  have X0 : Stand p l e ({ frames := 0, cells := 0, slots := 0, locals := 0 } : Room) s m #[(.ref a1), (.long q2)] below meth c s₁ [] 0 0 := Stand.of_body Bd
  have e0 : s₁.heap = h0 := by rw [← hh, Bd.state]; rfl
  have N0 := Fr.nil n0
  have pre0 : ∀ t, Steps p.tables e below (s₁.setTop (mkF m 0 #[.val (.ref a1), .val (.long q2), .second] [])) t → Steps p.tables e below (s₁.setTop (entryFrame m #[(.ref a1), (.long q2)] 3)) t := fun t k => castTop (ef_10 m a1 q2) k
  obtain ⟨T1, X1, e1, st1⟩ := getF X0 hx hZ hown (host := "") (Or.inl (hw _ (List.mem_of_getElem? (i := 16) rfl))) Via.refl e0 P_F_a1_entry (g := (mkF m 1 #[.val (.ref a1), .val (.long q2), .second] [(.ref a1)])) rfl rfl (hb hby d10_1)
  obtain ⟨T2, X2, e2, st2⟩ := getF X1 hx hZ hown (host := "") (Or.inl (hw _ (List.mem_of_getElem? (i := 18) rfl))) Via.refl e1 P_F_a1_glide (g := (mkF m 5 #[.val (.ref a1), .val (.long q2), .second] [(.ref a1), (.long (0 : Int64))])) rfl rfl (hb hby d10_5)
  obtain ⟨T3, X3, e3, st3⟩ := getF X2 hx hZ hown (host := "") (Or.inl (hw _ (List.mem_of_getElem? (i := 20) rfl))) Via.refl e2 P_F_a1_resumed (g := (mkF m 12 #[.val (.ref a1), .val (.long q2), .second] [(.ref a1), (.long ((0 : Int64) + q2))])) rfl rfl (hb hby d10_12)
  have pre4 : ∀ t, Steps p.tables e below (T3.setTop (mkF m 16 #[.val (.ref a1), .val (.long q2), .second] [(.long (((0 : Int64) + q2) - (0 : Int64)))])) t → Steps p.tables e below (s₁.setTop (entryFrame m #[(.ref a1), (.long q2)] 3)) t := fun t kt => pre0 t (by
      show Steps p.tables e below (s₁.setTop (mkF m 0 #[.val (.ref a1), .val (.long q2), .second] [])) _
      refine XS.aloadN X0.here hx rfl (hb hby d10_0) rfl rfl ?_
      show Steps p.tables e below (s₁.setTop (mkF m 1 #[.val (.ref a1), .val (.long q2), .second] [(.ref a1)])) _
      refine st1 _ ?_
      show Steps p.tables e below (T1.setTop (mkF m 4 #[.val (.ref a1), .val (.long q2), .second] [(.long (0 : Int64))])) _
      refine XS.aloadN X1.here hx rfl (hb hby d10_4) rfl rfl ?_
      show Steps p.tables e below (T1.setTop (mkF m 5 #[.val (.ref a1), .val (.long q2), .second] [(.ref a1), (.long (0 : Int64))])) _
      refine st2 _ ?_
      show Steps p.tables e below (T2.setTop (mkF m 8 #[.val (.ref a1), .val (.long q2), .second] [(.long (0 : Int64)), (.long (0 : Int64))])) _
      refine XS.ladd X2.here hx rfl (hb hby d10_8) rfl ?_
      show Steps p.tables e below (T2.setTop (mkF m 9 #[.val (.ref a1), .val (.long q2), .second] [(.long (0 : Int64))])) _
      refine XS.lloadN X2.here hx rfl (hb hby d10_9) rfl ?_
      show Steps p.tables e below (T2.setTop (mkF m 10 #[.val (.ref a1), .val (.long q2), .second] [(.long q2), (.long (0 : Int64))])) _
      refine XS.ladd X2.here hx rfl (hb hby d10_10) rfl ?_
      show Steps p.tables e below (T2.setTop (mkF m 11 #[.val (.ref a1), .val (.long q2), .second] [(.long ((0 : Int64) + q2))])) _
      refine XS.aloadN X2.here hx rfl (hb hby d10_11) rfl rfl ?_
      show Steps p.tables e below (T2.setTop (mkF m 12 #[.val (.ref a1), .val (.long q2), .second] [(.ref a1), (.long ((0 : Int64) + q2))])) _
      refine st3 _ ?_
      show Steps p.tables e below (T3.setTop (mkF m 15 #[.val (.ref a1), .val (.long q2), .second] [(.long (0 : Int64)), (.long ((0 : Int64) + q2))])) _
      refine XS.lsub X3.here hx rfl (hb hby d10_15) rfl ?_
      exact kt)
  obtain ⟨fs, hr, hrun, hended, hW, hsame⟩ := X3.leave (v := some (.long (((0 : Int64) + q2) - (0 : Int64)))) (fun h => by rw [Bd.returns] at h; cases h)
  refine ⟨_, _, pre4 _ ?_, hrun, hended, _, _, rfl, ?_, ⟨_, rfl⟩, hW, hsame.mono (by decide) (by decide)⟩
  · show Steps p.tables e below (T3.setTop (mkF m 16 #[.val (.ref a1), .val (.long q2), .second] [(.long (((0 : Int64) + q2) - (0 : Int64)))])) _
    exact own_retJ X3 hx Bd.returns (hb hby d10_16) hr
  · show Q10 Z a1 q2 q1 h0 n0 _ T3.heap _
    rw [e3]
    exact ⟨(by simp), N0, rfl⟩
theorem ef_9 (m : MethodId) (a1 : Addr) (q2 : Int64) : entryFrame m #[(.ref a1), (.long q2)] 11 = mkF m 0 #[.val (.ref a1), .val (.long q2), .second, .unset, .unset, .unset, .unset, .unset, .unset, .unset, .unset] [] := by first | (simp [entryFrame, mkF, argsToLocals, Value.category]; done) | rfl
theorem d9_0 : decode prog_20_method_9_code 0 = .ok (.lload_n 1, 1) := by decide +kernel
theorem d9_1 : decode prog_20_method_9_code 1 = .ok (.aload_n 0, 1) := by decide +kernel
theorem d9_2 : decode prog_20_method_9_code 2 = .ok (.getfield 17, 3) := by decide +kernel
theorem d9_5 : decode prog_20_method_9_code 5 = .ok (.lcmp, 1) := by decide +kernel
theorem d9_6 : decode prog_20_method_9_code 6 = .ok (.ifCond .ge 14, 3) := by decide +kernel
theorem d9_9 : decode prog_20_method_9_code 9 = .ok (.aload_n 0, 1) := by decide +kernel
theorem d9_10 : decode prog_20_method_9_code 10 = .ok (.getfield 13, 3) := by decide +kernel
theorem d9_13 : decode prog_20_method_9_code 13 = .ok (.lload_n 1, 1) := by decide +kernel
theorem d9_14 : decode prog_20_method_9_code 14 = .ok (.l2d, 1) := by decide +kernel
theorem d9_15 : decode prog_20_method_9_code 15 = .ok (.dmul, 1) := by decide +kernel
theorem d9_16 : decode prog_20_method_9_code 16 = .ok (.dstore_n 3, 1) := by decide +kernel
theorem d9_17 : decode prog_20_method_9_code 17 = .ok (.goto 150, 3) := by decide +kernel
theorem d9_167 : decode prog_20_method_9_code 167 = .ok (.dload_n 3, 1) := by decide +kernel
theorem d9_168 : decode prog_20_method_9_code 168 = .ok (.dreturn, 1) := by decide +kernel
theorem d9_20 : decode prog_20_method_9_code 20 = .ok (.lload_n 1, 1) := by decide +kernel
theorem d9_21 : decode prog_20_method_9_code 21 = .ok (.aload_n 0, 1) := by decide +kernel
theorem d9_22 : decode prog_20_method_9_code 22 = .ok (.getfield 17, 3) := by decide +kernel
theorem d9_25 : decode prog_20_method_9_code 25 = .ok (.aload_n 0, 1) := by decide +kernel
theorem d9_26 : decode prog_20_method_9_code 26 = .ok (.getfield 20, 3) := by decide +kernel
theorem d9_29 : decode prog_20_method_9_code 29 = .ok (.ladd, 1) := by decide +kernel
theorem d9_30 : decode prog_20_method_9_code 30 = .ok (.lcmp, 1) := by decide +kernel
theorem d9_31 : decode prog_20_method_9_code 31 = .ok (.ifCond .ge 118, 3) := by decide +kernel
theorem d9_149 : decode prog_20_method_9_code 149 = .ok (.aload_n 0, 1) := by decide +kernel
theorem d9_150 : decode prog_20_method_9_code 150 = .ok (.getfield 23, 3) := by decide +kernel
theorem d9_153 : decode prog_20_method_9_code 153 = .ok (.lload_n 1, 1) := by decide +kernel
theorem d9_154 : decode prog_20_method_9_code 154 = .ok (.aload_n 0, 1) := by decide +kernel
theorem d9_155 : decode prog_20_method_9_code 155 = .ok (.getfield 17, 3) := by decide +kernel
theorem d9_158 : decode prog_20_method_9_code 158 = .ok (.lsub, 1) := by decide +kernel
theorem d9_159 : decode prog_20_method_9_code 159 = .ok (.aload_n 0, 1) := by decide +kernel
theorem d9_160 : decode prog_20_method_9_code 160 = .ok (.getfield 20, 3) := by decide +kernel
theorem d9_163 : decode prog_20_method_9_code 163 = .ok (.lsub, 1) := by decide +kernel
theorem d9_164 : decode prog_20_method_9_code 164 = .ok (.ladd, 1) := by decide +kernel
theorem d9_165 : decode prog_20_method_9_code 165 = .ok (.l2d, 1) := by decide +kernel
theorem d9_166 : decode prog_20_method_9_code 166 = .ok (.dstore_n 3, 1) := by decide +kernel
def Q9 (Z : State) (a1 : Addr) (q2 : Int64) (q1 : Int64) (h0 : Heap) (n0 : Nat) (v : Option Value) (h : Heap) (L : List Loc) : Prop := v = some (.double (FP.l2d q2)) ∧ Fr n0 L ∧ h = h0
set_option maxRecDepth 65536 in
set_option maxHeartbeats 40000000 in
theorem rm9 (l : Launch) (Z : State) (a0 : Array Value) (hw : ∀ d ∈ tables_1, d.before a0 Z = true) (ws : List Jvm.Cond) (a1 : Addr) (q2 : Int64) (q1 : Int64) (h0 : Heap) (n0 : Nat) (Z0 : n0 ≤ h0.size) (P_F_a1_frames : Fld Z h0 a1 "com/example/attacca/attacca/Varispeed" "frames" "J" (.long q1)) (P_F_a1_speed : Fld Z h0 a1 "com/example/attacca/attacca/Varispeed" "speed" "D" (.double (4607182418800017408 : UInt64))) (P_F_a1_entry : Fld Z h0 a1 "com/example/attacca/attacca/Varispeed" "entry" "J" (.long (0 : Int64))) (P_F_a1_glide : Fld Z h0 a1 "com/example/attacca/attacca/Varispeed" "glide" "J" (.long (0 : Int64))) (P_F_a1_resumed : Fld Z h0 a1 "com/example/attacca/attacca/Varispeed" "resumed" "J" (.long (0 : Int64))) :
    MetFree l (⟨"com/example/attacca/attacca/Varispeed", "position", "(J)D"⟩ : MethodName) (head1 (Jvm.Cond.code (⟨"com/example/attacca/attacca/Varispeed", "position", "(J)D"⟩ : MethodName) prog_20_method_9_code 11 (some .double) :: ws) ({ frames := 0, cells := 0, slots := 0, locals := 0 } : Room)) (fun a U => a = #[(.ref a1), (.long q2)] ∧ Z.Warmed39 U.vm ∧ U.heap = h0) (fun _ _ _ _ _ => True) (fun _ U o U' => ∃ v L, o = .returned v ∧ Q9 Z a1 q2 q1 h0 n0 v U'.heap L ∧ FrameEnd U o U' L ({ frames := 0, cells := 0, slots := 0, locals := 0 } : Room).cells ({ frames := 0, cells := 0, slots := 0, locals := 0 } : Room).slots) := by
  refine MetFree.of_bodySF (plainFor_of_name pn_com_example_attacca_attacca_Varispeed) hisR ?_
  intro p e s m args below meth c s₁ Bd hml0 hP hK
  obtain ⟨rfl, hZ, hh⟩ := hP
  have hx := Bd.exec
  have hby := Bd.bytes
  have hml : c.maxLocals = 11 := hml0
  have hown : s.vm.findClass "com/example/attacca/attacca/Varispeed" = some m.cls := findClass_of_methodNamed Bd.named
  have hnm := (name_of_methodNamed Bd.named Bd.method).1
  have X0 : Stand p l e ({ frames := 0, cells := 0, slots := 0, locals := 0 } : Room) s m #[(.ref a1), (.long q2)] below meth c s₁ [] 0 0 := Stand.of_body Bd
  have e0 : s₁.heap = h0 := by rw [← hh, Bd.state]; rfl
  have N0 := Fr.nil n0
  have pre0 : ∀ t, Steps p.tables e below (s₁.setTop (mkF m 0 #[.val (.ref a1), .val (.long q2), .second, .unset, .unset, .unset, .unset, .unset, .unset, .unset, .unset] [])) t → Steps p.tables e below (s₁.setTop (entryFrame m #[(.ref a1), (.long q2)] 11)) t := fun t k => castTop (ef_9 m a1 q2) k
  obtain ⟨T1, X1, e1, st1⟩ := getF X0 hx hZ hown (host := "") (Or.inl (hw _ (List.mem_of_getElem? (i := 16) rfl))) Via.refl e0 P_F_a1_entry (g := (mkF m 2 #[.val (.ref a1), .val (.long q2), .second, .unset, .unset, .unset, .unset, .unset, .unset, .unset, .unset] [(.ref a1), (.long q2)])) rfl rfl (hb hby d9_2)
  have pre2 : ∀ t, Steps p.tables e below (T1.setTop (mkF m 6 #[.val (.ref a1), .val (.long q2), .second, .unset, .unset, .unset, .unset, .unset, .unset, .unset, .unset] [(.int (lcmpW q2 (0 : Int64)))])) t → Steps p.tables e below (s₁.setTop (entryFrame m #[(.ref a1), (.long q2)] 11)) t := fun t kt => pre0 t (by
      show Steps p.tables e below (s₁.setTop (mkF m 0 #[.val (.ref a1), .val (.long q2), .second, .unset, .unset, .unset, .unset, .unset, .unset, .unset, .unset] [])) _
      refine XS.lloadN X0.here hx rfl (hb hby d9_0) rfl ?_
      show Steps p.tables e below (s₁.setTop (mkF m 1 #[.val (.ref a1), .val (.long q2), .second, .unset, .unset, .unset, .unset, .unset, .unset, .unset, .unset] [(.long q2)])) _
      refine XS.aloadN X0.here hx rfl (hb hby d9_1) rfl rfl ?_
      show Steps p.tables e below (s₁.setTop (mkF m 2 #[.val (.ref a1), .val (.long q2), .second, .unset, .unset, .unset, .unset, .unset, .unset, .unset, .unset] [(.ref a1), (.long q2)])) _
      refine st1 _ ?_
      show Steps p.tables e below (T1.setTop (mkF m 5 #[.val (.ref a1), .val (.long q2), .second, .unset, .unset, .unset, .unset, .unset, .unset, .unset, .unset] [(.long (0 : Int64)), (.long q2)])) _
      refine XS.lcmp X1.here hx rfl (hb hby d9_5) rfl ?_
      exact kt)
  by_cases hp : (lcmpW q2 (0 : Int64)) < (0 : Int32)
  · skip
    obtain ⟨T3, X3, e3, st3⟩ := getF X1 hx hZ hown (host := "") (Or.inl (hw _ (List.mem_of_getElem? (i := 14) rfl))) Via.refl e1 P_F_a1_speed (g := (mkF m 10 #[.val (.ref a1), .val (.long q2), .second, .unset, .unset, .unset, .unset, .unset, .unset, .unset, .unset] [(.ref a1)])) rfl rfl (hb hby d9_10)
    have pre4 : ∀ t, Steps p.tables e below (T3.setTop (mkF m 168 #[.val (.ref a1), .val (.long q2), .second, .val (.double (FP.l2d q2)), .second, .unset, .unset, .unset, .unset, .unset, .unset] [(.double (FP.l2d q2))])) t → Steps p.tables e below (s₁.setTop (entryFrame m #[(.ref a1), (.long q2)] 11)) t := fun t kt => pre2 t (by
        show Steps p.tables e below (T1.setTop (mkF m 6 #[.val (.ref a1), .val (.long q2), .second, .unset, .unset, .unset, .unset, .unset, .unset, .unset, .unset] [(.int (lcmpW q2 (0 : Int64)))])) _
        refine XS.ifNo X1.here hx rfl (hb hby d9_6) rfl ((if0 _ _).trans (tlt (hp : (lcmpW q2 (0 : Int64)) < (0 : Int32))).2.1) ?_
        show Steps p.tables e below (T1.setTop (mkF m 9 #[.val (.ref a1), .val (.long q2), .second, .unset, .unset, .unset, .unset, .unset, .unset, .unset, .unset] [])) _
        refine XS.aloadN X1.here hx rfl (hb hby d9_9) rfl rfl ?_
        show Steps p.tables e below (T1.setTop (mkF m 10 #[.val (.ref a1), .val (.long q2), .second, .unset, .unset, .unset, .unset, .unset, .unset, .unset, .unset] [(.ref a1)])) _
        refine st3 _ ?_
        show Steps p.tables e below (T3.setTop (mkF m 13 #[.val (.ref a1), .val (.long q2), .second, .unset, .unset, .unset, .unset, .unset, .unset, .unset, .unset] [(.double (4607182418800017408 : UInt64))])) _
        refine XS.lloadN X3.here hx rfl (hb hby d9_13) rfl ?_
        show Steps p.tables e below (T3.setTop (mkF m 14 #[.val (.ref a1), .val (.long q2), .second, .unset, .unset, .unset, .unset, .unset, .unset, .unset, .unset] [(.long q2), (.double (4607182418800017408 : UInt64))])) _
        refine XS.l2dS X3.here hx rfl (hb hby d9_14) rfl (v := (FP.l2d q2)) rfl ?_
        show Steps p.tables e below (T3.setTop (mkF m 15 #[.val (.ref a1), .val (.long q2), .second, .unset, .unset, .unset, .unset, .unset, .unset, .unset, .unset] [(.double (FP.l2d q2)), (.double (4607182418800017408 : UInt64))])) _
        refine XS.dmulS X3.here hx rfl (hb hby d9_15) rfl (Fl.dmul_out (by unfold Fin64; decide) (Fl.l2d_fin _)) (v := (FP.l2d q2)) (FP.Core.one_dmul (FP.Core.l2d_notNaN q2)) ?_
        show Steps p.tables e below (T3.setTop (mkF m 16 #[.val (.ref a1), .val (.long q2), .second, .unset, .unset, .unset, .unset, .unset, .unset, .unset, .unset] [(.double (FP.l2d q2))])) _
        refine XS.dstoreN X3.here hx rfl (hb hby d9_16) rfl (l' := #[.val (.ref a1), .val (.long q2), .second, .val (.double (FP.l2d q2)), .second, .unset, .unset, .unset, .unset, .unset, .unset]) rfl ?_
        show Steps p.tables e below (T3.setTop (mkF m 17 #[.val (.ref a1), .val (.long q2), .second, .val (.double (FP.l2d q2)), .second, .unset, .unset, .unset, .unset, .unset, .unset] [])) _
        refine XS.goto X3.here hx rfl (pc0 := 17) (pc' := 167) rfl (hb hby d9_17) (by decide) (by decide) ?_
        show Steps p.tables e below (T3.setTop (mkF m 167 #[.val (.ref a1), .val (.long q2), .second, .val (.double (FP.l2d q2)), .second, .unset, .unset, .unset, .unset, .unset, .unset] [])) _
        refine XS.dloadN X3.here hx rfl (hb hby d9_167) rfl ?_
        exact kt)
    obtain ⟨fs, hr, hrun, hended, hW, hsame⟩ := X3.leave (v := some (.double (FP.l2d q2))) (fun h => by rw [Bd.returns] at h; cases h)
    refine ⟨_, _, pre4 _ ?_, hrun, hended, _, _, rfl, ?_, ⟨_, rfl⟩, hW, hsame.mono (by decide) (by decide)⟩
    · show Steps p.tables e below (T3.setTop (mkF m 168 #[.val (.ref a1), .val (.long q2), .second, .val (.double (FP.l2d q2)), .second, .unset, .unset, .unset, .unset, .unset, .unset] [(.double (FP.l2d q2))])) _
      exact own_retD X3 hx Bd.returns (hb hby d9_168) hr
    · show Q9 Z a1 q2 q1 h0 n0 _ T3.heap _
      rw [e3]
      exact ⟨rfl, N0, rfl⟩
  · skip
    obtain ⟨T5, X5, e5, st5⟩ := getF X1 hx hZ hown (host := "") (Or.inl (hw _ (List.mem_of_getElem? (i := 16) rfl))) Via.refl e1 P_F_a1_entry (g := (mkF m 22 #[.val (.ref a1), .val (.long q2), .second, .unset, .unset, .unset, .unset, .unset, .unset, .unset, .unset] [(.ref a1), (.long q2)])) rfl rfl (hb hby d9_22)
    obtain ⟨T6, X6, e6, st6⟩ := getF X5 hx hZ hown (host := "") (Or.inl (hw _ (List.mem_of_getElem? (i := 18) rfl))) Via.refl e5 P_F_a1_glide (g := (mkF m 26 #[.val (.ref a1), .val (.long q2), .second, .unset, .unset, .unset, .unset, .unset, .unset, .unset, .unset] [(.ref a1), (.long (0 : Int64)), (.long q2)])) rfl rfl (hb hby d9_26)
    obtain ⟨T7, X7, e7, st7⟩ := getF X6 hx hZ hown (host := "") (Or.inl (hw _ (List.mem_of_getElem? (i := 20) rfl))) Via.refl e6 P_F_a1_resumed (g := (mkF m 150 #[.val (.ref a1), .val (.long q2), .second, .unset, .unset, .unset, .unset, .unset, .unset, .unset, .unset] [(.ref a1)])) rfl rfl (hb hby d9_150)
    obtain ⟨T8, X8, e8, st8⟩ := getF X7 hx hZ hown (host := "") (Or.inl (hw _ (List.mem_of_getElem? (i := 16) rfl))) Via.refl e7 P_F_a1_entry (g := (mkF m 155 #[.val (.ref a1), .val (.long q2), .second, .unset, .unset, .unset, .unset, .unset, .unset, .unset, .unset] [(.ref a1), (.long q2), (.long (0 : Int64))])) rfl rfl (hb hby d9_155)
    obtain ⟨T9, X9, e9, st9⟩ := getF X8 hx hZ hown (host := "") (Or.inl (hw _ (List.mem_of_getElem? (i := 18) rfl))) Via.refl e8 P_F_a1_glide (g := (mkF m 160 #[.val (.ref a1), .val (.long q2), .second, .unset, .unset, .unset, .unset, .unset, .unset, .unset, .unset] [(.ref a1), (.long (q2 - (0 : Int64))), (.long (0 : Int64))])) rfl rfl (hb hby d9_160)
    have pre10 : ∀ t, Steps p.tables e below (T9.setTop (mkF m 168 #[.val (.ref a1), .val (.long q2), .second, .val (.double (FP.l2d q2)), .second, .unset, .unset, .unset, .unset, .unset, .unset] [(.double (FP.l2d q2))])) t → Steps p.tables e below (s₁.setTop (entryFrame m #[(.ref a1), (.long q2)] 11)) t := fun t kt => pre2 t (by
        show Steps p.tables e below (T1.setTop (mkF m 6 #[.val (.ref a1), .val (.long q2), .second, .unset, .unset, .unset, .unset, .unset, .unset, .unset, .unset] [(.int (lcmpW q2 (0 : Int64)))])) _
        refine XS.ifYes X1.here hx rfl (pc0 := 6) (pc' := 20) rfl (hb hby d9_6) rfl ((if0 _ _).trans (flt (hp : ¬ ((lcmpW q2 (0 : Int64)) < (0 : Int32)))).2.1) (by decide) (by decide) ?_
        show Steps p.tables e below (T1.setTop (mkF m 20 #[.val (.ref a1), .val (.long q2), .second, .unset, .unset, .unset, .unset, .unset, .unset, .unset, .unset] [])) _
        refine XS.lloadN X1.here hx rfl (hb hby d9_20) rfl ?_
        show Steps p.tables e below (T1.setTop (mkF m 21 #[.val (.ref a1), .val (.long q2), .second, .unset, .unset, .unset, .unset, .unset, .unset, .unset, .unset] [(.long q2)])) _
        refine XS.aloadN X1.here hx rfl (hb hby d9_21) rfl rfl ?_
        show Steps p.tables e below (T1.setTop (mkF m 22 #[.val (.ref a1), .val (.long q2), .second, .unset, .unset, .unset, .unset, .unset, .unset, .unset, .unset] [(.ref a1), (.long q2)])) _
        refine st5 _ ?_
        show Steps p.tables e below (T5.setTop (mkF m 25 #[.val (.ref a1), .val (.long q2), .second, .unset, .unset, .unset, .unset, .unset, .unset, .unset, .unset] [(.long (0 : Int64)), (.long q2)])) _
        refine XS.aloadN X5.here hx rfl (hb hby d9_25) rfl rfl ?_
        show Steps p.tables e below (T5.setTop (mkF m 26 #[.val (.ref a1), .val (.long q2), .second, .unset, .unset, .unset, .unset, .unset, .unset, .unset, .unset] [(.ref a1), (.long (0 : Int64)), (.long q2)])) _
        refine st6 _ ?_
        show Steps p.tables e below (T6.setTop (mkF m 29 #[.val (.ref a1), .val (.long q2), .second, .unset, .unset, .unset, .unset, .unset, .unset, .unset, .unset] [(.long (0 : Int64)), (.long (0 : Int64)), (.long q2)])) _
        refine XS.ladd X6.here hx rfl (hb hby d9_29) rfl ?_
        show Steps p.tables e below (T6.setTop (mkF m 30 #[.val (.ref a1), .val (.long q2), .second, .unset, .unset, .unset, .unset, .unset, .unset, .unset, .unset] [(.long (0 : Int64)), (.long q2)])) _
        refine XS.lcmp X6.here hx rfl (hb hby d9_30) rfl ?_
        show Steps p.tables e below (T6.setTop (mkF m 31 #[.val (.ref a1), .val (.long q2), .second, .unset, .unset, .unset, .unset, .unset, .unset, .unset, .unset] [(.int (lcmpW q2 (0 : Int64)))])) _
        refine XS.ifYes X6.here hx rfl (pc0 := 31) (pc' := 149) rfl (hb hby d9_31) rfl ((if0 _ _).trans (flt (hp : ¬ ((lcmpW q2 (0 : Int64)) < (0 : Int32)))).2.1) (by decide) (by decide) ?_
        show Steps p.tables e below (T6.setTop (mkF m 149 #[.val (.ref a1), .val (.long q2), .second, .unset, .unset, .unset, .unset, .unset, .unset, .unset, .unset] [])) _
        refine XS.aloadN X6.here hx rfl (hb hby d9_149) rfl rfl ?_
        show Steps p.tables e below (T6.setTop (mkF m 150 #[.val (.ref a1), .val (.long q2), .second, .unset, .unset, .unset, .unset, .unset, .unset, .unset, .unset] [(.ref a1)])) _
        refine st7 _ ?_
        show Steps p.tables e below (T7.setTop (mkF m 153 #[.val (.ref a1), .val (.long q2), .second, .unset, .unset, .unset, .unset, .unset, .unset, .unset, .unset] [(.long (0 : Int64))])) _
        refine XS.lloadN X7.here hx rfl (hb hby d9_153) rfl ?_
        show Steps p.tables e below (T7.setTop (mkF m 154 #[.val (.ref a1), .val (.long q2), .second, .unset, .unset, .unset, .unset, .unset, .unset, .unset, .unset] [(.long q2), (.long (0 : Int64))])) _
        refine XS.aloadN X7.here hx rfl (hb hby d9_154) rfl rfl ?_
        show Steps p.tables e below (T7.setTop (mkF m 155 #[.val (.ref a1), .val (.long q2), .second, .unset, .unset, .unset, .unset, .unset, .unset, .unset, .unset] [(.ref a1), (.long q2), (.long (0 : Int64))])) _
        refine st8 _ ?_
        show Steps p.tables e below (T8.setTop (mkF m 158 #[.val (.ref a1), .val (.long q2), .second, .unset, .unset, .unset, .unset, .unset, .unset, .unset, .unset] [(.long (0 : Int64)), (.long q2), (.long (0 : Int64))])) _
        refine XS.lsub X8.here hx rfl (hb hby d9_158) rfl ?_
        show Steps p.tables e below (T8.setTop (mkF m 159 #[.val (.ref a1), .val (.long q2), .second, .unset, .unset, .unset, .unset, .unset, .unset, .unset, .unset] [(.long (q2 - (0 : Int64))), (.long (0 : Int64))])) _
        refine XS.aloadN X8.here hx rfl (hb hby d9_159) rfl rfl ?_
        show Steps p.tables e below (T8.setTop (mkF m 160 #[.val (.ref a1), .val (.long q2), .second, .unset, .unset, .unset, .unset, .unset, .unset, .unset, .unset] [(.ref a1), (.long (q2 - (0 : Int64))), (.long (0 : Int64))])) _
        refine st9 _ ?_
        show Steps p.tables e below (T9.setTop (mkF m 163 #[.val (.ref a1), .val (.long q2), .second, .unset, .unset, .unset, .unset, .unset, .unset, .unset, .unset] [(.long (0 : Int64)), (.long (q2 - (0 : Int64))), (.long (0 : Int64))])) _
        refine XS.lsub X9.here hx rfl (hb hby d9_163) rfl ?_
        show Steps p.tables e below (T9.setTop (mkF m 164 #[.val (.ref a1), .val (.long q2), .second, .unset, .unset, .unset, .unset, .unset, .unset, .unset, .unset] [(.long ((q2 - (0 : Int64)) - (0 : Int64))), (.long (0 : Int64))])) _
        refine XS.ladd X9.here hx rfl (hb hby d9_164) rfl ?_
        show Steps p.tables e below (T9.setTop (mkF m 165 #[.val (.ref a1), .val (.long q2), .second, .unset, .unset, .unset, .unset, .unset, .unset, .unset, .unset] [(.long ((0 : Int64) + ((q2 - (0 : Int64)) - (0 : Int64))))])) _
        refine XS.l2dS X9.here hx rfl (hb hby d9_165) rfl (v := (FP.l2d q2)) (congrArg FP.l2d (by simp)) ?_
        show Steps p.tables e below (T9.setTop (mkF m 166 #[.val (.ref a1), .val (.long q2), .second, .unset, .unset, .unset, .unset, .unset, .unset, .unset, .unset] [(.double (FP.l2d q2))])) _
        refine XS.dstoreN X9.here hx rfl (hb hby d9_166) rfl (l' := #[.val (.ref a1), .val (.long q2), .second, .val (.double (FP.l2d q2)), .second, .unset, .unset, .unset, .unset, .unset, .unset]) rfl ?_
        show Steps p.tables e below (T9.setTop (mkF m 167 #[.val (.ref a1), .val (.long q2), .second, .val (.double (FP.l2d q2)), .second, .unset, .unset, .unset, .unset, .unset, .unset] [])) _
        refine XS.dloadN X9.here hx rfl (hb hby d9_167) rfl ?_
        exact kt)
    obtain ⟨fs, hr, hrun, hended, hW, hsame⟩ := X9.leave (v := some (.double (FP.l2d q2))) (fun h => by rw [Bd.returns] at h; cases h)
    refine ⟨_, _, pre10 _ ?_, hrun, hended, _, _, rfl, ?_, ⟨_, rfl⟩, hW, hsame.mono (by decide) (by decide)⟩
    · show Steps p.tables e below (T9.setTop (mkF m 168 #[.val (.ref a1), .val (.long q2), .second, .val (.double (FP.l2d q2)), .second, .unset, .unset, .unset, .unset, .unset, .unset] [(.double (FP.l2d q2))])) _
      exact own_retD X9 hx Bd.returns (hb hby d9_168) hr
    · show Q9 Z a1 q2 q1 h0 n0 _ T9.heap _
      rw [e9]
      exact ⟨rfl, N0, rfl⟩
theorem ef_0 (m : MethodId) (q1 : Int64) (q2 : Int64) (q3 : Int64) : entryFrame m #[(.long q1), (.long q2), (.long q3)] maxLocals = mkF m 0 #[.val (.long q1), .second, .val (.long q2), .second, .val (.long q3), .second, .unset, .unset] [] := by first | (simp [entryFrame, mkF, argsToLocals, Value.category, maxLocals]; done) | rfl
theorem pd__28J_29Lcom_2fexample_2fattacca_2fattacca_2fVarispeed_3b : parseMethodDescriptor "(J)Lcom/example/attacca/attacca/Varispeed;" = some ⟨[.long], some (.object "com/example/attacca/attacca/Varispeed")⟩ := by decide +kernel
theorem pd__28_29D : parseMethodDescriptor "()D" = some ⟨[], some .double⟩ := by decide +kernel
theorem pd__28_29J : parseMethodDescriptor "()J" = some ⟨[], some .long⟩ := by decide +kernel
theorem pd__28J_29D : parseMethodDescriptor "(J)D" = some ⟨[.long], some .double⟩ := by decide +kernel
theorem pd__28J_29J : parseMethodDescriptor "(J)J" = some ⟨[.long], some .long⟩ := by decide +kernel
theorem pn_com_example_attacca_attacca_VarispeedSteadyPinLaw : plainName "com/example/attacca/attacca/VarispeedSteadyPinLaw" = true := by first | (simp [plainName, overriddenIn]; done) | decide +kernel
def Q0 (Z : State) (q1 : Int64) (q2 : Int64) (q3 : Int64) (h0 : Heap) (n0 : Nat) (v : Option Value) (h : Heap) (L : List Loc) : Prop := v = some (.int (1 : Int32)) ∧ Fr n0 L
set_option maxRecDepth 65536 in
set_option maxHeartbeats 40000000 in
theorem rm0 (l : Launch) (Z : State) (a0 : Array Value) (hw : ∀ d ∈ tables_1, d.before a0 Z = true) (ws : List Jvm.Cond) (q1 : Int64) (q2 : Int64) (q3 : Int64) (h0 : Heap) (n0 : Nat) (Z0 : n0 ≤ h0.size) :
    MetFree l x (head1 (Jvm.Cond.code x code maxLocals ret :: ws) room_1) (fun a U => a = #[(.long q1), (.long q2), (.long q3)] ∧ Z.Warmed39 U.vm ∧ U.heap = h0) (fun _ _ _ _ _ => True) (fun _ U o U' => ∃ v L, o = .returned v ∧ Q0 Z q1 q2 q3 h0 n0 v U'.heap L ∧ FrameEnd U o U' L 16 128) := by
  refine MetFree.of_bodySF (plainFor_of_name pn_com_example_attacca_attacca_VarispeedSteadyPinLaw) hisR ?_
  intro p e s m args below meth c s₁ Bd hml0 hP hK
  obtain ⟨rfl, hZ, hh⟩ := hP
  have hx := Bd.exec
  have hby := Bd.bytes
  have hml : c.maxLocals = 8 := hml0
  have hown : s.vm.findClass "com/example/attacca/attacca/VarispeedSteadyPinLaw" = some m.cls := findClass_of_methodNamed Bd.named
  have hnm := (name_of_methodNamed Bd.named Bd.method).1
  have X0 : Stand p l e room_1 s m #[(.long q1), (.long q2), (.long q3)] below meth c s₁ [] 0 0 := Stand.of_body Bd
  have e0 : s₁.heap = h0 := by rw [← hh, Bd.state]; rfl
  have N0 := Fr.nil n0
  have pre0 : ∀ t, Steps p.tables e below (s₁.setTop (mkF m 0 #[.val (.long q1), .second, .val (.long q2), .second, .val (.long q3), .second, .unset, .unset] [])) t → Steps p.tables e below (s₁.setTop (entryFrame m #[(.long q1), (.long q2), (.long q3)] maxLocals)) t := fun t k => castTop (ef_0 m q1 q2 q3) k
  obtain ⟨_, _, ⟨T1, L1, kk1, nn1⟩, -, X1, ⟨Lc1, hQ1, l1, y1, z1⟩, st1⟩ := Jvm.LawKit.callS X0 hx (y := (⟨"com/example/attacca/attacca/Varispeed", "steady", "(J)Lcom/example/attacca/attacca/Varispeed;"⟩ : MethodName)) hown (mvT hZ (hw _ (List.mem_of_getElem? (i := 0) rfl))) (mvT hZ (hw _ (List.mem_of_getElem? (i := 1) rfl))) (mvT hZ (hw _ (List.mem_of_getElem? (i := 2) rfl))) (mvT hZ (hw _ (List.mem_of_getElem? (i := 3) rfl))) (by decide) (backOf (W := 0) (rm1 l Z a0 hw [] q1 h0 n0 Z0 ) hZ (hw _ (List.mem_of_getElem? (i := 3) rfl)) (hw _ (List.mem_of_getElem? (i := 2) rfl)) (by decide) (by decide)) (g := (mkF m 1 #[.val (.long q1), .second, .val (.long q2), .second, .val (.long q3), .second, .unset, .unset] [(.long q1)])) rfl (by rw [hml]; rfl) (argsL := [(.long q1)]) (rest := []) (lenOf pd__28J_29Lcom_2fexample_2fattacca_2fattacca_2fVarispeed_3b rfl) rfl (by show 2 * 0 + _ ≤ _; exact Nat.le_of_eq rfl) (hb hby at_1) (fun _ _ => ⟨rfl, e0, (by decide : 0 + 1 ≤ _), (by decide : 0 + 5 ≤ _)⟩)
  dsimp only [Pt.U, Pt.locs, Pt.cells, Pt.slots] at X1 l1 y1 z1 st1 hQ1
  subst l1 y1 z1
  obtain ⟨b_1, rfl, N1q, K1, x1_0, x1_1, x1_2, x1_3, x1_4, x1_5, x1_6⟩ := hQ1
  have N1 := Fr.app N0 N1q
  have g_b_1 : n0 ≤ b_1 := Nat.le_trans Z0 x1_0
  have z2 : n0 ≤ T1.heap.size := Nat.le_trans Z0 K1.1
  obtain ⟨cq3, kq3, q3a, q3b, q3c⟩ := isOf hZ rfl x1_1
  obtain ⟨_, _, ⟨T3, L3, kk3, nn3⟩, -, X3, ⟨Lc3, hQ3, l3, y3, z3⟩, st3⟩ := X1.virtualBack hx (y := (⟨"com/example/attacca/attacca/Varispeed", "speed", "()D"⟩ : MethodName)) (z := (⟨"com/example/attacca/attacca/Varispeed", "speed", "()D"⟩ : MethodName)) hown (mvT hZ (hw _ (List.mem_of_getElem? (i := 22) rfl))) (mvT hZ (hw _ (List.mem_of_getElem? (i := 23) rfl))) (notFace_of_selects (args := #[]) (mvT hZ (hw _ (List.mem_of_getElem? (i := 25) rfl)))) (mvT hZ (hw _ (List.mem_of_getElem? (i := 25) rfl))) (mvT hZ (hw _ (List.mem_of_getElem? (i := 24) rfl))) (by decide) (backOf (W := 0) (rm4 l Z a0 hw [] b_1 q1 T1.heap n0 z2 x1_2 x1_3 x1_4 x1_5 x1_6) hZ (hw _ (List.mem_of_getElem? (i := 26) rfl)) (hw _ (List.mem_of_getElem? (i := 2) rfl)) (by decide) (by decide)) q3a q3c (g := (mkF m 8 #[.val (.long q1), .second, .val (.long q2), .second, .val (.long q3), .second, .val (.ref b_1), .unset] [(.ref b_1)])) rfl (by rw [hml]; rfl) (Steps.refl _) (argsL := []) (rest := []) (lenOf pd__28_29D rfl) rfl (by show 2 * 0 + _ ≤ _; exact Nat.le_of_eq rfl) (hb hby at_8) (fun _ _ => ⟨rfl, rfl, (by decide : 1 + 0 ≤ _), (by decide : 5 + 0 ≤ _)⟩)
  dsimp only [Pt.U, Pt.locs, Pt.cells, Pt.slots] at X3 l3 y3 z3 st3 hQ3
  subst l3 y3 z3
  obtain ⟨rfl, N3q, e3⟩ := hQ3
  have N3 := Fr.app N1 N3q
  obtain ⟨cq4, kq4, q4a, q4b, q4c⟩ := isOf hZ e3 x1_1
  obtain ⟨_, _, ⟨T4, L4, kk4, nn4⟩, -, X4, ⟨Lc4, hQ4, l4, y4, z4⟩, st4⟩ := X3.virtualBack hx (y := (⟨"com/example/attacca/attacca/Varispeed", "entry", "()J"⟩ : MethodName)) (z := (⟨"com/example/attacca/attacca/Varispeed", "entry", "()J"⟩ : MethodName)) hown (mvT hZ (hw _ (List.mem_of_getElem? (i := 27) rfl))) (mvT hZ (hw _ (List.mem_of_getElem? (i := 28) rfl))) (notFace_of_selects (args := #[]) (mvT hZ (hw _ (List.mem_of_getElem? (i := 30) rfl)))) (mvT hZ (hw _ (List.mem_of_getElem? (i := 30) rfl))) (mvT hZ (hw _ (List.mem_of_getElem? (i := 29) rfl))) (by decide) (backOf (W := 0) (rm5 l Z a0 hw [] b_1 q1 T1.heap n0 z2 x1_2 x1_3 x1_4 x1_5 x1_6) hZ (hw _ (List.mem_of_getElem? (i := 31) rfl)) (hw _ (List.mem_of_getElem? (i := 2) rfl)) (by decide) (by decide)) q4a q4c (g := (mkF m 30 #[.val (.long q1), .second, .val (.long q2), .second, .val (.long q3), .second, .val (.ref b_1), .val (.int (1 : Int32))] [(.ref b_1)])) rfl (by rw [hml]; rfl) (Steps.refl _) (argsL := []) (rest := []) (lenOf pd__28_29J rfl) rfl (by show 2 * 0 + _ ≤ _; exact Nat.le_of_eq rfl) (hb hby at_30) (fun _ _ => ⟨rfl, e3, (by decide : 1 + 0 ≤ _), (by decide : 5 + 0 ≤ _)⟩)
  dsimp only [Pt.U, Pt.locs, Pt.cells, Pt.slots] at X4 l4 y4 z4 st4 hQ4
  subst l4 y4 z4
  obtain ⟨rfl, N4q, e4⟩ := hQ4
  have N4 := Fr.app N3 N4q
  obtain ⟨cq5, kq5, q5a, q5b, q5c⟩ := isOf hZ e4 x1_1
  obtain ⟨_, _, ⟨T5, L5, kk5, nn5⟩, -, X5, ⟨Lc5, hQ5, l5, y5, z5⟩, st5⟩ := X4.virtualBack hx (y := (⟨"com/example/attacca/attacca/Varispeed", "steadyFrom", "()J"⟩ : MethodName)) (z := (⟨"com/example/attacca/attacca/Varispeed", "steadyFrom", "()J"⟩ : MethodName)) hown (mvT hZ (hw _ (List.mem_of_getElem? (i := 32) rfl))) (mvT hZ (hw _ (List.mem_of_getElem? (i := 33) rfl))) (notFace_of_selects (args := #[]) (mvT hZ (hw _ (List.mem_of_getElem? (i := 35) rfl)))) (mvT hZ (hw _ (List.mem_of_getElem? (i := 35) rfl))) (mvT hZ (hw _ (List.mem_of_getElem? (i := 34) rfl))) (by decide) (backOf (W := 0) (rm6 l Z a0 hw [] b_1 q1 T1.heap n0 z2 x1_2 x1_3 x1_4 x1_5 x1_6) hZ (hw _ (List.mem_of_getElem? (i := 36) rfl)) (hw _ (List.mem_of_getElem? (i := 2) rfl)) (by decide) (by decide)) q5a q5c (g := (mkF m 52 #[.val (.long q1), .second, .val (.long q2), .second, .val (.long q3), .second, .val (.ref b_1), .val (.int (1 : Int32))] [(.ref b_1)])) rfl (by rw [hml]; rfl) (Steps.refl _) (argsL := []) (rest := []) (lenOf pd__28_29J rfl) rfl (by show 2 * 0 + _ ≤ _; exact Nat.le_of_eq rfl) (hb hby at_52) (fun _ _ => ⟨rfl, e4, (by decide : 1 + 0 ≤ _), (by decide : 5 + 0 ≤ _)⟩)
  dsimp only [Pt.U, Pt.locs, Pt.cells, Pt.slots] at X5 l5 y5 z5 st5 hQ5
  subst l5 y5 z5
  obtain ⟨rfl, N5q, e5⟩ := hQ5
  have N5 := Fr.app N4 N5q
  obtain ⟨cq6, kq6, q6a, q6b, q6c⟩ := isOf hZ e5 x1_1
  obtain ⟨_, _, ⟨T6, L6, kk6, nn6⟩, -, X6, ⟨Lc6, hQ6, l6, y6, z6⟩, st6⟩ := X5.virtualBack hx (y := (⟨"com/example/attacca/attacca/Varispeed", "resumed", "()J"⟩ : MethodName)) (z := (⟨"com/example/attacca/attacca/Varispeed", "resumed", "()J"⟩ : MethodName)) hown (mvT hZ (hw _ (List.mem_of_getElem? (i := 37) rfl))) (mvT hZ (hw _ (List.mem_of_getElem? (i := 38) rfl))) (notFace_of_selects (args := #[]) (mvT hZ (hw _ (List.mem_of_getElem? (i := 40) rfl)))) (mvT hZ (hw _ (List.mem_of_getElem? (i := 40) rfl))) (mvT hZ (hw _ (List.mem_of_getElem? (i := 39) rfl))) (by decide) (backOf (W := 0) (rm7 l Z a0 hw [] b_1 q1 T1.heap n0 z2 x1_2 x1_3 x1_4 x1_5 x1_6) hZ (hw _ (List.mem_of_getElem? (i := 41) rfl)) (hw _ (List.mem_of_getElem? (i := 2) rfl)) (by decide) (by decide)) q6a q6c (g := (mkF m 74 #[.val (.long q1), .second, .val (.long q2), .second, .val (.long q3), .second, .val (.ref b_1), .val (.int (1 : Int32))] [(.ref b_1)])) rfl (by rw [hml]; rfl) (Steps.refl _) (argsL := []) (rest := []) (lenOf pd__28_29J rfl) rfl (by show 2 * 0 + _ ≤ _; exact Nat.le_of_eq rfl) (hb hby at_74) (fun _ _ => ⟨rfl, e5, (by decide : 1 + 0 ≤ _), (by decide : 5 + 0 ≤ _)⟩)
  dsimp only [Pt.U, Pt.locs, Pt.cells, Pt.slots] at X6 l6 y6 z6 st6 hQ6
  subst l6 y6 z6
  obtain ⟨rfl, N6q, e6⟩ := hQ6
  have N6 := Fr.app N5 N6q
  obtain ⟨cq7, kq7, q7a, q7b, q7c⟩ := isOf hZ e6 x1_1
  obtain ⟨_, _, ⟨T7, L7, kk7, nn7⟩, -, X7, ⟨Lc7, hQ7, l7, y7, z7⟩, st7⟩ := X6.virtualBack hx (y := (⟨"com/example/attacca/attacca/Varispeed", "length", "()J"⟩ : MethodName)) (z := (⟨"com/example/attacca/attacca/Varispeed", "length", "()J"⟩ : MethodName)) hown (mvT hZ (hw _ (List.mem_of_getElem? (i := 42) rfl))) (mvT hZ (hw _ (List.mem_of_getElem? (i := 43) rfl))) (notFace_of_selects (args := #[]) (mvT hZ (hw _ (List.mem_of_getElem? (i := 45) rfl)))) (mvT hZ (hw _ (List.mem_of_getElem? (i := 45) rfl))) (mvT hZ (hw _ (List.mem_of_getElem? (i := 44) rfl))) (by decide) (backOf (W := 0) (rm8 l Z a0 hw [] b_1 q1 T1.heap n0 z2 x1_2 x1_3 x1_4 x1_5 x1_6) hZ (hw _ (List.mem_of_getElem? (i := 46) rfl)) (hw _ (List.mem_of_getElem? (i := 2) rfl)) (by decide) (by decide)) q7a q7c (g := (mkF m 96 #[.val (.long q1), .second, .val (.long q2), .second, .val (.long q3), .second, .val (.ref b_1), .val (.int (1 : Int32))] [(.ref b_1)])) rfl (by rw [hml]; rfl) (Steps.refl _) (argsL := []) (rest := []) (lenOf pd__28_29J rfl) rfl (by show 2 * 0 + _ ≤ _; exact Nat.le_of_eq rfl) (hb hby at_96) (fun _ _ => ⟨rfl, e6, (by decide : 1 + 0 ≤ _), (by decide : 5 + 0 ≤ _)⟩)
  dsimp only [Pt.U, Pt.locs, Pt.cells, Pt.slots] at X7 l7 y7 z7 st7 hQ7
  subst l7 y7 z7
  obtain ⟨rfl, N7q, e7⟩ := hQ7
  have N7 := Fr.app N6 N7q
  obtain ⟨cq8, kq8, q8a, q8b, q8c⟩ := isOf hZ e7 x1_1
  obtain ⟨_, _, ⟨T8, L8, kk8, nn8⟩, -, X8, ⟨Lc8, hQ8, l8, y8, z8⟩, st8⟩ := X7.virtualBack hx (y := (⟨"com/example/attacca/attacca/Varispeed", "position", "(J)D"⟩ : MethodName)) (z := (⟨"com/example/attacca/attacca/Varispeed", "position", "(J)D"⟩ : MethodName)) hown (mvT hZ (hw _ (List.mem_of_getElem? (i := 47) rfl))) (mvT hZ (hw _ (List.mem_of_getElem? (i := 48) rfl))) (notFace_of_selects (args := #[]) (mvT hZ (hw _ (List.mem_of_getElem? (i := 50) rfl)))) (mvT hZ (hw _ (List.mem_of_getElem? (i := 50) rfl))) (mvT hZ (hw _ (List.mem_of_getElem? (i := 49) rfl))) (by decide) (backOf (W := 0) (rm9 l Z a0 hw [] b_1 q2 q1 T1.heap n0 z2 x1_2 x1_3 x1_4 x1_5 x1_6) hZ (hw _ (List.mem_of_getElem? (i := 51) rfl)) (hw _ (List.mem_of_getElem? (i := 2) rfl)) (by decide) (by decide)) q8a q8c (g := (mkF m 119 #[.val (.long q1), .second, .val (.long q2), .second, .val (.long q3), .second, .val (.ref b_1), .val (.int (1 : Int32))] [(.long q2), (.ref b_1)])) rfl (by rw [hml]; rfl) (Steps.refl _) (argsL := [(.long q2)]) (rest := []) (lenOf pd__28J_29D rfl) rfl (by show 2 * 0 + _ ≤ _; exact Nat.le_of_eq rfl) (hb hby at_119) (fun _ _ => ⟨rfl, e7, (by decide : 1 + 0 ≤ _), (by decide : 5 + 0 ≤ _)⟩)
  dsimp only [Pt.U, Pt.locs, Pt.cells, Pt.slots] at X8 l8 y8 z8 st8 hQ8
  subst l8 y8 z8
  obtain ⟨rfl, N8q, e8⟩ := hQ8
  have N8 := Fr.app N7 N8q
  obtain ⟨cq9, kq9, q9a, q9b, q9c⟩ := isOf hZ e8 x1_1
  obtain ⟨_, _, ⟨T9, L9, kk9, nn9⟩, -, X9, ⟨Lc9, hQ9, l9, y9, z9⟩, st9⟩ := X8.virtualBack hx (y := (⟨"com/example/attacca/attacca/Varispeed", "mixFrame", "(J)J"⟩ : MethodName)) (z := (⟨"com/example/attacca/attacca/Varispeed", "mixFrame", "(J)J"⟩ : MethodName)) hown (mvT hZ (hw _ (List.mem_of_getElem? (i := 52) rfl))) (mvT hZ (hw _ (List.mem_of_getElem? (i := 53) rfl))) (notFace_of_selects (args := #[]) (mvT hZ (hw _ (List.mem_of_getElem? (i := 55) rfl)))) (mvT hZ (hw _ (List.mem_of_getElem? (i := 55) rfl))) (mvT hZ (hw _ (List.mem_of_getElem? (i := 54) rfl))) (by decide) (backOf (W := 0) (rm10 l Z a0 hw [] b_1 q3 q1 T1.heap n0 z2 x1_2 x1_3 x1_4 x1_5 x1_6) hZ (hw _ (List.mem_of_getElem? (i := 56) rfl)) (hw _ (List.mem_of_getElem? (i := 2) rfl)) (by decide) (by decide)) q9a q9c (g := (mkF m 144 #[.val (.long q1), .second, .val (.long q2), .second, .val (.long q3), .second, .val (.ref b_1), .val (.int (1 : Int32))] [(.long q3), (.ref b_1)])) rfl (by rw [hml]; rfl) (Steps.refl _) (argsL := [(.long q3)]) (rest := []) (lenOf pd__28J_29J rfl) rfl (by show 2 * 0 + _ ≤ _; exact Nat.le_of_eq rfl) (hb hby at_144) (fun _ _ => ⟨rfl, e8, (by decide : 1 + 0 ≤ _), (by decide : 5 + 0 ≤ _)⟩)
  dsimp only [Pt.U, Pt.locs, Pt.cells, Pt.slots] at X9 l9 y9 z9 st9 hQ9
  subst l9 y9 z9
  obtain ⟨rfl, N9q, e9⟩ := hQ9
  have N9 := Fr.app N8 N9q
  have pre10 : ∀ t, Steps p.tables e below (T9.setTop (mkF m 162 #[.val (.long q1), .second, .val (.long q2), .second, .val (.long q3), .second, .val (.ref b_1), .val (.int (1 : Int32))] [(.int (1 : Int32))])) t → Steps p.tables e below (s₁.setTop (entryFrame m #[(.long q1), (.long q2), (.long q3)] maxLocals)) t := fun t kt => pre0 t (by
      show Steps p.tables e below (s₁.setTop (mkF m 0 #[.val (.long q1), .second, .val (.long q2), .second, .val (.long q3), .second, .unset, .unset] [])) _
      refine XS.lloadN X0.here hx rfl (hb hby at_0) rfl ?_
      show Steps p.tables e below (s₁.setTop (mkF m 1 #[.val (.long q1), .second, .val (.long q2), .second, .val (.long q3), .second, .unset, .unset] [(.long q1)])) _
      refine st1 _ ?_
      show Steps p.tables e below (T1.setTop (mkF m 4 #[.val (.long q1), .second, .val (.long q2), .second, .val (.long q3), .second, .unset, .unset] [(.ref b_1)])) _
      refine XS.astore X1.here hx rfl (hb hby at_4) rfl rfl (l' := #[.val (.long q1), .second, .val (.long q2), .second, .val (.long q3), .second, .val (.ref b_1), .unset]) rfl ?_
      show Steps p.tables e below (T1.setTop (mkF m 6 #[.val (.long q1), .second, .val (.long q2), .second, .val (.long q3), .second, .val (.ref b_1), .unset] [])) _
      refine XS.aload X1.here hx rfl (hb hby at_6) rfl rfl ?_
      show Steps p.tables e below (T1.setTop (mkF m 8 #[.val (.long q1), .second, .val (.long q2), .second, .val (.long q3), .second, .val (.ref b_1), .unset] [(.ref b_1)])) _
      refine st3.trans ?_
      show Steps p.tables e below (T3.setTop (mkF m 11 #[.val (.long q1), .second, .val (.long q2), .second, .val (.long q3), .second, .val (.ref b_1), .unset] [(.double (4607182418800017408 : UInt64))])) _
      refine XS.dconst1 X3.here hx rfl (hb hby at_11) (v := (4607182418800017408 : UInt64)) rfl ?_
      show Steps p.tables e below (T3.setTop (mkF m 12 #[.val (.long q1), .second, .val (.long q2), .second, .val (.long q3), .second, .val (.ref b_1), .unset] [(.double (4607182418800017408 : UInt64)), (.double (4607182418800017408 : UInt64))])) _
      refine XS.dcmpS X3.here hx rfl (hb hby at_12) rfl (v := (0 : Int32)) (dcmpV_self OwnFP.fin_one.noNaN .l) ?_
      show Steps p.tables e below (T3.setTop (mkF m 13 #[.val (.long q1), .second, .val (.long q2), .second, .val (.long q3), .second, .val (.ref b_1), .unset] [(.int (0 : Int32))])) _
      refine XS.ifNo X3.here hx rfl (hb hby at_13) rfl ((if0 _ _).trans (teq ((by decide) : (0 : Int32) = (0 : Int32))).2) ?_
      show Steps p.tables e below (T3.setTop (mkF m 16 #[.val (.long q1), .second, .val (.long q2), .second, .val (.long q3), .second, .val (.ref b_1), .unset] [])) _
      refine XS.iconst X3.here hx rfl (hb hby at_16) ?_
      show Steps p.tables e below (T3.setTop (mkF m 17 #[.val (.long q1), .second, .val (.long q2), .second, .val (.long q3), .second, .val (.ref b_1), .unset] [(.int (1 : Int32))])) _
      refine XS.goto X3.here hx rfl (pc0 := 17) (pc' := 21) rfl (hb hby at_17) (by decide) (by decide) ?_
      show Steps p.tables e below (T3.setTop (mkF m 21 #[.val (.long q1), .second, .val (.long q2), .second, .val (.long q3), .second, .val (.ref b_1), .unset] [(.int (1 : Int32))])) _
      refine XS.istore X3.here hx rfl (hb hby at_21) rfl (l' := #[.val (.long q1), .second, .val (.long q2), .second, .val (.long q3), .second, .val (.ref b_1), .val (.int (1 : Int32))]) rfl ?_
      show Steps p.tables e below (T3.setTop (mkF m 23 #[.val (.long q1), .second, .val (.long q2), .second, .val (.long q3), .second, .val (.ref b_1), .val (.int (1 : Int32))] [])) _
      refine XS.iload X3.here hx rfl (hb hby at_23) rfl ?_
      show Steps p.tables e below (T3.setTop (mkF m 25 #[.val (.long q1), .second, .val (.long q2), .second, .val (.long q3), .second, .val (.ref b_1), .val (.int (1 : Int32))] [(.int (1 : Int32))])) _
      refine XS.ifNo X3.here hx rfl (hb hby at_25) rfl ((if0 _ _).trans (feq ((by decide) : ¬ ((1 : Int32) = (0 : Int32)))).1) ?_
      show Steps p.tables e below (T3.setTop (mkF m 28 #[.val (.long q1), .second, .val (.long q2), .second, .val (.long q3), .second, .val (.ref b_1), .val (.int (1 : Int32))] [])) _
      refine XS.aload X3.here hx rfl (hb hby at_28) rfl rfl ?_
      show Steps p.tables e below (T3.setTop (mkF m 30 #[.val (.long q1), .second, .val (.long q2), .second, .val (.long q3), .second, .val (.ref b_1), .val (.int (1 : Int32))] [(.ref b_1)])) _
      refine st4.trans ?_
      show Steps p.tables e below (T4.setTop (mkF m 33 #[.val (.long q1), .second, .val (.long q2), .second, .val (.long q3), .second, .val (.ref b_1), .val (.int (1 : Int32))] [(.long (0 : Int64))])) _
      refine XS.lconst X4.here hx rfl (hb hby at_33) ?_
      show Steps p.tables e below (T4.setTop (mkF m 34 #[.val (.long q1), .second, .val (.long q2), .second, .val (.long q3), .second, .val (.ref b_1), .val (.int (1 : Int32))] [(.long (0 : Int64)), (.long (0 : Int64))])) _
      refine XS.lcmp X4.here hx rfl (hb hby at_34) rfl ?_
      show Steps p.tables e below (T4.setTop (mkF m 35 #[.val (.long q1), .second, .val (.long q2), .second, .val (.long q3), .second, .val (.ref b_1), .val (.int (1 : Int32))] [(.int (lcmpW (0 : Int64) (0 : Int64)))])) _
      refine XS.ifNo X4.here hx rfl (hb hby at_35) rfl ((if0 _ _).trans (teq ((lw_eq _ _).mpr rfl : (lcmpW (0 : Int64) (0 : Int64)) = (0 : Int32))).2) ?_
      show Steps p.tables e below (T4.setTop (mkF m 38 #[.val (.long q1), .second, .val (.long q2), .second, .val (.long q3), .second, .val (.ref b_1), .val (.int (1 : Int32))] [])) _
      refine XS.iconst X4.here hx rfl (hb hby at_38) ?_
      show Steps p.tables e below (T4.setTop (mkF m 39 #[.val (.long q1), .second, .val (.long q2), .second, .val (.long q3), .second, .val (.ref b_1), .val (.int (1 : Int32))] [(.int (1 : Int32))])) _
      refine XS.goto X4.here hx rfl (pc0 := 39) (pc' := 43) rfl (hb hby at_39) (by decide) (by decide) ?_
      show Steps p.tables e below (T4.setTop (mkF m 43 #[.val (.long q1), .second, .val (.long q2), .second, .val (.long q3), .second, .val (.ref b_1), .val (.int (1 : Int32))] [(.int (1 : Int32))])) _
      refine XS.istore X4.here hx rfl (hb hby at_43) rfl (l' := #[.val (.long q1), .second, .val (.long q2), .second, .val (.long q3), .second, .val (.ref b_1), .val (.int (1 : Int32))]) rfl ?_
      show Steps p.tables e below (T4.setTop (mkF m 45 #[.val (.long q1), .second, .val (.long q2), .second, .val (.long q3), .second, .val (.ref b_1), .val (.int (1 : Int32))] [])) _
      refine XS.iload X4.here hx rfl (hb hby at_45) rfl ?_
      show Steps p.tables e below (T4.setTop (mkF m 47 #[.val (.long q1), .second, .val (.long q2), .second, .val (.long q3), .second, .val (.ref b_1), .val (.int (1 : Int32))] [(.int (1 : Int32))])) _
      refine XS.ifNo X4.here hx rfl (hb hby at_47) rfl ((if0 _ _).trans (feq ((by decide) : ¬ ((1 : Int32) = (0 : Int32)))).1) ?_
      show Steps p.tables e below (T4.setTop (mkF m 50 #[.val (.long q1), .second, .val (.long q2), .second, .val (.long q3), .second, .val (.ref b_1), .val (.int (1 : Int32))] [])) _
      refine XS.aload X4.here hx rfl (hb hby at_50) rfl rfl ?_
      show Steps p.tables e below (T4.setTop (mkF m 52 #[.val (.long q1), .second, .val (.long q2), .second, .val (.long q3), .second, .val (.ref b_1), .val (.int (1 : Int32))] [(.ref b_1)])) _
      refine st5.trans ?_
      show Steps p.tables e below (T5.setTop (mkF m 55 #[.val (.long q1), .second, .val (.long q2), .second, .val (.long q3), .second, .val (.ref b_1), .val (.int (1 : Int32))] [(.long (0 : Int64))])) _
      refine XS.lconst X5.here hx rfl (hb hby at_55) ?_
      show Steps p.tables e below (T5.setTop (mkF m 56 #[.val (.long q1), .second, .val (.long q2), .second, .val (.long q3), .second, .val (.ref b_1), .val (.int (1 : Int32))] [(.long (0 : Int64)), (.long (0 : Int64))])) _
      refine XS.lcmp X5.here hx rfl (hb hby at_56) rfl ?_
      show Steps p.tables e below (T5.setTop (mkF m 57 #[.val (.long q1), .second, .val (.long q2), .second, .val (.long q3), .second, .val (.ref b_1), .val (.int (1 : Int32))] [(.int (lcmpW (0 : Int64) (0 : Int64)))])) _
      refine XS.ifNo X5.here hx rfl (hb hby at_57) rfl ((if0 _ _).trans (teq ((lw_eq _ _).mpr rfl : (lcmpW (0 : Int64) (0 : Int64)) = (0 : Int32))).2) ?_
      show Steps p.tables e below (T5.setTop (mkF m 60 #[.val (.long q1), .second, .val (.long q2), .second, .val (.long q3), .second, .val (.ref b_1), .val (.int (1 : Int32))] [])) _
      refine XS.iconst X5.here hx rfl (hb hby at_60) ?_
      show Steps p.tables e below (T5.setTop (mkF m 61 #[.val (.long q1), .second, .val (.long q2), .second, .val (.long q3), .second, .val (.ref b_1), .val (.int (1 : Int32))] [(.int (1 : Int32))])) _
      refine XS.goto X5.here hx rfl (pc0 := 61) (pc' := 65) rfl (hb hby at_61) (by decide) (by decide) ?_
      show Steps p.tables e below (T5.setTop (mkF m 65 #[.val (.long q1), .second, .val (.long q2), .second, .val (.long q3), .second, .val (.ref b_1), .val (.int (1 : Int32))] [(.int (1 : Int32))])) _
      refine XS.istore X5.here hx rfl (hb hby at_65) rfl (l' := #[.val (.long q1), .second, .val (.long q2), .second, .val (.long q3), .second, .val (.ref b_1), .val (.int (1 : Int32))]) rfl ?_
      show Steps p.tables e below (T5.setTop (mkF m 67 #[.val (.long q1), .second, .val (.long q2), .second, .val (.long q3), .second, .val (.ref b_1), .val (.int (1 : Int32))] [])) _
      refine XS.iload X5.here hx rfl (hb hby at_67) rfl ?_
      show Steps p.tables e below (T5.setTop (mkF m 69 #[.val (.long q1), .second, .val (.long q2), .second, .val (.long q3), .second, .val (.ref b_1), .val (.int (1 : Int32))] [(.int (1 : Int32))])) _
      refine XS.ifNo X5.here hx rfl (hb hby at_69) rfl ((if0 _ _).trans (feq ((by decide) : ¬ ((1 : Int32) = (0 : Int32)))).1) ?_
      show Steps p.tables e below (T5.setTop (mkF m 72 #[.val (.long q1), .second, .val (.long q2), .second, .val (.long q3), .second, .val (.ref b_1), .val (.int (1 : Int32))] [])) _
      refine XS.aload X5.here hx rfl (hb hby at_72) rfl rfl ?_
      show Steps p.tables e below (T5.setTop (mkF m 74 #[.val (.long q1), .second, .val (.long q2), .second, .val (.long q3), .second, .val (.ref b_1), .val (.int (1 : Int32))] [(.ref b_1)])) _
      refine st6.trans ?_
      show Steps p.tables e below (T6.setTop (mkF m 77 #[.val (.long q1), .second, .val (.long q2), .second, .val (.long q3), .second, .val (.ref b_1), .val (.int (1 : Int32))] [(.long (0 : Int64))])) _
      refine XS.lconst X6.here hx rfl (hb hby at_77) ?_
      show Steps p.tables e below (T6.setTop (mkF m 78 #[.val (.long q1), .second, .val (.long q2), .second, .val (.long q3), .second, .val (.ref b_1), .val (.int (1 : Int32))] [(.long (0 : Int64)), (.long (0 : Int64))])) _
      refine XS.lcmp X6.here hx rfl (hb hby at_78) rfl ?_
      show Steps p.tables e below (T6.setTop (mkF m 79 #[.val (.long q1), .second, .val (.long q2), .second, .val (.long q3), .second, .val (.ref b_1), .val (.int (1 : Int32))] [(.int (lcmpW (0 : Int64) (0 : Int64)))])) _
      refine XS.ifNo X6.here hx rfl (hb hby at_79) rfl ((if0 _ _).trans (teq ((lw_eq _ _).mpr rfl : (lcmpW (0 : Int64) (0 : Int64)) = (0 : Int32))).2) ?_
      show Steps p.tables e below (T6.setTop (mkF m 82 #[.val (.long q1), .second, .val (.long q2), .second, .val (.long q3), .second, .val (.ref b_1), .val (.int (1 : Int32))] [])) _
      refine XS.iconst X6.here hx rfl (hb hby at_82) ?_
      show Steps p.tables e below (T6.setTop (mkF m 83 #[.val (.long q1), .second, .val (.long q2), .second, .val (.long q3), .second, .val (.ref b_1), .val (.int (1 : Int32))] [(.int (1 : Int32))])) _
      refine XS.goto X6.here hx rfl (pc0 := 83) (pc' := 87) rfl (hb hby at_83) (by decide) (by decide) ?_
      show Steps p.tables e below (T6.setTop (mkF m 87 #[.val (.long q1), .second, .val (.long q2), .second, .val (.long q3), .second, .val (.ref b_1), .val (.int (1 : Int32))] [(.int (1 : Int32))])) _
      refine XS.istore X6.here hx rfl (hb hby at_87) rfl (l' := #[.val (.long q1), .second, .val (.long q2), .second, .val (.long q3), .second, .val (.ref b_1), .val (.int (1 : Int32))]) rfl ?_
      show Steps p.tables e below (T6.setTop (mkF m 89 #[.val (.long q1), .second, .val (.long q2), .second, .val (.long q3), .second, .val (.ref b_1), .val (.int (1 : Int32))] [])) _
      refine XS.iload X6.here hx rfl (hb hby at_89) rfl ?_
      show Steps p.tables e below (T6.setTop (mkF m 91 #[.val (.long q1), .second, .val (.long q2), .second, .val (.long q3), .second, .val (.ref b_1), .val (.int (1 : Int32))] [(.int (1 : Int32))])) _
      refine XS.ifNo X6.here hx rfl (hb hby at_91) rfl ((if0 _ _).trans (feq ((by decide) : ¬ ((1 : Int32) = (0 : Int32)))).1) ?_
      show Steps p.tables e below (T6.setTop (mkF m 94 #[.val (.long q1), .second, .val (.long q2), .second, .val (.long q3), .second, .val (.ref b_1), .val (.int (1 : Int32))] [])) _
      refine XS.aload X6.here hx rfl (hb hby at_94) rfl rfl ?_
      show Steps p.tables e below (T6.setTop (mkF m 96 #[.val (.long q1), .second, .val (.long q2), .second, .val (.long q3), .second, .val (.ref b_1), .val (.int (1 : Int32))] [(.ref b_1)])) _
      refine st7.trans ?_
      show Steps p.tables e below (T7.setTop (mkF m 99 #[.val (.long q1), .second, .val (.long q2), .second, .val (.long q3), .second, .val (.ref b_1), .val (.int (1 : Int32))] [(.long q1)])) _
      refine XS.lloadN X7.here hx rfl (hb hby at_99) rfl ?_
      show Steps p.tables e below (T7.setTop (mkF m 100 #[.val (.long q1), .second, .val (.long q2), .second, .val (.long q3), .second, .val (.ref b_1), .val (.int (1 : Int32))] [(.long q1), (.long q1)])) _
      refine XS.lcmp X7.here hx rfl (hb hby at_100) rfl ?_
      show Steps p.tables e below (T7.setTop (mkF m 101 #[.val (.long q1), .second, .val (.long q2), .second, .val (.long q3), .second, .val (.ref b_1), .val (.int (1 : Int32))] [(.int (lcmpW q1 q1))])) _
      refine XS.ifNo X7.here hx rfl (hb hby at_101) rfl ((if0 _ _).trans (teq ((lw_eq _ _).mpr rfl : (lcmpW q1 q1) = (0 : Int32))).2) ?_
      show Steps p.tables e below (T7.setTop (mkF m 104 #[.val (.long q1), .second, .val (.long q2), .second, .val (.long q3), .second, .val (.ref b_1), .val (.int (1 : Int32))] [])) _
      refine XS.iconst X7.here hx rfl (hb hby at_104) ?_
      show Steps p.tables e below (T7.setTop (mkF m 105 #[.val (.long q1), .second, .val (.long q2), .second, .val (.long q3), .second, .val (.ref b_1), .val (.int (1 : Int32))] [(.int (1 : Int32))])) _
      refine XS.goto X7.here hx rfl (pc0 := 105) (pc' := 109) rfl (hb hby at_105) (by decide) (by decide) ?_
      show Steps p.tables e below (T7.setTop (mkF m 109 #[.val (.long q1), .second, .val (.long q2), .second, .val (.long q3), .second, .val (.ref b_1), .val (.int (1 : Int32))] [(.int (1 : Int32))])) _
      refine XS.istore X7.here hx rfl (hb hby at_109) rfl (l' := #[.val (.long q1), .second, .val (.long q2), .second, .val (.long q3), .second, .val (.ref b_1), .val (.int (1 : Int32))]) rfl ?_
      show Steps p.tables e below (T7.setTop (mkF m 111 #[.val (.long q1), .second, .val (.long q2), .second, .val (.long q3), .second, .val (.ref b_1), .val (.int (1 : Int32))] [])) _
      refine XS.iload X7.here hx rfl (hb hby at_111) rfl ?_
      show Steps p.tables e below (T7.setTop (mkF m 113 #[.val (.long q1), .second, .val (.long q2), .second, .val (.long q3), .second, .val (.ref b_1), .val (.int (1 : Int32))] [(.int (1 : Int32))])) _
      refine XS.ifNo X7.here hx rfl (hb hby at_113) rfl ((if0 _ _).trans (feq ((by decide) : ¬ ((1 : Int32) = (0 : Int32)))).1) ?_
      show Steps p.tables e below (T7.setTop (mkF m 116 #[.val (.long q1), .second, .val (.long q2), .second, .val (.long q3), .second, .val (.ref b_1), .val (.int (1 : Int32))] [])) _
      refine XS.aload X7.here hx rfl (hb hby at_116) rfl rfl ?_
      show Steps p.tables e below (T7.setTop (mkF m 118 #[.val (.long q1), .second, .val (.long q2), .second, .val (.long q3), .second, .val (.ref b_1), .val (.int (1 : Int32))] [(.ref b_1)])) _
      refine XS.lloadN X7.here hx rfl (hb hby at_118) rfl ?_
      show Steps p.tables e below (T7.setTop (mkF m 119 #[.val (.long q1), .second, .val (.long q2), .second, .val (.long q3), .second, .val (.ref b_1), .val (.int (1 : Int32))] [(.long q2), (.ref b_1)])) _
      refine st8.trans ?_
      show Steps p.tables e below (T8.setTop (mkF m 122 #[.val (.long q1), .second, .val (.long q2), .second, .val (.long q3), .second, .val (.ref b_1), .val (.int (1 : Int32))] [(.double (FP.l2d q2))])) _
      refine XS.lloadN X8.here hx rfl (hb hby at_122) rfl ?_
      show Steps p.tables e below (T8.setTop (mkF m 123 #[.val (.long q1), .second, .val (.long q2), .second, .val (.long q3), .second, .val (.ref b_1), .val (.int (1 : Int32))] [(.long q2), (.double (FP.l2d q2))])) _
      refine XS.l2dS X8.here hx rfl (hb hby at_123) rfl (v := (FP.l2d q2)) rfl ?_
      show Steps p.tables e below (T8.setTop (mkF m 124 #[.val (.long q1), .second, .val (.long q2), .second, .val (.long q3), .second, .val (.ref b_1), .val (.int (1 : Int32))] [(.double (FP.l2d q2)), (.double (FP.l2d q2))])) _
      refine XS.dcmpS X8.here hx rfl (hb hby at_124) rfl (v := (0 : Int32)) (dcmpV_self (Fl.l2d_fin _).noNaN .l) ?_
      show Steps p.tables e below (T8.setTop (mkF m 125 #[.val (.long q1), .second, .val (.long q2), .second, .val (.long q3), .second, .val (.ref b_1), .val (.int (1 : Int32))] [(.int (0 : Int32))])) _
      refine XS.ifNo X8.here hx rfl (hb hby at_125) rfl ((if0 _ _).trans (teq ((by decide) : (0 : Int32) = (0 : Int32))).2) ?_
      show Steps p.tables e below (T8.setTop (mkF m 128 #[.val (.long q1), .second, .val (.long q2), .second, .val (.long q3), .second, .val (.ref b_1), .val (.int (1 : Int32))] [])) _
      refine XS.iconst X8.here hx rfl (hb hby at_128) ?_
      show Steps p.tables e below (T8.setTop (mkF m 129 #[.val (.long q1), .second, .val (.long q2), .second, .val (.long q3), .second, .val (.ref b_1), .val (.int (1 : Int32))] [(.int (1 : Int32))])) _
      refine XS.goto X8.here hx rfl (pc0 := 129) (pc' := 133) rfl (hb hby at_129) (by decide) (by decide) ?_
      show Steps p.tables e below (T8.setTop (mkF m 133 #[.val (.long q1), .second, .val (.long q2), .second, .val (.long q3), .second, .val (.ref b_1), .val (.int (1 : Int32))] [(.int (1 : Int32))])) _
      refine XS.istore X8.here hx rfl (hb hby at_133) rfl (l' := #[.val (.long q1), .second, .val (.long q2), .second, .val (.long q3), .second, .val (.ref b_1), .val (.int (1 : Int32))]) rfl ?_
      show Steps p.tables e below (T8.setTop (mkF m 135 #[.val (.long q1), .second, .val (.long q2), .second, .val (.long q3), .second, .val (.ref b_1), .val (.int (1 : Int32))] [])) _
      refine XS.iload X8.here hx rfl (hb hby at_135) rfl ?_
      show Steps p.tables e below (T8.setTop (mkF m 137 #[.val (.long q1), .second, .val (.long q2), .second, .val (.long q3), .second, .val (.ref b_1), .val (.int (1 : Int32))] [(.int (1 : Int32))])) _
      refine XS.ifNo X8.here hx rfl (hb hby at_137) rfl ((if0 _ _).trans (feq ((by decide) : ¬ ((1 : Int32) = (0 : Int32)))).1) ?_
      show Steps p.tables e below (T8.setTop (mkF m 140 #[.val (.long q1), .second, .val (.long q2), .second, .val (.long q3), .second, .val (.ref b_1), .val (.int (1 : Int32))] [])) _
      refine XS.aload X8.here hx rfl (hb hby at_140) rfl rfl ?_
      show Steps p.tables e below (T8.setTop (mkF m 142 #[.val (.long q1), .second, .val (.long q2), .second, .val (.long q3), .second, .val (.ref b_1), .val (.int (1 : Int32))] [(.ref b_1)])) _
      refine XS.lload X8.here hx rfl (hb hby at_142) rfl ?_
      show Steps p.tables e below (T8.setTop (mkF m 144 #[.val (.long q1), .second, .val (.long q2), .second, .val (.long q3), .second, .val (.ref b_1), .val (.int (1 : Int32))] [(.long q3), (.ref b_1)])) _
      refine st9.trans ?_
      show Steps p.tables e below (T9.setTop (mkF m 147 #[.val (.long q1), .second, .val (.long q2), .second, .val (.long q3), .second, .val (.ref b_1), .val (.int (1 : Int32))] [(.long q3)])) _
      refine XS.lload X9.here hx rfl (hb hby at_147) rfl ?_
      show Steps p.tables e below (T9.setTop (mkF m 149 #[.val (.long q1), .second, .val (.long q2), .second, .val (.long q3), .second, .val (.ref b_1), .val (.int (1 : Int32))] [(.long q3), (.long q3)])) _
      refine XS.lcmp X9.here hx rfl (hb hby at_149) rfl ?_
      show Steps p.tables e below (T9.setTop (mkF m 150 #[.val (.long q1), .second, .val (.long q2), .second, .val (.long q3), .second, .val (.ref b_1), .val (.int (1 : Int32))] [(.int (lcmpW q3 q3))])) _
      refine XS.ifNo X9.here hx rfl (hb hby at_150) rfl ((if0 _ _).trans (teq ((lw_eq _ _).mpr rfl : (lcmpW q3 q3) = (0 : Int32))).2) ?_
      show Steps p.tables e below (T9.setTop (mkF m 153 #[.val (.long q1), .second, .val (.long q2), .second, .val (.long q3), .second, .val (.ref b_1), .val (.int (1 : Int32))] [])) _
      refine XS.iconst X9.here hx rfl (hb hby at_153) ?_
      show Steps p.tables e below (T9.setTop (mkF m 154 #[.val (.long q1), .second, .val (.long q2), .second, .val (.long q3), .second, .val (.ref b_1), .val (.int (1 : Int32))] [(.int (1 : Int32))])) _
      refine XS.goto X9.here hx rfl (pc0 := 154) (pc' := 158) rfl (hb hby at_154) (by decide) (by decide) ?_
      show Steps p.tables e below (T9.setTop (mkF m 158 #[.val (.long q1), .second, .val (.long q2), .second, .val (.long q3), .second, .val (.ref b_1), .val (.int (1 : Int32))] [(.int (1 : Int32))])) _
      refine XS.istore X9.here hx rfl (hb hby at_158) rfl (l' := #[.val (.long q1), .second, .val (.long q2), .second, .val (.long q3), .second, .val (.ref b_1), .val (.int (1 : Int32))]) rfl ?_
      show Steps p.tables e below (T9.setTop (mkF m 160 #[.val (.long q1), .second, .val (.long q2), .second, .val (.long q3), .second, .val (.ref b_1), .val (.int (1 : Int32))] [])) _
      refine XS.iload X9.here hx rfl (hb hby at_160) rfl ?_
      exact kt)
  obtain ⟨fs, hr, hrun, hended, hW, hsame⟩ := X9.leave (v := some (.int (1 : Int32))) (fun h => by rw [Bd.returns] at h; cases h)
  refine ⟨_, _, pre10 _ ?_, hrun, hended, _, _, rfl, ?_, ⟨_, rfl⟩, hW, hsame.mono (by decide) (by decide)⟩
  · show Steps p.tables e below (T9.setTop (mkF m 162 #[.val (.long q1), .second, .val (.long q2), .second, .val (.long q3), .second, .val (.ref b_1), .val (.int (1 : Int32))] [(.int (1 : Int32))])) _
    exact retN X9 hx (t := .boolean) Bd.returns (by simp) (hb hby at_162) hr
  · show Q0 Z q1 q2 q3 h0 n0 _ T9.heap _
    rw [e9]
    exact ⟨rfl, N9⟩
set_option maxRecDepth 65536 in
set_option maxHeartbeats 40000000 in
theorem comes_1 {Post : Tables → Env → Array Value → State → Outcome → State → Prop} (hpost : ∀ tb e args s v u, (limb_1_1.after args s (.returned v) u = true ∧ limb_1_2.after args s (.returned v) u = true ∧ True) → FrameEnd s (.returned v) u (Jvm.fieldLocs frame_1_writes args s ++ Jvm.arrayLocs frame_1_arrays args s ++ Jvm.staticLocs frame_1_statics s) 16 128 → Post tb e args s (.returned v) u) :
    ArmFor flags0 classFile x code maxLocals ret World_1 tables_1 room_1 Calls_1 rest_1 Pre_1 Post := by
  intro l hfl _ _ p e ha hc hk s m args below hf hA hF happ hP
  obtain ⟨hcalls, hrest, hpre⟩ := hP
  obtain ⟨-, -, -, hnamed, -, -, -, hat⟩ := (Spec.applies_iff hf).mp happ
  obtain ⟨hg, hn⟩ := and_e (Cond.before_iff.mp (show (Jvm.Cond.and given_1 narrow_1).before args s = true from hpre))
  obtain ⟨g1, g2⟩ := and_e hg
  obtain ⟨g3, g4⟩ := and_e g2
  obtain ⟨g5, g6⟩ := and_e g4
  obtain ⟨w0, w1, w2, rfl⟩ : ∃ w0 w1 w2 : Value, args = #[w0, w1, w2] := by
    have hs : args.size = 3 := by simpa [Cond.value, given_1] using g1
    obtain ⟨L⟩ := args
    match L, hs with
    | [w0, w1, w2], _ => exact ⟨w0, w1, w2, rfl⟩
  have hw := fun d (hd : d ∈ tables_1) => atoms_spec (ws := Jvm.Cond.code x code maxLocals ret :: tables_1) hat d (List.mem_cons_of_mem _ hd)
  have hfit : Fit s := fun {y c} hc i hi => by
    obtain ⟨ha, rfl⟩ := Array.getElem?_eq_some_iff.mp hc
    have q := List.all_eq_true.mp ((Array.all_eq_true_iff_forall_mem.mp hF) _ (Array.getElem_mem ha)) i (List.mem_range.mpr hi)
    simpa [Array.getElem?_eq_getElem hi] using q
  obtain ⟨i0, ei0⟩ := isL_v g3
  obtain rfl : w0 = (.long i0) := Option.some.inj ei0
  obtain ⟨i1, ei1⟩ := isL_v g5
  obtain rfl : w1 = (.long i1) := Option.some.inj ei1
  obtain ⟨i2, ei2⟩ := isL_v g6
  obtain rfl : w2 = (.long i2) := Option.some.inj ei2
  obtain ⟨n, o, h1, h2, h3, _, L, rfl, ⟨rfl, N⟩, hq⟩ := rm0 l s _ hw tables_1 i0 i1 i2 s.heap s.heap.size (Nat.le_refl _)  p e ha hc hk s m _ below hf ((Spec.applies_iff_loose hf).mp happ).1 ⟨rfl, State.Warmed39.refl s, rfl⟩ trivial
  refine ⟨n, _, h1, h2, h3, hpost _ _ _ _ _ _ ⟨Cond.after_iff.mpr rfl, Cond.after_iff.mpr (eq_i res_at (Term.int_eval (1)) rfl), trivial⟩ ⟨hq.1, hq.2.1, (hq.2.2.sift fun y hy => Or.inr (N y hy)).mono (by decide) (by decide)⟩⟩
theorem main_1_1 : Claimed_1_1 := comes_1 fun _ _ _ _ _ _ h hF => ⟨h.1, hF⟩
theorem main_1_2 : Claimed_1_2 := comes_1 fun _ _ _ _ _ _ h hF => ⟨h.2.1, hF⟩
end Jvm.Pilot.@@N@@
namespace Jvm.Pilot.@@N@@
open Jvm Jvm.ClassFile Sem Op Lib Jvm.Free Jvm.Stand Jvm.Pilot.@@N@@.Jvm.D
/-! MADE BY PROGRAM (witnessworld.py) out of the Statement's table words and the real class files: 9 classes; the members and pool entries that the words name. The judged class is class 1, her method 1. -/
namespace start1
open Jvm.ClassFile
def u (s : String) : CpInfo := .utf8 (stringToUtf16 s)
/-- a pool by its gaps: so many unusable entries, then the entry; so many at the end -/
def gap : Nat → List CpInfo → List CpInfo
  | 0, r => r
  | n + 1, r => .unusable :: gap n r
def poolList (es : List (Nat × CpInfo)) (last : Nat) : List CpInfo := es.foldr (fun e r => gap e.1 (e.2 :: r)) (gap last [])
def pool (es : List (Nat × CpInfo)) (last : Nat) : Array CpInfo := ⟨poolList es last⟩
def fileOf (pool : Array CpInfo) (this : Nat) (attrs : Array Attribute := #[]) (ms : Array MethodInfo := #[]) (fl : Nat := 33) (sup : Nat := 0) (ifs : Array Nat := #[]) (fds : Array FieldInfo := #[]) : ClassFile where
  minorVersion := 0
  majorVersion := 65
  constantPool := pool
  accessFlags := fl
  thisClass := this
  superClass := sup
  interfaces := ifs
  fields := fds
  methods := ms
  attributes := attrs
def plain (name : String) (sup : Option ClassId) : Class where
  name := name
  kind := .ordinary
  loader := none
  accessFlags := 33
  super := sup
  interfaces := #[]
  cf := none
  fields := #[]
  methods := #[]
  instanceTypes := #[]
  staticTypes := #[]
  resolved := #[]
  callSites := []
  init := .initialized
  statics := none
  mirror := none

def pool0 : Array CpInfo := pool [(5, u "<init>"), (0, u "()V"), (1, .class_ 10), (1, u "java/lang/Object")] 113

def k0c0 : Code := { maxStack := 0, maxLocals := 1, code := object_method_1_code, exceptionTable := #[], attributes := #[] }
def k0m0 : Method := { name := "<init>", desc := "()V", sig := { parameters := [], returnType := none }, accessFlags := 1, code := some k0c0 }
/-- java/lang/Object -/
def k0 : Class := { plain "java/lang/Object" none with
  accessFlags := 33
  interfaces := #[]
  cf := some (fileOf pool0 8 #[] #[{ accessFlags := 1, nameIndex := 5, descriptorIndex := 6, attributes := #[] }] 33 0 #[] #[])
  fields := #[]
  methods := #[k0m0]
  instanceTypes := #[]
  staticTypes := #[]
  resolved := Array.replicate 124 none
  statics := none }

def pool1 : Array CpInfo := pool [(2, .class_ 4), (1, u "java/lang/Object"), (0, u "<init>"), (0, u "()V"), (0, .methodref 8 9), (0, .class_ 10), (0, .nameAndType 11 12), (0, u "com/example/attacca/attacca/Varispeed"), (0, u "steady"), (0, u "(J)Lcom/example/attacca/attacca/Varispeed;"), (0, .methodref 8 14), (0, .nameAndType 15 16), (0, u "speed"), (0, u "()D"), (0, .methodref 8 18), (0, .nameAndType 19 20), (0, u "entry"), (0, u "()J"), (0, .methodref 8 22), (0, .nameAndType 23 20), (0, u "steadyFrom"), (0, .methodref 8 25), (0, .nameAndType 26 20), (0, u "resumed"), (0, .methodref 8 28), (0, .nameAndType 29 20), (0, u "length"), (0, .methodref 8 31), (0, .nameAndType 32 33), (0, u "position"), (0, u "(J)D"), (0, .methodref 8 35), (0, .nameAndType 36 37), (0, u "mixFrame"), (0, u "(J)J"), (0, .class_ 39), (0, u "com/example/attacca/attacca/VarispeedSteadyPinLaw"), (2, u "law"), (0, u "(JJJ)Z")] 3

def k1m0 : Method := { name := "<init>", desc := "()V", sig := { parameters := [], returnType := none }, accessFlags := 1, code := none }
def k1c1 : Code := { maxStack := 4, maxLocals := 8, code := code, exceptionTable := #[], attributes := #[] }
def k1m1 : Method := { name := "law", desc := "(JJJ)Z", sig := { parameters := [.long, .long, .long], returnType := some .boolean }, accessFlags := 9, code := some k1c1 }
/-- com/example/attacca/attacca/VarispeedSteadyPinLaw -/
def k1 : Class := { plain "com/example/attacca/attacca/VarispeedSteadyPinLaw" (some 0) with
  accessFlags := 49
  interfaces := #[]
  cf := some (fileOf pool1 38 #[] #[{ accessFlags := 1, nameIndex := 5, descriptorIndex := 6, attributes := #[] }, { accessFlags := 9, nameIndex := 42, descriptorIndex := 43, attributes := #[] }] 49 2 #[] #[])
  fields := #[]
  methods := #[k1m0, k1m1]
  instanceTypes := #[]
  staticTypes := #[]
  resolved := Array.replicate 47 none
  statics := none }

def pool2 : Array CpInfo := pool [(1, .methodref 2 3), (0, .class_ 4), (0, .nameAndType 5 6), (0, u "java/lang/Object"), (0, u "<init>"), (0, u "()V"), (0, .fieldref 8 9), (0, .class_ 10), (0, .nameAndType 11 12), (0, u "com/example/attacca/attacca/Varispeed"), (0, u "frames"), (0, u "J"), (0, .fieldref 8 14), (0, .nameAndType 15 16), (0, u "speed"), (0, u "D"), (0, .fieldref 8 18), (0, .nameAndType 19 12), (0, u "entry"), (0, .fieldref 8 21), (0, .nameAndType 22 12), (0, u "glide"), (0, .fieldref 8 24), (0, .nameAndType 25 12), (0, u "resumed"), (0, .methodref 8 27), (0, .nameAndType 5 28), (0, u "(JDJJJ)V"), (17, u "steady"), (0, u "(J)Lcom/example/attacca/attacca/Varispeed;"), (6, .double 4611686018427387904), (15, .double 4613937818241073152), (6, u "()D"), (0, u "()J"), (0, u "steadyFrom"), (0, u "length"), (0, u "position"), (0, u "(J)D"), (0, u "mixFrame"), (0, u "(J)J")] 17

def k2c0 : Code := { maxStack := 3, maxLocals := 11, code := prog_20_method_1_code, exceptionTable := #[], attributes := #[] }
def k2m0 : Method := { name := "<init>", desc := "(JDJJJ)V", sig := { parameters := [.long, .double, .long, .long, .long], returnType := none }, accessFlags := 2, code := some k2c0 }
def k2c1 : Code := { maxStack := 12, maxLocals := 2, code := prog_20_method_2_code, exceptionTable := #[], attributes := #[] }
def k2m1 : Method := { name := "steady", desc := "(J)Lcom/example/attacca/attacca/Varispeed;", sig := { parameters := [.long], returnType := some (.object "com/example/attacca/attacca/Varispeed") }, accessFlags := 8, code := some k2c1 }
def k2c2 : Code := { maxStack := 2, maxLocals := 1, code := prog_20_method_4_code, exceptionTable := #[], attributes := #[] }
def k2m2 : Method := { name := "speed", desc := "()D", sig := { parameters := [], returnType := some .double }, accessFlags := 0, code := some k2c2 }
def k2c3 : Code := { maxStack := 2, maxLocals := 1, code := prog_20_method_5_code, exceptionTable := #[], attributes := #[] }
def k2m3 : Method := { name := "entry", desc := "()J", sig := { parameters := [], returnType := some .long }, accessFlags := 0, code := some k2c3 }
def k2c4 : Code := { maxStack := 4, maxLocals := 1, code := prog_20_method_6_code, exceptionTable := #[], attributes := #[] }
def k2m4 : Method := { name := "steadyFrom", desc := "()J", sig := { parameters := [], returnType := some .long }, accessFlags := 0, code := some k2c4 }
def k2c5 : Code := { maxStack := 2, maxLocals := 1, code := prog_20_method_7_code, exceptionTable := #[], attributes := #[] }
def k2m5 : Method := { name := "resumed", desc := "()J", sig := { parameters := [], returnType := some .long }, accessFlags := 0, code := some k2c5 }
def k2c6 : Code := { maxStack := 4, maxLocals := 1, code := prog_20_method_8_code, exceptionTable := #[], attributes := #[] }
def k2m6 : Method := { name := "length", desc := "()J", sig := { parameters := [], returnType := some .long }, accessFlags := 0, code := some k2c6 }
def k2c7 : Code := { maxStack := 8, maxLocals := 11, code := prog_20_method_9_code, exceptionTable := #[], attributes := #[] }
def k2m7 : Method := { name := "position", desc := "(J)D", sig := { parameters := [.long], returnType := some .double }, accessFlags := 0, code := some k2c7 }
def k2c8 : Code := { maxStack := 4, maxLocals := 3, code := prog_20_method_10_code, exceptionTable := #[], attributes := #[] }
def k2m8 : Method := { name := "mixFrame", desc := "(J)J", sig := { parameters := [.long], returnType := some .long }, accessFlags := 0, code := some k2c8 }
/-- com/example/attacca/attacca/Varispeed -/
def k2 : Class := { plain "com/example/attacca/attacca/Varispeed" (some 0) with
  accessFlags := 48
  interfaces := #[]
  cf := some (fileOf pool2 8 #[] #[{ accessFlags := 2, nameIndex := 5, descriptorIndex := 28, attributes := #[] }, { accessFlags := 8, nameIndex := 46, descriptorIndex := 47, attributes := #[] }, { accessFlags := 0, nameIndex := 15, descriptorIndex := 77, attributes := #[] }, { accessFlags := 0, nameIndex := 19, descriptorIndex := 78, attributes := #[] }, { accessFlags := 0, nameIndex := 79, descriptorIndex := 78, attributes := #[] }, { accessFlags := 0, nameIndex := 25, descriptorIndex := 78, attributes := #[] }, { accessFlags := 0, nameIndex := 80, descriptorIndex := 78, attributes := #[] }, { accessFlags := 0, nameIndex := 81, descriptorIndex := 82, attributes := #[] }, { accessFlags := 0, nameIndex := 83, descriptorIndex := 84, attributes := #[] }] 48 2 #[] #[{ accessFlags := 18, nameIndex := 11, descriptorIndex := 12, attributes := #[] }, { accessFlags := 18, nameIndex := 15, descriptorIndex := 16, attributes := #[] }, { accessFlags := 18, nameIndex := 19, descriptorIndex := 12, attributes := #[] }, { accessFlags := 18, nameIndex := 22, descriptorIndex := 12, attributes := #[] }, { accessFlags := 18, nameIndex := 25, descriptorIndex := 12, attributes := #[] }])
  fields := #[{ name := "frames", type := .long, accessFlags := 18, slot := 0, constantValue := 0 }, { name := "speed", type := .double, accessFlags := 18, slot := 1, constantValue := 0 }, { name := "entry", type := .long, accessFlags := 18, slot := 2, constantValue := 0 }, { name := "glide", type := .long, accessFlags := 18, slot := 3, constantValue := 0 }, { name := "resumed", type := .long, accessFlags := 18, slot := 4, constantValue := 0 }]
  methods := #[k2m0, k2m1, k2m2, k2m3, k2m4, k2m5, k2m6, k2m7, k2m8]
  instanceTypes := #[.long, .double, .long, .long, .long]
  staticTypes := #[]
  resolved := Array.replicate 102 none
  statics := none }

def pool3 : Array CpInfo := pool [(1, u "java/lang/Cloneable"), (0, .class_ 1), (0, u "java/lang/Object"), (0, .class_ 3)] 3

/-- java/lang/Cloneable -/
def k3 : Class := { plain "java/lang/Cloneable" (some 0) with
  accessFlags := 1537
  interfaces := #[]
  cf := some (fileOf pool3 2 #[] #[] 1537 4 #[] #[])
  fields := #[]
  methods := #[]
  instanceTypes := #[]
  staticTypes := #[]
  resolved := Array.replicate 8 none
  statics := none }

def pool4 : Array CpInfo := pool [(1, u "java/io/Serializable"), (0, .class_ 1), (0, u "java/lang/Object"), (0, .class_ 3)] 3

/-- java/io/Serializable -/
def k4 : Class := { plain "java/io/Serializable" (some 0) with
  accessFlags := 1537
  interfaces := #[]
  cf := some (fileOf pool4 2 #[] #[] 1537 4 #[] #[])
  fields := #[]
  methods := #[]
  instanceTypes := #[]
  staticTypes := #[]
  resolved := Array.replicate 8 none
  statics := none }

/-- the primitive byte -/
def k5 : Class := { plain "byte" none with kind := .primitive 'B', accessFlags := 0x411 }
/-- [B -/
def k6 : Class := { plain "[B" (some 0) with kind := .array 5 .byte, interfaces := #[3, 4], accessFlags := 1041 }

/-- the primitive int -/
def k7 : Class := { plain "int" none with kind := .primitive 'I', accessFlags := 0x411 }
/-- [I -/
def k8 : Class := { plain "[I" (some 0) with kind := .array 7 .int, interfaces := #[3, 4], accessFlags := 1041 }

def heap : Heap := #[]
def classes : Array Class := #[k0, k1, k2, k3, k4, k5, k6, k7, k8]
def interned : List (Array UInt16 × Addr) := []
def slotsUsed : Nat := 0
def theMethod : MethodId := ⟨1, 1⟩
def args0 : Array Value := #[.long 5, .long 3, .long 2]
def aboutOver (below : List Frame) : State where
  vm := { classes := classes, interned := interned.toArray }
  heap := heap
  slotsUsed := slotsUsed
  threads := #[{ frames := .invoking theMethod args0 :: below }]
def below0 : List Frame := [.native { method := ⟨0, 0⟩, args := #[] }]
def about1 : State := aboutOver below0
def p0 : Program := .bare "" "" ""
def e0 : Env := launch0.env 0 0 0
theorem w_frames : about1.frames = Frame.invoking theMethod args0 :: below0 := rfl
set_option maxRecDepth 65536 in
theorem w_args : argsFit about1.vm theMethod args0 = true := by decide +kernel
set_option maxRecDepth 65536 in
theorem w_heap : heapFits about1 = true := by decide +kernel
set_option maxRecDepth 65536 in
theorem w_runnable : about1.curStatus? = some .runnable := by decide +kernel
set_option maxRecDepth 65536 in
theorem w_alone : about1.alone = true := by decide +kernel
set_option maxRecDepth 65536 in
theorem w_named : about1.methodNamed? x = some theMethod := by decide +kernel
set_option maxRecDepth 65536 in
theorem w_hears : about1.hears theMethod below0 = true := by decide +kernel
set_option maxRecDepth 65536 in
theorem w_ripe : about1.ripe theMethod args0 below0 = true := by decide +kernel
theorem w_running : about1.status = .running := rfl
set_option maxRecDepth 65536 in
theorem w_room : about1.hasRoom e0.platform room_1 = true :=
  launch0.hasRoom_least _ room_1 (by decide +kernel) (by decide +kernel) (by decide +kernel) (by decide +kernel) (by decide +kernel) (by decide +kernel)
theorem allAtoms_all (ts : List Jvm.Cond) (a : Array Jvm.Value) (st : Jvm.State) : (allAtoms ts).before a st = ts.all (fun c => c.before a st) := by
  induction ts with
  | nil => rfl
  | cons c t ih =>
    show (Jvm.Cond.and c (allAtoms t)).before a st = _
    rw [Jvm.Cond.before_and, ih, List.all_cons]
def words1 : List Jvm.Cond := Jvm.Cond.code x code maxLocals ret :: tables_1
/-- a 'code' word, met by the world's own term for the bytes: nothing is compared byte by byte -/
theorem code_word {y : MethodName} {bytes : ByteArray} {mx : Nat} {rt : Option FieldType} {a : Array Value} {s : State} {m : MethodId} {meth : Method} {c : Code} (h1 : s.methodNamed? y = some m) (h2 : s.vm.method? m = some meth) (h3 : meth.code = some c) (h4 : c.code = bytes)
    (h5 : (c.maxLocals == mx && c.exceptionTable.isEmpty && decide (c.maxStack ≤ mostOperands) && decide (meth.sig.returnType = rt) && !meth.locks && decide (parseMethodDescriptor y.desc = some meth.sig)) = true) : (Jvm.Cond.code y bytes mx rt).before a s = true := by
  simp only [Bool.and_eq_true, beq_iff_eq, Bool.not_eq_true', decide_eq_true_eq] at h5
  obtain ⟨⟨⟨⟨⟨g1, g2⟩, g3⟩, g4⟩, g5⟩, g6⟩ := h5
  simp [Cond.before, Cond.holds, Cond.value, h1, h2, h3, h4, g1, g2, g3, g4, g5, g6]
def isCode : Jvm.Cond → Bool
  | .code _ _ _ _ => true
  | _ => false
theorem all_split {L : List Jvm.Cond} {P : Jvm.Cond → Bool} (h1 : L.all (fun c => isCode c || P c) = true) (h2 : ∀ c ∈ L.filter isCode, P c = true) : L.all P = true := by
  refine List.all_eq_true.mpr fun c hc => ?_
  have h := List.all_eq_true.mp h1 c hc
  rcases Bool.eq_false_or_eq_true (isCode c) with hi | hi
  · exact h2 c (List.mem_filter.mpr ⟨hc, hi⟩)
  · simpa [hi] using h
set_option maxRecDepth 65536 in
theorem w_c0 : (Jvm.Cond.code x code maxLocals ret).before args0 about1 = true := code_word (m := ⟨1, 1⟩) (meth := k1m1) (c := k1c1) (by decide +kernel) rfl rfl rfl (by decide +kernel)
set_option maxRecDepth 65536 in
theorem w_c1 : (Jvm.Cond.code ({ cls := "com/example/attacca/attacca/Varispeed", name := "steady", desc := "(J)Lcom/example/attacca/attacca/Varispeed;" } : Jvm.MethodName) prog_20_method_2_code (2 : Nat) (Option.some (Jvm.ClassFile.FieldType.object "com/example/attacca/attacca/Varispeed"))).before args0 about1 = true := code_word (m := ⟨2, 1⟩) (meth := k2m1) (c := k2c1) (by decide +kernel) rfl rfl rfl (by decide +kernel)
set_option maxRecDepth 65536 in
theorem w_c2 : (Jvm.Cond.code ({ cls := "com/example/attacca/attacca/Varispeed", name := "<init>", desc := "(JDJJJ)V" } : Jvm.MethodName) prog_20_method_1_code (11 : Nat) (Option.none : Option Jvm.ClassFile.FieldType)).before args0 about1 = true := code_word (m := ⟨2, 0⟩) (meth := k2m0) (c := k2c0) (by decide +kernel) rfl rfl rfl (by decide +kernel)
set_option maxRecDepth 65536 in
theorem w_c3 : (Jvm.Cond.code ({ cls := "java/lang/Object", name := "<init>", desc := "()V" } : Jvm.MethodName) object_method_1_code (1 : Nat) (Option.none : Option Jvm.ClassFile.FieldType)).before args0 about1 = true := code_word (m := ⟨0, 0⟩) (meth := k0m0) (c := k0c0) (by decide +kernel) rfl rfl rfl (by decide +kernel)
set_option maxRecDepth 65536 in
theorem w_c4 : (Jvm.Cond.code ({ cls := "com/example/attacca/attacca/Varispeed", name := "speed", desc := "()D" } : Jvm.MethodName) prog_20_method_4_code (1 : Nat) (Option.some Jvm.ClassFile.FieldType.double)).before args0 about1 = true := code_word (m := ⟨2, 2⟩) (meth := k2m2) (c := k2c2) (by decide +kernel) rfl rfl rfl (by decide +kernel)
set_option maxRecDepth 65536 in
theorem w_c5 : (Jvm.Cond.code ({ cls := "com/example/attacca/attacca/Varispeed", name := "entry", desc := "()J" } : Jvm.MethodName) prog_20_method_5_code (1 : Nat) (Option.some Jvm.ClassFile.FieldType.long)).before args0 about1 = true := code_word (m := ⟨2, 3⟩) (meth := k2m3) (c := k2c3) (by decide +kernel) rfl rfl rfl (by decide +kernel)
set_option maxRecDepth 65536 in
theorem w_c6 : (Jvm.Cond.code ({ cls := "com/example/attacca/attacca/Varispeed", name := "steadyFrom", desc := "()J" } : Jvm.MethodName) prog_20_method_6_code (1 : Nat) (Option.some Jvm.ClassFile.FieldType.long)).before args0 about1 = true := code_word (m := ⟨2, 4⟩) (meth := k2m4) (c := k2c4) (by decide +kernel) rfl rfl rfl (by decide +kernel)
set_option maxRecDepth 65536 in
theorem w_c7 : (Jvm.Cond.code ({ cls := "com/example/attacca/attacca/Varispeed", name := "resumed", desc := "()J" } : Jvm.MethodName) prog_20_method_7_code (1 : Nat) (Option.some Jvm.ClassFile.FieldType.long)).before args0 about1 = true := code_word (m := ⟨2, 5⟩) (meth := k2m5) (c := k2c5) (by decide +kernel) rfl rfl rfl (by decide +kernel)
set_option maxRecDepth 65536 in
theorem w_c8 : (Jvm.Cond.code ({ cls := "com/example/attacca/attacca/Varispeed", name := "length", desc := "()J" } : Jvm.MethodName) prog_20_method_8_code (1 : Nat) (Option.some Jvm.ClassFile.FieldType.long)).before args0 about1 = true := code_word (m := ⟨2, 6⟩) (meth := k2m6) (c := k2c6) (by decide +kernel) rfl rfl rfl (by decide +kernel)
set_option maxRecDepth 65536 in
theorem w_c9 : (Jvm.Cond.code ({ cls := "com/example/attacca/attacca/Varispeed", name := "position", desc := "(J)D" } : Jvm.MethodName) prog_20_method_9_code (11 : Nat) (Option.some Jvm.ClassFile.FieldType.double)).before args0 about1 = true := code_word (m := ⟨2, 7⟩) (meth := k2m7) (c := k2c7) (by decide +kernel) rfl rfl rfl (by decide +kernel)
set_option maxRecDepth 65536 in
theorem w_c10 : (Jvm.Cond.code ({ cls := "com/example/attacca/attacca/Varispeed", name := "mixFrame", desc := "(J)J" } : Jvm.MethodName) prog_20_method_10_code (3 : Nat) (Option.some Jvm.ClassFile.FieldType.long)).before args0 about1 = true := code_word (m := ⟨2, 8⟩) (meth := k2m8) (c := k2c8) (by decide +kernel) rfl rfl rfl (by decide +kernel)
def codes1 : List Jvm.Cond := [Jvm.Cond.code x code maxLocals ret, Jvm.Cond.code ({ cls := "com/example/attacca/attacca/Varispeed", name := "steady", desc := "(J)Lcom/example/attacca/attacca/Varispeed;" } : Jvm.MethodName) prog_20_method_2_code (2 : Nat) (Option.some (Jvm.ClassFile.FieldType.object "com/example/attacca/attacca/Varispeed")), Jvm.Cond.code ({ cls := "com/example/attacca/attacca/Varispeed", name := "<init>", desc := "(JDJJJ)V" } : Jvm.MethodName) prog_20_method_1_code (11 : Nat) (Option.none : Option Jvm.ClassFile.FieldType), Jvm.Cond.code ({ cls := "java/lang/Object", name := "<init>", desc := "()V" } : Jvm.MethodName) object_method_1_code (1 : Nat) (Option.none : Option Jvm.ClassFile.FieldType), Jvm.Cond.code ({ cls := "com/example/attacca/attacca/Varispeed", name := "speed", desc := "()D" } : Jvm.MethodName) prog_20_method_4_code (1 : Nat) (Option.some Jvm.ClassFile.FieldType.double), Jvm.Cond.code ({ cls := "com/example/attacca/attacca/Varispeed", name := "entry", desc := "()J" } : Jvm.MethodName) prog_20_method_5_code (1 : Nat) (Option.some Jvm.ClassFile.FieldType.long), Jvm.Cond.code ({ cls := "com/example/attacca/attacca/Varispeed", name := "steadyFrom", desc := "()J" } : Jvm.MethodName) prog_20_method_6_code (1 : Nat) (Option.some Jvm.ClassFile.FieldType.long), Jvm.Cond.code ({ cls := "com/example/attacca/attacca/Varispeed", name := "resumed", desc := "()J" } : Jvm.MethodName) prog_20_method_7_code (1 : Nat) (Option.some Jvm.ClassFile.FieldType.long), Jvm.Cond.code ({ cls := "com/example/attacca/attacca/Varispeed", name := "length", desc := "()J" } : Jvm.MethodName) prog_20_method_8_code (1 : Nat) (Option.some Jvm.ClassFile.FieldType.long), Jvm.Cond.code ({ cls := "com/example/attacca/attacca/Varispeed", name := "position", desc := "(J)D" } : Jvm.MethodName) prog_20_method_9_code (11 : Nat) (Option.some Jvm.ClassFile.FieldType.double), Jvm.Cond.code ({ cls := "com/example/attacca/attacca/Varispeed", name := "mixFrame", desc := "(J)J" } : Jvm.MethodName) prog_20_method_10_code (3 : Nat) (Option.some Jvm.ClassFile.FieldType.long)]
set_option maxRecDepth 65536 in
theorem codes_eq : words1.filter isCode = codes1 := rfl
theorem w_codes : ∀ c ∈ words1.filter isCode, c.before args0 about1 = true := by
  rw [codes_eq]
  intro c hc
  simp only [codes1, List.mem_cons, List.not_mem_nil, or_false] at hc
  rcases hc with rfl | rfl | rfl | rfl | rfl | rfl | rfl | rfl | rfl | rfl | rfl
  · exact w_c0
  · exact w_c1
  · exact w_c2
  · exact w_c3
  · exact w_c4
  · exact w_c5
  · exact w_c6
  · exact w_c7
  · exact w_c8
  · exact w_c9
  · exact w_c10
set_option maxRecDepth 65536 in
theorem w_t1 : (words1.take 24).all (fun c => isCode c || c.before args0 about1) = true := by decide +kernel
set_option maxRecDepth 65536 in
theorem w_t2 : ((words1.drop 24).take 24).all (fun c => isCode c || c.before args0 about1) = true := by decide +kernel
set_option maxRecDepth 65536 in
theorem w_t3 : ((words1.drop 24).drop 24).all (fun c => isCode c || c.before args0 about1) = true := by decide +kernel
theorem w_tables : (allAtoms (Jvm.Cond.code x code maxLocals ret :: tables_1)).before args0 about1 = true := by
  rw [allAtoms_all]
  show words1.all (fun c => c.before args0 about1) = true
  refine all_split ?_ w_codes
  rw [← List.take_append_drop 24 words1, List.all_append, w_t1, ← List.take_append_drop 24 (words1.drop 24), List.all_append, w_t2, w_t3]
  rfl
set_option maxRecDepth 65536 in
theorem w_case : (Jvm.Cond.and given_1 narrow_1).before args0 about1 = true := by decide +kernel
theorem w_applies : (headSpec (Jvm.Cond.code x code maxLocals ret :: tables_1) room_1).applies x e0.platform about1 = true :=
  (Spec.applies_iff w_frames).mpr ⟨w_running, w_runnable, w_alone, w_named, w_hears, w_ripe, w_room, w_tables⟩
theorem atStart : AtStart classFile x code maxLocals ret World_1 tables_1 room_1 Calls_1 rest_1 Pre_1 launch0 p0 e0 about1 theMethod args0 below0 :=
  ⟨lists_1, trivial, launch0.admits_env _ _ _, launch0.least_env, fairChoices_fair.cas, fairChoices_fair.clock, w_frames, w_args, w_heap, w_applies, trivial, trivial, w_case⟩
end start1
theorem witness_1 : WitnessClaimed_1 := ⟨start1.p0, start1.e0, start1.about1, start1.theMethod, start1.args0, start1.below0, start1.atStart⟩
end Jvm.Pilot.@@N@@
