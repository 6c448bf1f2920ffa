import JvmDerived
import JvmDerived.Pilot.@@N@@Statement
import JvmDerived.Pilot.@@N@@Code
set_option linter.unusedVariables false
set_option linter.unusedSimpArgs false
namespace Jvm.RoadKit
open Sem ClassFile Op Lib Jvm.Stand Jvm.Free Jvm.LawKit
section New
variable {p : Program} {l : Launch} {e : Env} {R : Room} {s : State} {m : MethodId} {args : Array Value} {below : List Frame} {meth : Method} {c : Code} {T : State} {locs : List Loc} {cells slots : Nat}
theorem retI (X : Stand p l e R s m args below meth c T locs cells slots) (hx : p.tables.exec = Jvm.exec) {pc : Nat} {Ls : Array Slot} {z : Int32} {rest : List Value} (hret : meth.sig.returnType = some .int) (hd : decode c.code pc = .ok (.ireturn, 1)) {fs : List Frame}
    (hl : ∀ (f : JFrame) (acts : List Action), f.method = m → f.locked = none → f.entered = [] → (doReturn e (T.setTop f) acts (some (.int z))).1 = T.setFrames fs) : Steps p.tables e below (T.setTop (mkF m pc Ls (.int z :: rest))) (T.setFrames fs) := by
  have hm' : T.vm.method? m = some meth := X.method'
  have hn : narrow .int (.int z) = .int z := rfl
  show Steps p.tables e below (T.setTop { method := m, pc := pc, locals := Ls, stack := _ :: rest, locked := none }) _
  jvm_step X.here [X.here.top, hx, hd, hm', hret, hn]
  first | (intro acts; rw [hl _ acts rfl rfl rfl]) | rw [hl _ _ rfl rfl rfl]
  exact Steps.refl _
theorem own_retJ (X : Stand p l e R s m args below meth c T locs cells slots) (hx : p.tables.exec = Jvm.exec) {pc : Nat} {Ls : Array Slot} {z : Int64} {rest : List Value} (hret : meth.sig.returnType = some .long) (hd : decode c.code pc = .ok (.lreturn, 1)) {fs : List Frame}
    (hl : ∀ (f : JFrame) (acts : List Action), f.method = m → f.locked = none → f.entered = [] → (doReturn e (T.setTop f) acts (some (.long z))).1 = T.setFrames fs) : Steps p.tables e below (T.setTop (mkF m pc Ls (.long z :: rest))) (T.setFrames fs) := by
  have hm' : T.vm.method? m = some meth := X.method'
  show Steps p.tables e below (T.setTop { method := m, pc := pc, locals := Ls, stack := _ :: rest, locked := none }) _
  jvm_step X.here [X.here.top, hx, hd, hm', hret, narrow]
  first | (intro acts; rw [hl _ acts rfl rfl rfl]) | rw [hl _ _ rfl rfl rfl]
  exact Steps.refl _
theorem own_retD (X : Stand p l e R s m args below meth c T locs cells slots) (hx : p.tables.exec = Jvm.exec) {pc : Nat} {Ls : Array Slot} {z : UInt64} {rest : List Value} (hret : meth.sig.returnType = some .double) (hd : decode c.code pc = .ok (.dreturn, 1)) {fs : List Frame}
    (hl : ∀ (f : JFrame) (acts : List Action), f.method = m → f.locked = none → f.entered = [] → (doReturn e (T.setTop f) acts (some (.double z))).1 = T.setFrames fs) : Steps p.tables e below (T.setTop (mkF m pc Ls (.double z :: rest))) (T.setFrames fs) := by
  have hm' : T.vm.method? m = some meth := X.method'
  show Steps p.tables e below (T.setTop { method := m, pc := pc, locals := Ls, stack := _ :: rest, locked := none }) _
  jvm_step X.here [X.here.top, hx, hd, hm', hret, narrow]
  first | (intro acts; rw [hl _ acts rfl rfl rfl]) | rw [hl _ _ rfl rfl rfl]
  exact Steps.refl _
theorem own_retR (X : Stand p l e R s m args below meth c T locs cells slots) (hx : p.tables.exec = Jvm.exec) {pc : Nat} {Ls : Array Slot} {z : Addr} {rest : List Value} {ty : FieldType} (hret : meth.sig.returnType = some ty) (hty : ty.isReference = true) (hd : decode c.code pc = .ok (.areturn, 1)) {fs : List Frame}
    (hl : ∀ (f : JFrame) (acts : List Action), f.method = m → f.locked = none → f.entered = [] → (doReturn e (T.setTop f) acts (some (.ref z))).1 = T.setFrames fs) : Steps p.tables e below (T.setTop (mkF m pc Ls (.ref z :: rest))) (T.setFrames fs) := by
  have hm' : T.vm.method? m = some meth := X.method'
  show Steps p.tables e below (T.setTop { method := m, pc := pc, locals := Ls, stack := _ :: rest, locked := none }) _
  jvm_step X.here [X.here.top, hx, hd, hm', hret, hty, Value.isRef]
  first | (intro acts; rw [hl _ acts rfl rfl rfl]) | rw [hl _ _ rfl rfl rfl]
  exact Steps.refl _
theorem own_nm0 {a : Addr} : a ∉ ([] : List Addr) := List.not_mem_nil
theorem own_nmc {a w : Addr} {ws : List Addr} (h : a ≠ w) (r : a ∉ ws) : a ∉ w :: ws := fun q => (List.mem_cons.mp q).elim h r
theorem own_wm0 {P : Addr → Prop} : ∀ x ∈ ([] : List Addr), P x := fun _ q => nomatch q
theorem own_wmc {P : Addr → Prop} {w : Addr} {ws : List Addr} (h : P w) (r : ∀ x ∈ ws, P x) : ∀ x ∈ w :: ws, P x := fun x q => (List.mem_cons.mp q).elim (fun z => z ▸ h) (r x)
end New
end Jvm.RoadKit
namespace Jvm.OwnFP
open Jvm.FP Jvm.Free.Fl Sem ClassFile Op
/-- the double's value in units of 2 ^ -1074 -/
def zv (x : UInt64) : Int := Core.zval Core.b64 (Core.val64 x)
def zm (x : UInt64) : Nat := Core.zmag Core.b64 (Core.val64 x)
theorem nn {x : UInt64} (h : NoNaN64 x) : Core.val64 x ≠ .nan := (Core.notNaN_iff x).mp (noNaN64_no.mp h)
theorem nnF {x : UInt64} (h : Fin64 x) : NoNaN64 x := h.noNaN
theorem cv {x y : UInt64} (hx : NoNaN64 x) (hy : NoNaN64 y) (o : CmpOp) : cmpValue (FP.dcmp x y) o = if zv x < zv y then -1 else if zv x = zv y then 0 else 1 := by
  have h : FP.dcmp x y = some (compare (zv x) (zv y)) := Core.dcmp_zval (nn hx) (nn hy)
  rw [h, Core.compare_ite]
  by_cases h1 : zv x < zv y
  · rw [if_pos h1, if_pos h1]; cases o <;> rfl
  · rw [if_neg h1, if_neg h1]
    by_cases h2 : zv x = zv y
    · rw [if_pos h2, if_pos h2]; cases o <;> rfl
    · rw [if_neg h2, if_neg h2]; cases o <;> rfl
theorem cv_lt {x y : UInt64} (hx : NoNaN64 x) (hy : NoNaN64 y) (h : zv x < zv y) (o : CmpOp) : cmpValue (FP.dcmp x y) o = -1 := by rw [cv hx hy, if_pos h]
theorem cv_eq {x y : UInt64} (hx : NoNaN64 x) (hy : NoNaN64 y) (h : zv x = zv y) (o : CmpOp) : cmpValue (FP.dcmp x y) o = 0 := by rw [cv hx hy, if_neg (by omega), if_pos h]
theorem cv_gt {x y : UInt64} (hx : NoNaN64 x) (hy : NoNaN64 y) (h : zv y < zv x) (o : CmpOp) : cmpValue (FP.dcmp x y) o = 1 := by rw [cv hx hy, if_neg (by omega), if_neg (by omega)]
theorem cv_ge {x y : UInt64} (hx : NoNaN64 x) (hy : NoNaN64 y) (h : zv y ≤ zv x) (o : CmpOp) : ¬ cmpValue (FP.dcmp x y) o < 0 := by
  rw [cv hx hy, if_neg (by omega)]; split <;> decide
theorem cv_le {x y : UInt64} (hx : NoNaN64 x) (hy : NoNaN64 y) (h : zv x ≤ zv y) (o : CmpOp) : ¬ 0 < cmpValue (FP.dcmp x y) o := by
  rw [cv hx hy]; split
  · decide
  · rw [if_pos (by omega)]; decide
theorem sh {x : UInt64} (h : Fin64 x) : ∃ s c q, Core.val64 x = .fin s c q := fin64_core.mp h
theorem zv_dint {i : Int} {x : UInt64} (h : Core.DInt i x) : zv x = i * (Core.one64 : Int) := Core.DInt_zval h
theorem zv_zero : zv 0 = 0 := Core.zval64_zero
theorem fin_zero : Fin64 0 := by unfold Fin64; decide
theorem fin_one : Fin64 4607182418800017408 := by unfold Fin64; decide
theorem one_pos : (0 : Int) < (Core.one64 : Int) := by have := Core.one64_pos; omega
theorem zv_sgn (x : UInt64) : zv x = Core.signed (Core.sgn (Core.val64 x)) (zm x) := rfl
theorem zm_abs (x : UInt64) : (zv x).natAbs = zm x := by rw [zv_sgn, Core.natAbs_signed]
theorem add_le {x y v : UInt64} (hx : Fin64 x) (hy : Fin64 y) (hv : NoNaN64 v) (h : zv x + zv y ≤ zv v) : zv (FP.dadd x y) ≤ zv v := by
  show Core.zval Core.b64 (Core.val64 (Core.dadd x y)) ≤ _
  rw [Core.val64_dadd]
  exact Core.sum_le Core.good_b64 (sh hx) (sh hy) (Core.val64_fits x) (Core.val64_fits y) (Core.val64_fits v) (nn hv) h
theorem add_ge {x y v : UInt64} (hx : Fin64 x) (hy : Fin64 y) (hv : NoNaN64 v) (h : zv v ≤ zv x + zv y) : zv v ≤ zv (FP.dadd x y) := by
  show _ ≤ Core.zval Core.b64 (Core.val64 (Core.dadd x y))
  rw [Core.val64_dadd]
  exact Core.sum_ge Core.good_b64 (sh hx) (sh hy) (Core.val64_fits x) (Core.val64_fits y) (Core.val64_fits v) (nn hv) h
theorem shn {x : UInt64} (h : Fin64 x) : ∃ s c q, Core.negate (Core.val64 x) = .fin s c q := by
  obtain ⟨s, c, q, e⟩ := sh h; exact ⟨!s, c, q, by rw [e]; rfl⟩
theorem sub_le {x y v : UInt64} (hx : Fin64 x) (hy : Fin64 y) (hv : NoNaN64 v) (h : zv x - zv y ≤ zv v) : zv (FP.dsub x y) ≤ zv v := by
  show Core.zval Core.b64 (Core.val64 (Core.dsub x y)) ≤ _
  rw [Core.val64_dsub]
  exact Core.sum_le Core.good_b64 (sh hx) (shn hy) (Core.val64_fits x) (Core.negate_fits (Core.val64_fits y)) (Core.val64_fits v) (nn hv) (by rw [Core.zval_negate]; exact h)
theorem sub_ge {x y v : UInt64} (hx : Fin64 x) (hy : Fin64 y) (hv : NoNaN64 v) (h : zv v ≤ zv x - zv y) : zv v ≤ zv (FP.dsub x y) := by
  show _ ≤ Core.zval Core.b64 (Core.val64 (Core.dsub x y))
  rw [Core.val64_dsub]
  exact Core.sum_ge Core.good_b64 (sh hx) (shn hy) (Core.val64_fits x) (Core.negate_fits (Core.val64_fits y)) (Core.val64_fits v) (nn hv) (by rw [Core.zval_negate]; exact h)
/-- no NaN and no greater than something finite: finite -/
theorem fin_of {x v : UInt64} (hx : NoNaN64 x) (hv : Fin64 v) (h : zm x ≤ zm v) : Fin64 x := by
  refine fin64_core.mpr ?_
  have h1 : Core.zmag Core.b64 (Core.val64 v) < _ := (fin64_core.mp hv).zval_lt
  have h2 := nn hx
  unfold zm at h
  cases e : Core.val64 x with
  | nan => exact absurd e h2
  | inf s => rw [e] at h; exact absurd (Nat.lt_of_le_of_lt h h1) (Nat.lt_irrefl _)
  | fin s c q => exact ⟨s, c, q, e⟩
/-- 2 ^ -k in those units -/
def U (k : Nat) : Int := ((2 ^ (1074 - k) : Nat) : Int)
theorem U_pos (k : Nat) : 0 < U k := by unfold U; have := Nat.two_pow_pos (1074 - k); omega
theorem U_zero : U 0 = (Core.one64 : Int) := rfl
theorem U_add {k j : Nat} (h : k + j ≤ 1074) : U k = ((2 ^ j : Nat) : Int) * U (k + j) := by
  unfold U
  rw [← Int.natCast_mul, ← Nat.pow_add, show j + (1074 - (k + j)) = 1074 - k by omega]
/-- x is i / 2 ^ k, exactly -/
def Is (x : UInt64) (i : Int) (k : Nat) : Prop := Fin64 x ∧ zv x = i * U k
theorem signed_abs (i : Int) : Core.signed (decide (i < 0)) i.natAbs = i := by
  unfold Core.signed
  by_cases h : i < 0
  · simp [h]; omega
  · simp [h]; omega
theorem repr (i : Int) (k : Nat) (hk : k ≤ 1074) (hi : i.natAbs < 2 ^ 53) : ∃ v : UInt64, Is v i k := by
  obtain ⟨c', q', h1, h2⟩ := Core.round_exact Core.good_b64 (decide (i < 0)) (c := i.natAbs) (q := -(k : Int)) hi (by rw [Core.qmin_b64]; omega) (by show _ ≤ (971 : Int); omega)
  have hf : Core.fits Core.b64 (.fin (decide (i < 0)) c' q') := h1 ▸ Core.round_fits Core.good_b64 _
  have hv := Core.val64_of64 hf
  refine ⟨Core.of64 (.fin (decide (i < 0)) c' q'), fin64_core.mpr ⟨_, _, _, hv⟩, ?_⟩
  unfold zv Core.zval
  rw [hv]
  show Core.signed (decide (i < 0)) (Core.inUnits c' q' Core.b64.qmin) = _
  rw [h2]
  unfold Core.inUnits
  rw [Core.signed_mul, signed_abs, Core.qmin_b64]
  unfold U
  rw [show (-(k : Int) - -1074).toNat = 1074 - k by omega]
theorem is_dint {i : Int} {x : UInt64} (h : Core.DInt i x) (hf : Fin64 x) : Is x i 0 := ⟨hf, by rw [zv_dint h, U_zero]⟩
theorem is_i2d (v : Int32) : Is (FP.i2d v) v.toInt 0 := is_dint (Core.i2d_int v) (i2d_fin v)
theorem is_l2d {v : Int64} (h : v.toInt.natAbs ≤ 2 ^ 53) : Is (FP.l2d v) v.toInt 0 := is_dint (Core.l2d_int h) (l2d_fin v)
theorem is_zero (k : Nat) : Is 0 0 k := ⟨fin_zero, by rw [zv_zero, Int.zero_mul]⟩
theorem is_one : Is 4607182418800017408 1 0 := is_dint Core.dint_one fin_one
theorem Is.nn {x : UInt64} {i : Int} {k : Nat} (h : Is x i k) : NoNaN64 x := h.1.noNaN
theorem Is.up {x : UInt64} {i : Int} {k : Nat} (h : Is x i k) (j : Nat) (hj : k + j ≤ 1074) : Is x (i * ((2 ^ j : Nat) : Int)) (k + j) := ⟨h.1, by rw [h.2, U_add hj, Int.mul_assoc]⟩
theorem is_val {x v : UInt64} {i : Int} {k : Nat} (hn : NoNaN64 x) (hv : Is v i k) (h : zv x = zv v) : Is x i k := ⟨fin_of hn hv.1 (by rw [← zm_abs, ← zm_abs, h]; exact Nat.le_refl _), h.trans hv.2⟩
theorem Is.add {x y : UInt64} {i j : Int} {k : Nat} (hx : Is x i k) (hy : Is y j k) (hk : k ≤ 1074) (h : (i + j).natAbs < 2 ^ 53) : Is (FP.dadd x y) (i + j) k := by
  obtain ⟨v, hv⟩ := repr (i + j) k hk h
  have e : zv x + zv y = zv v := by rw [hx.2, hy.2, hv.2, Int.add_mul]
  exact is_val (dadd_out hx.nn hy.1) hv (Int.le_antisymm (add_le hx.1 hy.1 hv.nn (by omega)) (add_ge hx.1 hy.1 hv.nn (by omega)))
theorem Is.sub {x y : UInt64} {i j : Int} {k : Nat} (hx : Is x i k) (hy : Is y j k) (hk : k ≤ 1074) (h : (i - j).natAbs < 2 ^ 53) : Is (FP.dsub x y) (i - j) k := by
  obtain ⟨v, hv⟩ := repr (i - j) k hk h
  have e : zv x - zv y = zv v := by rw [hx.2, hy.2, hv.2, Int.sub_mul]
  exact is_val (dsub_out hx.nn hy.1) hv (Int.le_antisymm (sub_le hx.1 hy.1 hv.nn (by omega)) (sub_ge hx.1 hy.1 hv.nn (by omega)))
theorem Is.lt_iff {x y : UInt64} {i j : Int} {k : Nat} (hx : Is x i k) (hy : Is y j k) : zv x < zv y ↔ i < j := by
  rw [hx.2, hy.2]; exact Int.mul_lt_mul_right (U_pos k)
theorem Is.eq_iff {x y : UInt64} {i j : Int} {k : Nat} (hx : Is x i k) (hy : Is y j k) : zv x = zv y ↔ i = j := by
  rw [hx.2, hy.2]; exact ⟨fun h => Int.eq_of_mul_eq_mul_right (Int.ne_of_gt (U_pos k)) h, fun h => by rw [h]⟩
theorem Is.cmp {x y : UInt64} {i j : Int} {k : Nat} (hx : Is x i k) (hy : Is y j k) (o : CmpOp) : cmpValue (FP.dcmp x y) o = if i < j then -1 else if i = j then 0 else 1 := by
  rw [cv hx.nn hy.nn]
  simp only [hx.lt_iff hy, hx.eq_iff hy]
/-- a quotient: her magnitude lies on the same side of any double as the true one; her sign is the signs' product -/
theorem div_shape {x y : UInt64} (hx : Fin64 x) (hy : Fin64 y) (hz : zm y ≠ 0) : ∃ (s t : Bool) (c d : Nat) (q r : Int), Core.val64 x = .fin s c q ∧ Core.val64 y = .fin t d r ∧ 0 < d ∧ Core.val64 (FP.ddiv x y) = Core.roundRatio Core.b64 (s != t) c d (q - r) := by
  obtain ⟨s, c, q, e1⟩ := sh hx
  obtain ⟨t, d, r, e2⟩ := sh hy
  have hd : d ≠ 0 := fun h => hz (by unfold zm; rw [e2]; show Core.inUnits d r _ = 0; rw [h]; simp [Core.inUnits])
  refine ⟨s, t, c, d, q, r, e1, e2, by omega, ?_⟩
  have := Core.val64_ddiv x y
  rw [e1, e2] at this
  show Core.val64 (Core.ddiv x y) = _
  rw [this]
  simp [Core.quotient, hd]
theorem units2 (c : Nat) (q r : Int) (hq : -1074 ≤ q) (hr : -1074 ≤ r) : Core.inUnits c (q - r) (-1074 - (r + 1074)) = Core.inUnits c q (-1074) * Core.one64 := by
  unfold Core.inUnits Core.one64
  rw [Nat.mul_assoc, ← Nat.pow_add]
  congr 2
  omega
theorem div_le {x y v : UInt64} (hx : Fin64 x) (hy : Fin64 y) (hz : zm y ≠ 0) (hv : NoNaN64 v) (h : zm x * Core.one64 ≤ zm v * zm y) : zm (FP.ddiv x y) ≤ zm v := by
  obtain ⟨s, t, c, d, q, r, e1, e2, hd, e3⟩ := div_shape hx hy hz
  have f1 := Core.val64_fits x; have f2 := Core.val64_fits y
  rw [e1] at f1; rw [e2] at f2
  have q1 := f1.2.1; have r1 := f2.2.1
  rw [Core.qmin_b64] at q1 r1
  unfold zm at h ⊢
  rw [e3]
  rw [e1, e2] at h
  refine Core.zmag_roundRatio_le Core.good_b64 hd (Core.val64_fits v) (nn hv) (e0 := -1074 - (r + 1074)) (by rw [Core.qmin_b64]; omega) (by omega) ?_
  rw [units2 c q r q1 r1, Core.qmin_b64, show (-1074 - (-1074 - (r + 1074))).toNat = (r + 1074).toNat by omega]
  change Core.inUnits c q Core.b64.qmin * _ ≤ _ * Core.inUnits d r Core.b64.qmin at h
  rw [Core.qmin_b64] at h
  refine Nat.le_trans h (Nat.le_of_eq ?_)
  unfold Core.inUnits
  rw [show (r - -1074).toNat = (r + 1074).toNat by omega]
  ac_rfl
theorem div_ge {x y v : UInt64} (hx : Fin64 x) (hy : Fin64 y) (hz : zm y ≠ 0) (h : zm v * zm y ≤ zm x * Core.one64) : zm v ≤ zm (FP.ddiv x y) := by
  obtain ⟨s, t, c, d, q, r, e1, e2, hd, e3⟩ := div_shape hx hy hz
  have f1 := Core.val64_fits x; have f2 := Core.val64_fits y
  rw [e1] at f1; rw [e2] at f2
  have q1 := f1.2.1; have r1 := f2.2.1
  rw [Core.qmin_b64] at q1 r1
  unfold zm at h ⊢
  rw [e3]
  rw [e1, e2] at h
  refine Core.zmag_roundRatio_ge Core.good_b64 hd (Core.val64_fits v) (e0 := -1074 - (r + 1074)) (by rw [Core.qmin_b64]; omega) (by omega) ?_
  rw [units2 c q r q1 r1, Core.qmin_b64, show (-1074 - (-1074 - (r + 1074))).toNat = (r + 1074).toNat by omega]
  change _ * Core.inUnits d r Core.b64.qmin ≤ Core.inUnits c q Core.b64.qmin * _ at h
  rw [Core.qmin_b64] at h
  refine Nat.le_trans (Nat.le_of_eq ?_) h
  unfold Core.inUnits
  rw [show (r - -1074).toNat = (r + 1074).toNat by omega]
  ac_rfl
theorem div_sgn {x y : UInt64} (hx : Fin64 x) (hy : Fin64 y) (hz : zm y ≠ 0) : Core.sgn (Core.val64 (FP.ddiv x y)) = (Core.sgn (Core.val64 x) != Core.sgn (Core.val64 y)) := by
  obtain ⟨s, t, c, d, q, r, e1, e2, hd, e3⟩ := div_shape hx hy hz
  rw [e3, Core.sgn_roundRatio, e1, e2]; rfl
theorem nz_of {y : UInt64} (hy : Fin64 y) (hz : zm y ≠ 0) : Nz64 y := by
  refine nz64_core.mpr fun ⟨s, q, e⟩ => hz ?_
  unfold zm; rw [e]; simp [Core.zmag, Core.inUnits]
theorem div_nn {x y : UInt64} (hx : Fin64 x) (hy : Fin64 y) (hz : zm y ≠ 0) : NoNaN64 (FP.ddiv x y) := ddiv_out hx.noNaN hy (nz_of hy hz)
theorem sgn_pos {x : UInt64} (h : 0 < zv x) : Core.sgn (Core.val64 x) = false := by
  rw [zv_sgn] at h
  cases e : Core.sgn (Core.val64 x)
  · rfl
  · rw [e] at h; simp [Core.signed] at h; omega
theorem zv_of_pos {x : UInt64} (h : Core.sgn (Core.val64 x) = false) : zv x = (zm x : Int) := by rw [zv_sgn, h]; rfl
theorem Is.zm {x : UInt64} {i : Int} {k : Nat} (h : Is x i k) : (OwnFP.zm x : Int) = (i.natAbs : Int) * U k := by
  rw [← zm_abs, h.2, Int.natAbs_mul, Int.natCast_mul, Int.natAbs_of_nonneg (Int.le_of_lt (U_pos k))]
/-- i / 2 ^ j is exact -/
theorem Is.div2 {x y : UInt64} {i : Int} {j : Nat} (hx : Is x i 0) (hy : Is y ((2 ^ j : Nat) : Int) 0) (hj : j ≤ 1074) (hi : i.natAbs < 2 ^ 53) : Is (FP.ddiv x y) i j := by
  obtain ⟨v, hv⟩ := repr i j hj hi
  have p2 := Nat.two_pow_pos j
  have hyz : (OwnFP.zm y : Int) = ((2 ^ j : Nat) : Int) * U 0 := by rw [hy.zm]; simp
  have hz : OwnFP.zm y ≠ 0 := fun h => by
    rw [h] at hyz
    have := Int.mul_pos (Int.natCast_pos.mpr p2) (U_pos 0)
    omega
  have e : OwnFP.zm x * Core.one64 = OwnFP.zm v * OwnFP.zm y := by
    have : ((OwnFP.zm x * Core.one64 : Nat) : Int) = ((OwnFP.zm v * OwnFP.zm y : Nat) : Int) := by
      rw [Int.natCast_mul, Int.natCast_mul, hx.zm, hv.zm, hyz, ← U_zero, U_add (k := 0) (j := j) (by omega), Nat.zero_add]
      ac_rfl
    exact Int.ofNat.inj this
  have em : OwnFP.zm (FP.ddiv x y) = OwnFP.zm v := Nat.le_antisymm (div_le hx.1 hy.1 hz hv.nn (Nat.le_of_eq e)) (div_ge hx.1 hy.1 hz (Nat.le_of_eq e.symm))
  have sy : Core.sgn (Core.val64 y) = false := sgn_pos (by rw [hy.2]; exact Int.mul_pos (Int.natCast_pos.mpr p2) (U_pos 0))
  refine ⟨fin_of (div_nn hx.1 hy.1 hz) hv.1 (Nat.le_of_eq em), ?_⟩
  rw [zv_sgn, div_sgn hx.1 hy.1 hz, sy, em]
  by_cases h0 : i = 0
  · have : OwnFP.zm v = 0 := by have := hv.zm; rw [h0] at this; simp at this; exact this
    rw [this, h0]; simp [Core.signed_zero]
  · have ex : Core.signed (Core.sgn (Core.val64 x)) (OwnFP.zm x) = i * U 0 := hx.2
    have hz2 := hv.zm
    have hzx := hx.zm
    have u0 := U_pos 0; have uj := U_pos j
    cases e : Core.sgn (Core.val64 x)
    · rw [e] at ex
      have : 0 < i := by
        have h1 : (0 : Int) ≤ i * U 0 := by rw [← ex]; simp [Core.signed]
        have h2 : 0 ≤ i := Int.not_lt.mp fun q => by have := Int.mul_neg_of_neg_of_pos q u0; omega
        omega
      show ((OwnFP.zm v : Nat) : Int) = _
      rw [hz2, show ((i.natAbs : Nat) : Int) = i by omega]
    · rw [e] at ex
      have : i < 0 := by
        have h1 : i * U 0 ≤ 0 := by rw [← ex]; simp [Core.signed]
        have h2 : i ≤ 0 := Int.not_lt.mp fun q => by have := Int.mul_pos q u0; omega
        omega
      show -((OwnFP.zm v : Nat) : Int) = _
      rw [hz2, show ((i.natAbs : Nat) : Int) = -i by omega, Int.neg_mul, Int.neg_neg]
theorem abs_le_max {x : UInt64} (h : Fin64 x) : ¬ (0 : Int32) < cmpValue (FP.dcmp (x &&& 0x7fffffffffffffff) (9218868437227405311 : UInt64)) .g := by
  rcases (Core.le_max (noNaN64_no.mp h.noNaN)).mpr (fin64_core.mp h) with q | q
  · rw [show FP.dcmp (x &&& 0x7fffffffffffffff) (9218868437227405311 : UInt64) = some .lt from q]; decide
  · rw [show FP.dcmp (x &&& 0x7fffffffffffffff) (9218868437227405311 : UInt64) = some .eq from q]; decide
/-- equal numbers over one divisor: equal numbers -/
theorem div_congr {x x' y : UInt64} (hx : Fin64 x) (hx' : Fin64 x') (h : zv x = zv x') (hy : Fin64 y) (hz : OwnFP.zm y ≠ 0) : zv (FP.ddiv x y) = zv (FP.ddiv x' y) := by
  by_cases h0 : zv x' = 0
  · have e1 : OwnFP.zm x = 0 := by rw [← zm_abs, h, h0]; rfl
    have e2 : OwnFP.zm x' = 0 := by rw [← zm_abs, h0]; rfl
    have z0 : OwnFP.zm 0 = 0 := by rw [← zm_abs, zv_zero]; rfl
    have d1 := div_le (v := 0) hx hy hz fin_zero.noNaN (by rw [e1]; simp)
    have d2 := div_le (v := 0) hx' hy hz fin_zero.noNaN (by rw [e2]; simp)
    rw [z0] at d1 d2
    rw [zv_sgn, zv_sgn, Nat.le_zero.mp d1, Nat.le_zero.mp d2, Core.signed_zero, Core.signed_zero]
  · have : x = x' := by
      refine Core.eq_bits (fun hz' => h0 hz'.zval) ?_
      have q : Core.dcmp x x' = some (compare (zv x) (zv x')) := Core.dcmp_zval (nn hx.noNaN) (nn hx'.noNaN)
      rw [q, h, Core.compare_self_int]
    rw [this]
end Jvm.OwnFP
namespace Jvm.OwnArr
open Sem ClassFile Op Lib Jvm.Stand Jvm.Free Jvm.LawKit Jvm.RoadKit
theorem lt32 {i n : Nat} (h : i < n) (hn : n ≤ 100000) : Int32.ofNat i < Int32.ofNat n := by
  rw [Int32.lt_iff_toInt_lt, Int32.toInt_ofNat_of_lt (by omega), Int32.toInt_ofNat_of_lt (by omega)]
  omega
theorem nlt32 {i n : Nat} (h : n ≤ i) (hn : i ≤ 100000) : ¬ Int32.ofNat i < Int32.ofNat n := by
  rw [Int32.lt_iff_toInt_lt, Int32.toInt_ofNat_of_lt (by omega), Int32.toInt_ofNat_of_lt (by omega)]
  omega
theorem lt32_iff {i n : Nat} (hi : i ≤ 100000) (hn : n ≤ 100000) : Int32.ofNat i < Int32.ofNat n ↔ i < n := by
  rw [Int32.lt_iff_toInt_lt, Int32.toInt_ofNat_of_lt (by omega), Int32.toInt_ofNat_of_lt (by omega)]
  omega
theorem eq32_iff {i n : Nat} (hi : i ≤ 100000) (hn : n ≤ 100000) : Int32.ofNat i = Int32.ofNat n ↔ i = n := by
  rw [← Int32.toInt_inj, Int32.toInt_ofNat_of_lt (by omega), Int32.toInt_ofNat_of_lt (by omega)]
  omega
theorem nn32 {n : Nat} (hn : n ≤ 100000) : ¬ Int32.ofNat n < 0 := by
  rw [Int32.lt_iff_toInt_lt, Int32.toInt_ofNat_of_lt (by omega), show (0 : Int32).toInt = 0 from rfl]
  omega
theorem n32 {n : Nat} (hn : n ≤ 100000) : (Int32.ofNat n).toNatClampNeg = n := by
  rw [Int32.toNatClampNeg, Int32.toInt_ofNat_of_lt (by omega)]; rfl
theorem one32 (i : Nat) : Int32.ofNat i + (1 : Int32) = Int32.ofNat (i + 1) := (Int32.ofNat_add i 1).symm
/-- an int from 0 on is the Nat of its value -/
theorem of_int {x : Int32} (h : 0 ≤ x.toInt) : x = Int32.ofNat x.toInt.toNat := by
  apply Int32.toInt_inj.mp
  have := x.toInt_lt
  rw [Int32.toInt_ofNat_of_lt (by omega)]
  omega
def vals (f : Nat → Value) (n : Nat) : List Value := (List.range n).map f
theorem vals_len (f : Nat → Value) (n : Nat) : (vals f n).length = n := by simp [vals]
theorem vals_at (f : Nat → Value) {n j : Nat} (h : j < n) (d : Value) : (vals f n).getD j d = f j := by simp [vals, List.getD_eq_getElem?_getD, h]
theorem vals_congr {f g : Nat → Value} {n : Nat} (h : ∀ j, j < n → f j = g j) : vals f n = vals g n := by
  simp only [vals]
  exact List.map_congr_left fun j hj => h j (List.mem_range.mp hj)
theorem vals_set (f : Nat → Value) {n i : Nat} (v : Value) : (vals f n).set i v = vals (fun j => if j = i then v else f j) n := by
  apply List.ext_getElem
  · simp [vals]
  · intro k h1 h2
    simp only [vals, List.getElem_set, List.getElem_map, List.getElem_range]
    by_cases q : i = k
    · rw [if_pos q, if_pos q.symm]
    · rw [if_neg q, if_neg fun z => q z.symm]
theorem vals_const (v : Value) (n : Nat) : vals (fun _ => v) n = List.replicate n v := by
  simp [vals, List.map_const']
end Jvm.OwnArr
namespace Jvm.Pilot.@@N@@
open Jvm Jvm.ClassFile Sem Op Lib Jvm.Free Jvm.Stand Jvm.LawKit Jvm.RoadKit Bundle Jvm.Pilot.@@N@@.Jvm.D
open Jvm.Free.Fl (NoNaN64 Fin64 Nz64)
open Jvm.OwnArr
def own_b (q1 : Int64) (p1 : Int32) : Int64 := (((((q1.toUInt64 >>> (((8 : Int32) * p1) &&& 0x3f).toInt64.toUInt64).toInt64).toInt32).toInt8.toInt32).toInt64)
theorem own_br (q : Int64) (p : Int32) : -128 ≤ (own_b q p).toInt ∧ (own_b q p).toInt ≤ 127 := by
  unfold own_b
  rw [c_i2l]
  have := c_i2b (((q.toUInt64 >>> (((8 : Int32) * p) &&& 0x3f).toInt64.toUInt64).toInt64).toInt32)
  omega
def own_sum (s0 s1 s2 s3 : Nat → UInt64) (d1 d2 d3 d4 : UInt64) (j : Nat) : UInt64 := FP.dadd (FP.dadd (FP.dadd (FP.dmul d1 (s0 j)) (FP.dmul d2 (s1 j))) (FP.dmul d3 (s2 j))) (FP.dmul d4 (s3 j))
def own_new (dv s0 s1 s2 s3 : Nat → UInt64) (d1 d2 d3 d4 : UInt64) (j : Nat) : UInt64 := FP.dadd (dv j) (own_sum s0 s1 s2 s3 d1 d2 d3 d4 j)
def own_cur (dv s0 s1 s2 s3 : Nat → UInt64) (d1 d2 d3 d4 : UInt64) (f i : Nat) (j : Nat) : UInt64 := if f ≤ j ∧ j < i then own_new dv s0 s1 s2 s3 d1 d2 d3 d4 j else dv j
def own_dv (f : Nat → UInt64) : List Value := vals (fun j => .double (f j)) 4
def own_ok (dv s0 s1 s2 s3 : Nat → UInt64) (d1 d2 d3 d4 : UInt64) (j : Nat) : Prop := NoNaN64 (FP.dmul d1 (s0 j)) ∧ NoNaN64 (FP.dmul d2 (s1 j)) ∧ NoNaN64 (FP.dmul d3 (s2 j)) ∧ NoNaN64 (FP.dmul d4 (s3 j)) ∧ NoNaN64 (FP.dadd (FP.dmul d1 (s0 j)) (FP.dmul d2 (s1 j))) ∧ NoNaN64 (FP.dadd (FP.dadd (FP.dmul d1 (s0 j)) (FP.dmul d2 (s1 j))) (FP.dmul d3 (s2 j))) ∧ NoNaN64 (own_sum s0 s1 s2 s3 d1 d2 d3 d4 j) ∧ NoNaN64 (own_new dv s0 s1 s2 s3 d1 d2 d3 d4 j)
theorem own_step (dv s0 s1 s2 s3 : Nat → UInt64) (d1 d2 d3 d4 : UInt64) (f i : Nat) (h : f ≤ i) : (own_dv (own_cur dv s0 s1 s2 s3 d1 d2 d3 d4 f i)).set i (.double (own_new dv s0 s1 s2 s3 d1 d2 d3 d4 i)) = own_dv (own_cur dv s0 s1 s2 s3 d1 d2 d3 d4 f (i + 1)) := by
  unfold own_dv
  rw [vals_set]
  refine vals_congr fun j _ => ?_
  unfold own_cur
  by_cases q : j = i
  · rw [if_pos q, if_pos (by omega), q]
  · rw [if_neg q]
    by_cases z : f ≤ j ∧ j < i
    · rw [if_pos z, if_pos (by omega)]
    · rw [if_neg z, if_neg (by omega)]
theorem own_start (dv s0 s1 s2 s3 : Nat → UInt64) (d1 d2 d3 d4 : UInt64) (f : Nat) : own_cur dv s0 s1 s2 s3 d1 d2 d3 d4 f f = dv := by
  funext j; unfold own_cur; rw [if_neg (by omega)]
theorem own_end (dv s0 s1 s2 s3 : Nat → UInt64) (d1 d2 d3 d4 : UInt64) (f t : Nat) : own_cur dv s0 s1 s2 s3 d1 d2 d3 d4 f (max f t) = own_cur dv s0 s1 s2 s3 d1 d2 d3 d4 f t := by
  funext j; unfold own_cur
  by_cases z : f ≤ j ∧ j < t
  · rw [if_pos z, if_pos (by omega)]
  · rw [if_neg z, if_neg (by omega)]
theorem own_here (dv s0 s1 s2 s3 : Nat → UInt64) (d1 d2 d3 d4 : UInt64) (f i : Nat) : own_cur dv s0 s1 s2 s3 d1 d2 d3 d4 f i i = dv i := by unfold own_cur; rw [if_neg (by omega)]
theorem own_dat (f : Nat → UInt64) {j : Nat} (h : j < 4) (d : Value) : (own_dv f).getD j d = .double (f j) := vals_at _ h d
theorem own_dlen (f : Nat → UInt64) : (own_dv f).length = 4 := vals_len _ _
theorem own_int {a : Int64} (h : -128 ≤ a.toInt ∧ a.toInt ≤ 127) : FP.Core.DInt a.toInt (FP.l2d a) := FP.Core.l2d_int (by omega)
theorem own_nn {i : Int} {x : UInt64} (h : FP.Core.DInt i x) : NoNaN64 x := Fl.noNaN64_no.mpr ((FP.Core.notNaN_iff x).mpr (FP.Core.DInt_ne_nan h))
theorem own_mb {a b : Int} (ha : -128 ≤ a ∧ a ≤ 127) (hb : -128 ≤ b ∧ b ≤ 127) : -16384 ≤ a * b ∧ a * b ≤ 16384 := by
  have h := mc ha.1 ha.2 hb.1 hb.2
  omega
theorem own_all {dv s0 s1 s2 s3 : Nat → Int64} {d1 d2 d3 d4 : Int64} {j : Nat} (hd : -128 ≤ (dv j).toInt ∧ (dv j).toInt ≤ 127) (h0 : -128 ≤ (s0 j).toInt ∧ (s0 j).toInt ≤ 127) (h1 : -128 ≤ (s1 j).toInt ∧ (s1 j).toInt ≤ 127) (h2 : -128 ≤ (s2 j).toInt ∧ (s2 j).toInt ≤ 127) (h3 : -128 ≤ (s3 j).toInt ∧ (s3 j).toInt ≤ 127)
    (k0 : -128 ≤ d1.toInt ∧ d1.toInt ≤ 127) (k1 : -128 ≤ d2.toInt ∧ d2.toInt ≤ 127) (k2 : -128 ≤ d3.toInt ∧ d3.toInt ≤ 127) (k3 : -128 ≤ d4.toInt ∧ d4.toInt ≤ 127) :
    own_ok (fun j => FP.l2d (dv j)) (fun j => FP.l2d (s0 j)) (fun j => FP.l2d (s1 j)) (fun j => FP.l2d (s2 j)) (fun j => FP.l2d (s3 j)) (FP.l2d d1) (FP.l2d d2) (FP.l2d d3) (FP.l2d d4) j ∧
    FP.Core.DInt ((dv j).toInt + (d1.toInt * (s0 j).toInt + d2.toInt * (s1 j).toInt + d3.toInt * (s2 j).toInt + d4.toInt * (s3 j).toInt)) (own_new (fun j => FP.l2d (dv j)) (fun j => FP.l2d (s0 j)) (fun j => FP.l2d (s1 j)) (fun j => FP.l2d (s2 j)) (fun j => FP.l2d (s3 j)) (FP.l2d d1) (FP.l2d d2) (FP.l2d d3) (FP.l2d d4) j) := by
  have m0 := own_mb k0 h0; have m1 := own_mb k1 h1; have m2 := own_mb k2 h2; have m3 := own_mb k3 h3
  have a0 := FP.Core.dmul_int (own_int k0) (own_int h0) (by omega)
  have a1 := FP.Core.dmul_int (own_int k1) (own_int h1) (by omega)
  have a2 := FP.Core.dmul_int (own_int k2) (own_int h2) (by omega)
  have a3 := FP.Core.dmul_int (own_int k3) (own_int h3) (by omega)
  have b1 := FP.Core.dadd_int a0 a1 (by omega)
  have b2 := FP.Core.dadd_int b1 a2 (by omega)
  have b3 := FP.Core.dadd_int b2 a3 (by omega)
  have b4 := FP.Core.dadd_int (own_int hd) b3 (by omega)
  exact ⟨⟨own_nn a0, own_nn a1, own_nn a2, own_nn a3, own_nn b1, own_nn b2, own_nn b3, own_nn b4⟩, b4⟩
def own_exp (x a0 b0 a1 b1 a2 b2 a3 b3 : Int64) : Int64 := ((((x + (a0 * b0)) + (a1 * b1)) + (a2 * b2)) + (a3 * b3))
theorem own_expi {x a0 b0 a1 b1 a2 b2 a3 b3 : Int64} (hx : -128 ≤ x.toInt ∧ x.toInt ≤ 127) (h0 : -128 ≤ a0.toInt ∧ a0.toInt ≤ 127) (k0 : -128 ≤ b0.toInt ∧ b0.toInt ≤ 127) (h1 : -128 ≤ a1.toInt ∧ a1.toInt ≤ 127) (k1 : -128 ≤ b1.toInt ∧ b1.toInt ≤ 127) (h2 : -128 ≤ a2.toInt ∧ a2.toInt ≤ 127) (k2 : -128 ≤ b2.toInt ∧ b2.toInt ≤ 127) (h3 : -128 ≤ a3.toInt ∧ a3.toInt ≤ 127) (k3 : -128 ≤ b3.toInt ∧ b3.toInt ≤ 127) :
    (own_exp x a0 b0 a1 b1 a2 b2 a3 b3).toInt = x.toInt + (a0.toInt * b0.toInt + a1.toInt * b1.toInt + a2.toInt * b2.toInt + a3.toInt * b3.toInt) := by
  have m0 := own_mb h0 k0; have m1 := own_mb h1 k1; have m2 := own_mb h2 k2; have m3 := own_mb h3 k3
  unfold own_exp
  have c0 := c_lmul a0 b0; have c1 := c_lmul a1 b1; have c2 := c_lmul a2 b2; have c3 := c_lmul a3 b3
  have r0 := rng64 (a0 * b0); have r1 := rng64 (a1 * b1); have r2 := rng64 (a2 * b2); have r3 := rng64 (a3 * b3)
  have e0 : (a0 * b0).toInt = a0.toInt * b0.toInt := by omega
  have e1 : (a1 * b1).toInt = a1.toInt * b1.toInt := by omega
  have e2 : (a2 * b2).toInt = a2.toInt * b2.toInt := by omega
  have e3 : (a3 * b3).toInt = a3.toInt * b3.toInt := by omega
  have s1 := c_ladd x (a0 * b0); have t1 := rng64 (x + a0 * b0)
  have s2 := c_ladd (x + a0 * b0) (a1 * b1); have t2 := rng64 (x + a0 * b0 + a1 * b1)
  have s3 := c_ladd (x + a0 * b0 + a1 * b1) (a2 * b2); have t3 := rng64 (x + a0 * b0 + a1 * b1 + a2 * b2)
  have s4 := c_ladd (x + a0 * b0 + a1 * b1 + a2 * b2) (a3 * b3); have t4 := rng64 (x + a0 * b0 + a1 * b1 + a2 * b2 + a3 * b3)
  omega
theorem own_cmp {i : Int} {x y : UInt64} (hx : FP.Core.DInt i x) (hy : FP.Core.DInt i y) : cmpValue (FP.dcmp x y) .l = 0 := OwnFP.cv_eq (own_nn hx) (own_nn hy) (by rw [OwnFP.zv_dint hx, OwnFP.zv_dint hy]) .l
theorem own_ft {x : Int32} (h : 0 ≤ x.toInt) : ∃ n : Nat, n ≤ 4 ∧ x % (5 : Int32) = Int32.ofNat n := by
  have h2 := (c_irem x 5 5 rfl).1 h
  refine ⟨(x % (5 : Int32)).toInt.toNat, by omega, of_int (by omega)⟩
theorem own_m7 (x : Int32) : 0 ≤ (x &&& (7 : Int32)).toInt := (c_and x 7 (by decide)).1
theorem ef_2 (m : MethodId) (q1 : Int64) (p1 : Int32) : entryFrame m #[(.long q1), (.int p1)] 3 = mkF m 0 #[.val (.long q1), .second, .val (.int p1)] [] := by first | (simp [entryFrame, mkF, argsToLocals, Value.category]; done) | rfl
theorem d2_0 : decode method_2_code 0 = .ok (.lload_n 0, 1) := by decide +kernel
theorem d2_1 : decode method_2_code 1 = .ok (.bipush 8, 2) := by decide +kernel
theorem d2_3 : decode method_2_code 3 = .ok (.iload_n 2, 1) := by decide +kernel
theorem d2_4 : decode method_2_code 4 = .ok (.imul, 1) := by decide +kernel
theorem d2_5 : decode method_2_code 5 = .ok (.lushr, 1) := by decide +kernel
theorem d2_6 : decode method_2_code 6 = .ok (.l2i, 1) := by decide +kernel
theorem d2_7 : decode method_2_code 7 = .ok (.i2b, 1) := by decide +kernel
theorem d2_8 : decode method_2_code 8 = .ok (.i2l, 1) := by decide +kernel
theorem d2_9 : decode method_2_code 9 = .ok (.lreturn, 1) := by decide +kernel
theorem pn_com_example_orthoform_kernel_LinearCombinationsAddProductsPinLaw : plainName "com/example/orthoform/kernel/LinearCombinationsAddProductsPinLaw" = true := by first | (simp [plainName, overriddenIn]; done) | decide +kernel
def Q2 (Z : State) (q1 : Int64) (p1 : Int32) (h0 : Heap) (n0 : Nat) (v : Option Value) (h : Heap) (L : List Loc) : Prop := v = some (.long (own_b q1 p1)) ∧ Fr n0 L ∧ h = h0
set_option maxRecDepth 65536 in
set_option maxHeartbeats 40000000 in
theorem rm2 (l : Launch) (Z : State) (a0 : Array Value) (hw : ∀ d ∈ tables_1, d.before a0 Z = true) (ws : List Jvm.Cond) (q1 : Int64) (p1 : Int32) (h0 : Heap) (n0 : Nat) (Z0 : n0 ≤ h0.size) :
    MetFree l (⟨"com/example/orthoform/kernel/LinearCombinationsAddProductsPinLaw", "b", "(JI)J"⟩ : MethodName) (head1 (Jvm.Cond.code (⟨"com/example/orthoform/kernel/LinearCombinationsAddProductsPinLaw", "b", "(JI)J"⟩ : MethodName) method_2_code 3 (some .long) :: ws) ({ frames := 0, cells := 0, slots := 0, locals := 0 } : Room)) (fun a U => a = #[(.long q1), (.int p1)] ∧ Z.Warmed39 U.vm ∧ U.heap = h0) (fun _ _ _ _ _ => True) (fun _ U o U' => ∃ v L, o = .returned v ∧ Q2 Z q1 p1 h0 n0 v U'.heap L ∧ FrameEnd U o U' L ({ frames := 0, cells := 0, slots := 0, locals := 0 } : Room).cells ({ frames := 0, cells := 0, slots := 0, locals := 0 } : Room).slots) := by
  refine MetFree.of_bodySF (plainFor_of_name pn_com_example_orthoform_kernel_LinearCombinationsAddProductsPinLaw) hisR ?_
  intro p e s m args below meth c s₁ Bd hml0 hP hK
  obtain ⟨rfl, hZ, hh⟩ := hP
  have hx := Bd.exec
  have hby := Bd.bytes
  have hml : c.maxLocals = 3 := hml0
  have hown : s.vm.findClass "com/example/orthoform/kernel/LinearCombinationsAddProductsPinLaw" = some m.cls := findClass_of_methodNamed Bd.named
  have hnm := (name_of_methodNamed Bd.named Bd.method).1
  have X0 : Stand p l e ({ frames := 0, cells := 0, slots := 0, locals := 0 } : Room) s m #[(.long q1), (.int p1)] below meth c s₁ [] 0 0 := Stand.of_body Bd
  have e0 : s₁.heap = h0 := by rw [← hh, Bd.state]; rfl
  have N0 := Fr.nil n0
  have pre0 : ∀ t_, Steps p.tables e below (s₁.setTop (mkF m 0 #[.val (.long q1), .second, .val (.int p1)] [])) t_ → Steps p.tables e below (s₁.setTop (entryFrame m #[(.long q1), (.int p1)] 3)) t_ := fun t_ k => castTop (ef_2 m q1 p1) k
  have pre101 : ∀ t_, Steps p.tables e below (s₁.setTop (mkF m 9 #[.val (.long q1), .second, .val (.int p1)] [(.long (((((q1.toUInt64 >>> (((8 : Int32) * p1) &&& 0x3f).toInt64.toUInt64).toInt64).toInt32).toInt8.toInt32).toInt64))])) t_ → Steps p.tables e below (s₁.setTop (entryFrame m #[(.long q1), (.int p1)] 3)) t_ := fun t_ kt => pre0 t_ (by
      show Steps p.tables e below (s₁.setTop (mkF m 0 #[.val (.long q1), .second, .val (.int p1)] [])) _
      refine XS.lloadN X0.here hx rfl (hb hby d2_0) rfl ?_
      show Steps p.tables e below (s₁.setTop (mkF m 1 #[.val (.long q1), .second, .val (.int p1)] [(.long q1)])) _
      refine XS.bipush X0.here hx rfl (hb hby d2_1) ?_
      show Steps p.tables e below (s₁.setTop (mkF m 3 #[.val (.long q1), .second, .val (.int p1)] [(.int (8 : Int32)), (.long q1)])) _
      refine XS.iloadN X0.here hx rfl (hb hby d2_3) rfl ?_
      show Steps p.tables e below (s₁.setTop (mkF m 4 #[.val (.long q1), .second, .val (.int p1)] [(.int p1), (.int (8 : Int32)), (.long q1)])) _
      refine XS.imul X0.here hx rfl (hb hby d2_4) rfl ?_
      show Steps p.tables e below (s₁.setTop (mkF m 5 #[.val (.long q1), .second, .val (.int p1)] [(.int ((8 : Int32) * p1)), (.long q1)])) _
      refine XS.lushr X0.here hx rfl (hb hby d2_5) rfl ?_
      show Steps p.tables e below (s₁.setTop (mkF m 6 #[.val (.long q1), .second, .val (.int p1)] [(.long ((q1.toUInt64 >>> (((8 : Int32) * p1) &&& 0x3f).toInt64.toUInt64).toInt64))])) _
      refine XS.l2i X0.here hx rfl (hb hby d2_6) rfl ?_
      show Steps p.tables e below (s₁.setTop (mkF m 7 #[.val (.long q1), .second, .val (.int p1)] [(.int (((q1.toUInt64 >>> (((8 : Int32) * p1) &&& 0x3f).toInt64.toUInt64).toInt64).toInt32))])) _
      refine XS.i2b X0.here hx rfl (hb hby d2_7) rfl ?_
      show Steps p.tables e below (s₁.setTop (mkF m 8 #[.val (.long q1), .second, .val (.int p1)] [(.int ((((q1.toUInt64 >>> (((8 : Int32) * p1) &&& 0x3f).toInt64.toUInt64).toInt64).toInt32).toInt8.toInt32))])) _
      refine XS.i2l X0.here hx rfl (hb hby d2_8) rfl ?_
      exact kt)
  obtain ⟨fs, hr, hrun, hended, hW, hsame⟩ := X0.leave (v := some (.long (((((q1.toUInt64 >>> (((8 : Int32) * p1) &&& 0x3f).toInt64.toUInt64).toInt64).toInt32).toInt8.toInt32).toInt64))) (fun h => by rw [Bd.returns] at h; cases h)
  refine ⟨_, _, pre101 _ ?_, hrun, hended, _, _, rfl, ?_, ⟨_, rfl⟩, hW, hsame.mono (by decide) (by decide)⟩
  · show Steps p.tables e below (s₁.setTop (mkF m 9 #[.val (.long q1), .second, .val (.int p1)] [(.long (((((q1.toUInt64 >>> (((8 : Int32) * p1) &&& 0x3f).toInt64.toUInt64).toInt64).toInt32).toInt8.toInt32).toInt64))])) _
    exact own_retJ X0 hx Bd.returns (hb hby d2_9) hr
  · show Q2 Z q1 p1 h0 n0 _ s₁.heap _
    rw [e0]
    exact ⟨rfl, N0, rfl⟩
theorem ef_arr0 (m : MethodId) (q1 : Int64) : entryFrame m #[(.long q1), (.int (0 : Int32))] 3 = mkF m 0 #[.val (.long q1), .second, .val (.int (0 : Int32))] [] := by first | (simp [entryFrame, mkF, argsToLocals, Value.category]; done) | rfl
theorem d1_0 : decode method_3_code 0 = .ok (.iconst 4, 1) := by decide +kernel
theorem d1_1 : decode method_3_code 1 = .ok (.newarray .double, 2) := by decide +kernel
theorem d1_3 : decode method_3_code 3 = .ok (.dup, 1) := by decide +kernel
theorem d1_4 : decode method_3_code 4 = .ok (.iconst 0, 1) := by decide +kernel
theorem d1_5 : decode method_3_code 5 = .ok (.lload_n 0, 1) := by decide +kernel
theorem d1_6 : decode method_3_code 6 = .ok (.iload_n 2, 1) := by decide +kernel
theorem pd__28JI_29J : parseMethodDescriptor "(JI)J" = some ⟨[.long, .int], some .long⟩ := by decide +kernel
theorem d1_7 : decode method_3_code 7 = .ok (.invokestatic 7, 3) := by decide +kernel
theorem d1_10 : decode method_3_code 10 = .ok (.l2d, 1) := by decide +kernel
theorem d1_11 : decode method_3_code 11 = .ok (.dastore, 1) := by decide +kernel
theorem d1_12 : decode method_3_code 12 = .ok (.dup, 1) := by decide +kernel
theorem d1_13 : decode method_3_code 13 = .ok (.iconst 1, 1) := by decide +kernel
theorem d1_14 : decode method_3_code 14 = .ok (.lload_n 0, 1) := by decide +kernel
theorem d1_15 : decode method_3_code 15 = .ok (.iload_n 2, 1) := by decide +kernel
theorem d1_16 : decode method_3_code 16 = .ok (.iconst 1, 1) := by decide +kernel
theorem d1_17 : decode method_3_code 17 = .ok (.iadd, 1) := by decide +kernel
theorem d1_18 : decode method_3_code 18 = .ok (.invokestatic 7, 3) := by decide +kernel
theorem d1_21 : decode method_3_code 21 = .ok (.l2d, 1) := by decide +kernel
theorem d1_22 : decode method_3_code 22 = .ok (.dastore, 1) := by decide +kernel
theorem d1_23 : decode method_3_code 23 = .ok (.dup, 1) := by decide +kernel
theorem d1_24 : decode method_3_code 24 = .ok (.iconst 2, 1) := by decide +kernel
theorem d1_25 : decode method_3_code 25 = .ok (.lload_n 0, 1) := by decide +kernel
theorem d1_26 : decode method_3_code 26 = .ok (.iload_n 2, 1) := by decide +kernel
theorem d1_27 : decode method_3_code 27 = .ok (.iconst 2, 1) := by decide +kernel
theorem d1_28 : decode method_3_code 28 = .ok (.iadd, 1) := by decide +kernel
theorem d1_29 : decode method_3_code 29 = .ok (.invokestatic 7, 3) := by decide +kernel
theorem d1_32 : decode method_3_code 32 = .ok (.l2d, 1) := by decide +kernel
theorem d1_33 : decode method_3_code 33 = .ok (.dastore, 1) := by decide +kernel
theorem d1_34 : decode method_3_code 34 = .ok (.dup, 1) := by decide +kernel
theorem d1_35 : decode method_3_code 35 = .ok (.iconst 3, 1) := by decide +kernel
theorem d1_36 : decode method_3_code 36 = .ok (.lload_n 0, 1) := by decide +kernel
theorem d1_37 : decode method_3_code 37 = .ok (.iload_n 2, 1) := by decide +kernel
theorem d1_38 : decode method_3_code 38 = .ok (.iconst 3, 1) := by decide +kernel
theorem d1_39 : decode method_3_code 39 = .ok (.iadd, 1) := by decide +kernel
theorem d1_40 : decode method_3_code 40 = .ok (.invokestatic 7, 3) := by decide +kernel
theorem d1_43 : decode method_3_code 43 = .ok (.l2d, 1) := by decide +kernel
theorem d1_44 : decode method_3_code 44 = .ok (.dastore, 1) := by decide +kernel
theorem d1_45 : decode method_3_code 45 = .ok (.areturn, 1) := by decide +kernel
def Qarr0 (Z : State) (q1 : Int64) (h0 : Heap) (n0 : Nat) (v : Option Value) (h : Heap) (L : List Loc) : Prop := ∃ (b : Addr) (kb : ClassId), v = some (.ref b) ∧ Fr n0 L ∧ Keep h0 h [] ∧ (h0.size ≤ b) ∧ (Arv Z h b kb .double (4 : Int32) [(.double (FP.l2d (own_b q1 (0 : Int32)))), (.double (FP.l2d (own_b q1 (1 : Int32)))), (.double (FP.l2d (own_b q1 (2 : Int32)))), (.double (FP.l2d (own_b q1 (3 : Int32))))] (.double (0 : UInt64)))
set_option maxRecDepth 65536 in
set_option maxHeartbeats 40000000 in
theorem rmarr0 (l : Launch) (Z : State) (a0 : Array Value) (hw : ∀ d ∈ tables_1, d.before a0 Z = true) (ws : List Jvm.Cond) (q1 : Int64) (h0 : Heap) (n0 : Nat) (Z0 : n0 ≤ h0.size) :
    MetFree l (⟨"com/example/orthoform/kernel/LinearCombinationsAddProductsPinLaw", "arr", "(JI)[D"⟩ : MethodName) (head1 (Jvm.Cond.code (⟨"com/example/orthoform/kernel/LinearCombinationsAddProductsPinLaw", "arr", "(JI)[D"⟩ : MethodName) method_3_code 3 (some (.array .double)) :: ws) ({ frames := 1, cells := 1, slots := 4, locals := 17 } : Room)) (fun a U => a = #[(.long q1), (.int (0 : Int32))] ∧ Z.Warmed39 U.vm ∧ U.heap = h0) (fun _ _ _ _ _ => True) (fun _ U o U' => ∃ v L, o = .returned v ∧ Qarr0 Z q1 h0 n0 v U'.heap L ∧ FrameEnd U o U' L ({ frames := 1, cells := 1, slots := 4, locals := 17 } : Room).cells ({ frames := 1, cells := 1, slots := 4, locals := 17 } : Room).slots) := by
  refine MetFree.of_bodySF (plainFor_of_name pn_com_example_orthoform_kernel_LinearCombinationsAddProductsPinLaw) hisR ?_
  intro p e s m args below meth c s₁ Bd hml0 hP hK
  obtain ⟨rfl, hZ, hh⟩ := hP
  have hx := Bd.exec
  have hby := Bd.bytes
  have hml : c.maxLocals = 3 := hml0
  have hown : s.vm.findClass "com/example/orthoform/kernel/LinearCombinationsAddProductsPinLaw" = some m.cls := findClass_of_methodNamed Bd.named
  have hnm := (name_of_methodNamed Bd.named Bd.method).1
  have X0 : Stand p l e ({ frames := 1, cells := 1, slots := 4, locals := 17 } : Room) s m #[(.long q1), (.int (0 : Int32))] below meth c s₁ [] 0 0 := Stand.of_body Bd
  have e0 : s₁.heap = h0 := by rw [← hh, Bd.state]; rfl
  have N0 := Fr.nil n0
  have pre0 : ∀ t_, Steps p.tables e below (s₁.setTop (mkF m 0 #[.val (.long q1), .second, .val (.int (0 : Int32))] [])) t_ → Steps p.tables e below (s₁.setTop (entryFrame m #[(.long q1), (.int (0 : Int32))] 3)) t_ := fun t_ k => castTop (ef_arr0 m q1) k
  obtain ⟨T101, h101, k101, X101, e101, E101, A101, st101⟩ := newP X0 hx hZ (hw _ (List.mem_of_getElem? (i := 4) rfl)) e0 (g := (mkF m 1 #[.val (.long q1), .second, .val (.int (0 : Int32))] [(.int (4 : Int32))])) rfl (hb hby d1_1) rfl (by decide) (cap := 4) (by decide) (by decide) (by decide) (by decide)
  obtain ⟨b101, g101⟩ : ∃ z, z = h0.size := ⟨_, rfl⟩
  rw [← g101] at A101 st101
  have g_b101 : n0 ≤ b101 := Nat.le_trans Z0 (Nat.le_of_eq g101.symm)
  have sz_b101 : h0.size ≤ b101 := Nat.le_trans (Keep.refl h0 []).1 (Nat.le_of_eq g101.symm)
  have z102 : n0 ≤ h101.size := Nat.le_trans Z0 E101.1
  have k103 : Keep h0 h101 [] := (Keep.refl h0 []).ext E101
  have V101 : Arv Z h101 b101 k101 .double (4 : Int32) [(.double (0 : UInt64)), (.double (0 : UInt64)), (.double (0 : UInt64)), (.double (0 : UInt64))] (.double (0 : UInt64)) := (Arv.new A101 (by decide)).pad (pad_rep [] (.double (0 : UInt64)) 4)
  obtain ⟨_, _, ⟨T104, L104, kk104, nn104⟩, -, X104, ⟨Lc104, hQ104, l104, y104, z104⟩, st104⟩ := Jvm.LawKit.callS X101 hx (y := (⟨"com/example/orthoform/kernel/LinearCombinationsAddProductsPinLaw", "b", "(JI)J"⟩ : MethodName)) hown (mvT hZ (hw _ (List.mem_of_getElem? (i := 5) rfl))) (mvT hZ (hw _ (List.mem_of_getElem? (i := 6) rfl))) (mvT hZ (hw _ (List.mem_of_getElem? (i := 2) rfl))) (mvT hZ (hw _ (List.mem_of_getElem? (i := 7) rfl))) (by decide) (backOf (W := 3) (rm2 l Z a0 hw [] q1 (0 : Int32) h101 n0 z102 ) hZ (hw _ (List.mem_of_getElem? (i := 7) rfl)) (hw _ (List.mem_of_getElem? (i := 2) rfl)) (by decide) (by decide)) (g := (mkF m 7 #[.val (.long q1), .second, .val (.int (0 : Int32))] [(.int (0 : Int32)), (.long q1), (.int (0 : Int32)), (.ref b101), (.ref b101)])) rfl (by rw [hml]; rfl) (argsL := [(.long q1), (.int (0 : Int32))]) (rest := [(.int (0 : Int32)), (.ref b101), (.ref b101)]) (lenOf pd__28JI_29J rfl) rfl (by show 2 * 0 + _ ≤ _; exact Nat.le_of_eq rfl) (hb hby d1_7) (fun _ _ => ⟨rfl, e101, (by decide : 1 + 0 ≤ _), (by decide : 4 + 0 ≤ _)⟩)
  dsimp only [Pt.U, Pt.locs, Pt.cells, Pt.slots] at X104 l104 y104 z104 st104 hQ104
  subst l104 y104 z104
  obtain ⟨rfl, N104q, e104⟩ := hQ104
  have N104 := Fr.app N0 N104q
  obtain ⟨cl105, Ar105, Q105, S105, M105, H105, G105⟩ := id V101
  have in106 : ¬ ((0 : Int32) < 0 ∨ cl105.slots.size ≤ ((0 : Int32)).toNatClampNeg) := inb_of S105 ⟨by decide, by decide⟩
  obtain ⟨T107, h107, X107, e107, W107, st107⟩ := stD X104 hx hZ e104 Ar105 (j := (0 : Int32)) in106 (g := (mkF m 11 #[.val (.long q1), .second, .val (.int (0 : Int32))] [(.double (FP.l2d (own_b q1 (0 : Int32)))), (.int (0 : Int32)), (.ref b101), (.ref b101)])) rfl rfl (hb hby d1_11)
  have z108 : n0 ≤ h107.size := Nat.le_trans z102 (Keep.of_wr W107).1
  have k109 : Keep h0 h107 [] := k103.wr W107 (Or.inr sz_b101)
  have V107 : Arv Z h107 b101 k101 .double (4 : Int32) [(.double (FP.l2d (own_b q1 (0 : Int32)))), (.double (0 : UInt64)), (.double (0 : UInt64)), (.double (0 : UInt64))] (.double (0 : UInt64)) := Arv.set Ar105 Q105 S105 M105 H105 G105 rfl W107 0 rfl (Nat.le_of_ble_eq_true rfl)
  have N107 : Fr n0 _ := Fr.snoc X107 N104 g_b101
  obtain ⟨_, _, ⟨T110, L110, kk110, nn110⟩, -, X110, ⟨Lc110, hQ110, l110, y110, z110⟩, st110⟩ := Jvm.LawKit.callS X107 hx (y := (⟨"com/example/orthoform/kernel/LinearCombinationsAddProductsPinLaw", "b", "(JI)J"⟩ : MethodName)) hown (mvT hZ (hw _ (List.mem_of_getElem? (i := 5) rfl))) (mvT hZ (hw _ (List.mem_of_getElem? (i := 6) rfl))) (mvT hZ (hw _ (List.mem_of_getElem? (i := 2) rfl))) (mvT hZ (hw _ (List.mem_of_getElem? (i := 7) rfl))) (by decide) (backOf (W := 3) (rm2 l Z a0 hw [] q1 (1 : Int32) h107 n0 z108 ) hZ (hw _ (List.mem_of_getElem? (i := 7) rfl)) (hw _ (List.mem_of_getElem? (i := 2) rfl)) (by decide) (by decide)) (g := (mkF m 18 #[.val (.long q1), .second, .val (.int (0 : Int32))] [(.int (1 : Int32)), (.long q1), (.int (1 : Int32)), (.ref b101), (.ref b101)])) rfl (by rw [hml]; rfl) (argsL := [(.long q1), (.int (1 : Int32))]) (rest := [(.int (1 : Int32)), (.ref b101), (.ref b101)]) (lenOf pd__28JI_29J rfl) rfl (by show 2 * 0 + _ ≤ _; exact Nat.le_of_eq rfl) (hb hby d1_18) (fun _ _ => ⟨rfl, e107, (by decide : 1 + 0 ≤ _), (by decide : 4 + 0 ≤ _)⟩)
  dsimp only [Pt.U, Pt.locs, Pt.cells, Pt.slots] at X110 l110 y110 z110 st110 hQ110
  subst l110 y110 z110
  obtain ⟨rfl, N110q, e110⟩ := hQ110
  have N110 := Fr.app N107 N110q
  obtain ⟨cl111, Ar111, Q111, S111, M111, H111, G111⟩ := id V107
  have in112 : ¬ ((1 : Int32) < 0 ∨ cl111.slots.size ≤ ((1 : Int32)).toNatClampNeg) := inb_of S111 ⟨by decide, by decide⟩
  obtain ⟨T113, h113, X113, e113, W113, st113⟩ := stD X110 hx hZ e110 Ar111 (j := (1 : Int32)) in112 (g := (mkF m 22 #[.val (.long q1), .second, .val (.int (0 : Int32))] [(.double (FP.l2d (own_b q1 (1 : Int32)))), (.int (1 : Int32)), (.ref b101), (.ref b101)])) rfl rfl (hb hby d1_22)
  have z114 : n0 ≤ h113.size := Nat.le_trans z108 (Keep.of_wr W113).1
  have k115 : Keep h0 h113 [] := k109.wr W113 (Or.inr sz_b101)
  have V113 : Arv Z h113 b101 k101 .double (4 : Int32) [(.double (FP.l2d (own_b q1 (0 : Int32)))), (.double (FP.l2d (own_b q1 (1 : Int32)))), (.double (0 : UInt64)), (.double (0 : UInt64))] (.double (0 : UInt64)) := Arv.set Ar111 Q111 S111 M111 H111 G111 rfl W113 1 rfl (Nat.le_of_ble_eq_true rfl)
  have N113 : Fr n0 _ := Fr.snoc X113 N110 g_b101
  obtain ⟨_, _, ⟨T116, L116, kk116, nn116⟩, -, X116, ⟨Lc116, hQ116, l116, y116, z116⟩, st116⟩ := Jvm.LawKit.callS X113 hx (y := (⟨"com/example/orthoform/kernel/LinearCombinationsAddProductsPinLaw", "b", "(JI)J"⟩ : MethodName)) hown (mvT hZ (hw _ (List.mem_of_getElem? (i := 5) rfl))) (mvT hZ (hw _ (List.mem_of_getElem? (i := 6) rfl))) (mvT hZ (hw _ (List.mem_of_getElem? (i := 2) rfl))) (mvT hZ (hw _ (List.mem_of_getElem? (i := 7) rfl))) (by decide) (backOf (W := 3) (rm2 l Z a0 hw [] q1 (2 : Int32) h113 n0 z114 ) hZ (hw _ (List.mem_of_getElem? (i := 7) rfl)) (hw _ (List.mem_of_getElem? (i := 2) rfl)) (by decide) (by decide)) (g := (mkF m 29 #[.val (.long q1), .second, .val (.int (0 : Int32))] [(.int (2 : Int32)), (.long q1), (.int (2 : Int32)), (.ref b101), (.ref b101)])) rfl (by rw [hml]; rfl) (argsL := [(.long q1), (.int (2 : Int32))]) (rest := [(.int (2 : Int32)), (.ref b101), (.ref b101)]) (lenOf pd__28JI_29J rfl) rfl (by show 2 * 0 + _ ≤ _; exact Nat.le_of_eq rfl) (hb hby d1_29) (fun _ _ => ⟨rfl, e113, (by decide : 1 + 0 ≤ _), (by decide : 4 + 0 ≤ _)⟩)
  dsimp only [Pt.U, Pt.locs, Pt.cells, Pt.slots] at X116 l116 y116 z116 st116 hQ116
  subst l116 y116 z116
  obtain ⟨rfl, N116q, e116⟩ := hQ116
  have N116 := Fr.app N113 N116q
  obtain ⟨cl117, Ar117, Q117, S117, M117, H117, G117⟩ := id V113
  have in118 : ¬ ((2 : Int32) < 0 ∨ cl117.slots.size ≤ ((2 : Int32)).toNatClampNeg) := inb_of S117 ⟨by decide, by decide⟩
  obtain ⟨T119, h119, X119, e119, W119, st119⟩ := stD X116 hx hZ e116 Ar117 (j := (2 : Int32)) in118 (g := (mkF m 33 #[.val (.long q1), .second, .val (.int (0 : Int32))] [(.double (FP.l2d (own_b q1 (2 : Int32)))), (.int (2 : Int32)), (.ref b101), (.ref b101)])) rfl rfl (hb hby d1_33)
  have z120 : n0 ≤ h119.size := Nat.le_trans z114 (Keep.of_wr W119).1
  have k121 : Keep h0 h119 [] := k115.wr W119 (Or.inr sz_b101)
  have V119 : Arv Z h119 b101 k101 .double (4 : Int32) [(.double (FP.l2d (own_b q1 (0 : Int32)))), (.double (FP.l2d (own_b q1 (1 : Int32)))), (.double (FP.l2d (own_b q1 (2 : Int32)))), (.double (0 : UInt64))] (.double (0 : UInt64)) := Arv.set Ar117 Q117 S117 M117 H117 G117 rfl W119 2 rfl (Nat.le_of_ble_eq_true rfl)
  have N119 : Fr n0 _ := Fr.snoc X119 N116 g_b101
  obtain ⟨_, _, ⟨T122, L122, kk122, nn122⟩, -, X122, ⟨Lc122, hQ122, l122, y122, z122⟩, st122⟩ := Jvm.LawKit.callS X119 hx (y := (⟨"com/example/orthoform/kernel/LinearCombinationsAddProductsPinLaw", "b", "(JI)J"⟩ : MethodName)) hown (mvT hZ (hw _ (List.mem_of_getElem? (i := 5) rfl))) (mvT hZ (hw _ (List.mem_of_getElem? (i := 6) rfl))) (mvT hZ (hw _ (List.mem_of_getElem? (i := 2) rfl))) (mvT hZ (hw _ (List.mem_of_getElem? (i := 7) rfl))) (by decide) (backOf (W := 3) (rm2 l Z a0 hw [] q1 (3 : Int32) h119 n0 z120 ) hZ (hw _ (List.mem_of_getElem? (i := 7) rfl)) (hw _ (List.mem_of_getElem? (i := 2) rfl)) (by decide) (by decide)) (g := (mkF m 40 #[.val (.long q1), .second, .val (.int (0 : Int32))] [(.int (3 : Int32)), (.long q1), (.int (3 : Int32)), (.ref b101), (.ref b101)])) rfl (by rw [hml]; rfl) (argsL := [(.long q1), (.int (3 : Int32))]) (rest := [(.int (3 : Int32)), (.ref b101), (.ref b101)]) (lenOf pd__28JI_29J rfl) rfl (by show 2 * 0 + _ ≤ _; exact Nat.le_of_eq rfl) (hb hby d1_40) (fun _ _ => ⟨rfl, e119, (by decide : 1 + 0 ≤ _), (by decide : 4 + 0 ≤ _)⟩)
  dsimp only [Pt.U, Pt.locs, Pt.cells, Pt.slots] at X122 l122 y122 z122 st122 hQ122
  subst l122 y122 z122
  obtain ⟨rfl, N122q, e122⟩ := hQ122
  have N122 := Fr.app N119 N122q
  obtain ⟨cl123, Ar123, Q123, S123, M123, H123, G123⟩ := id V119
  have in124 : ¬ ((3 : Int32) < 0 ∨ cl123.slots.size ≤ ((3 : Int32)).toNatClampNeg) := inb_of S123 ⟨by decide, by decide⟩
  obtain ⟨T125, h125, X125, e125, W125, st125⟩ := stD X122 hx hZ e122 Ar123 (j := (3 : Int32)) in124 (g := (mkF m 44 #[.val (.long q1), .second, .val (.int (0 : Int32))] [(.double (FP.l2d (own_b q1 (3 : Int32)))), (.int (3 : Int32)), (.ref b101), (.ref b101)])) rfl rfl (hb hby d1_44)
  have z126 : n0 ≤ h125.size := Nat.le_trans z120 (Keep.of_wr W125).1
  have k127 : Keep h0 h125 [] := k121.wr W125 (Or.inr sz_b101)
  have V125 : Arv Z h125 b101 k101 .double (4 : Int32) [(.double (FP.l2d (own_b q1 (0 : Int32)))), (.double (FP.l2d (own_b q1 (1 : Int32)))), (.double (FP.l2d (own_b q1 (2 : Int32)))), (.double (FP.l2d (own_b q1 (3 : Int32))))] (.double (0 : UInt64)) := Arv.set Ar123 Q123 S123 M123 H123 G123 rfl W125 3 rfl (Nat.le_of_ble_eq_true rfl)
  have N125 : Fr n0 _ := Fr.snoc X125 N122 g_b101
  have pre128 : ∀ t_, Steps p.tables e below (T125.setTop (mkF m 45 #[.val (.long q1), .second, .val (.int (0 : Int32))] [(.ref b101)])) t_ → Steps p.tables e below (s₁.setTop (entryFrame m #[(.long q1), (.int (0 : Int32))] 3)) t_ := fun t_ kt => pre0 t_ (by
      show Steps p.tables e below (s₁.setTop (mkF m 0 #[.val (.long q1), .second, .val (.int (0 : Int32))] [])) _
      refine XS.iconst X0.here hx rfl (hb hby d1_0) ?_
      show Steps p.tables e below (s₁.setTop (mkF m 1 #[.val (.long q1), .second, .val (.int (0 : Int32))] [(.int (4 : Int32))])) _
      refine st101 _ ?_
      show Steps p.tables e below (T101.setTop (mkF m 3 #[.val (.long q1), .second, .val (.int (0 : Int32))] [(.ref b101)])) _
      refine XS.dup X101.here hx rfl (hb hby d1_3) rfl rfl ?_
      show Steps p.tables e below (T101.setTop (mkF m 4 #[.val (.long q1), .second, .val (.int (0 : Int32))] [(.ref b101), (.ref b101)])) _
      refine XS.iconst X101.here hx rfl (hb hby d1_4) ?_
      show Steps p.tables e below (T101.setTop (mkF m 5 #[.val (.long q1), .second, .val (.int (0 : Int32))] [(.int (0 : Int32)), (.ref b101), (.ref b101)])) _
      refine XS.lloadN X101.here hx rfl (hb hby d1_5) rfl ?_
      show Steps p.tables e below (T101.setTop (mkF m 6 #[.val (.long q1), .second, .val (.int (0 : Int32))] [(.long q1), (.int (0 : Int32)), (.ref b101), (.ref b101)])) _
      refine XS.iloadN X101.here hx rfl (hb hby d1_6) rfl ?_
      show Steps p.tables e below (T101.setTop (mkF m 7 #[.val (.long q1), .second, .val (.int (0 : Int32))] [(.int (0 : Int32)), (.long q1), (.int (0 : Int32)), (.ref b101), (.ref b101)])) _
      refine st104 _ ?_
      show Steps p.tables e below (T104.setTop (mkF m 10 #[.val (.long q1), .second, .val (.int (0 : Int32))] [(.long (own_b q1 (0 : Int32))), (.int (0 : Int32)), (.ref b101), (.ref b101)])) _
      refine XS.l2dS X104.here hx rfl (hb hby d1_10) rfl (v := (FP.l2d (own_b q1 (0 : Int32)))) rfl ?_
      show Steps p.tables e below (T104.setTop (mkF m 11 #[.val (.long q1), .second, .val (.int (0 : Int32))] [(.double (FP.l2d (own_b q1 (0 : Int32)))), (.int (0 : Int32)), (.ref b101), (.ref b101)])) _
      refine st107 _ ?_
      show Steps p.tables e below (T107.setTop (mkF m 12 #[.val (.long q1), .second, .val (.int (0 : Int32))] [(.ref b101)])) _
      refine XS.dup X107.here hx rfl (hb hby d1_12) rfl rfl ?_
      show Steps p.tables e below (T107.setTop (mkF m 13 #[.val (.long q1), .second, .val (.int (0 : Int32))] [(.ref b101), (.ref b101)])) _
      refine XS.iconst X107.here hx rfl (hb hby d1_13) ?_
      show Steps p.tables e below (T107.setTop (mkF m 14 #[.val (.long q1), .second, .val (.int (0 : Int32))] [(.int (1 : Int32)), (.ref b101), (.ref b101)])) _
      refine XS.lloadN X107.here hx rfl (hb hby d1_14) rfl ?_
      show Steps p.tables e below (T107.setTop (mkF m 15 #[.val (.long q1), .second, .val (.int (0 : Int32))] [(.long q1), (.int (1 : Int32)), (.ref b101), (.ref b101)])) _
      refine XS.iloadN X107.here hx rfl (hb hby d1_15) rfl ?_
      show Steps p.tables e below (T107.setTop (mkF m 16 #[.val (.long q1), .second, .val (.int (0 : Int32))] [(.int (0 : Int32)), (.long q1), (.int (1 : Int32)), (.ref b101), (.ref b101)])) _
      refine XS.iconst X107.here hx rfl (hb hby d1_16) ?_
      show Steps p.tables e below (T107.setTop (mkF m 17 #[.val (.long q1), .second, .val (.int (0 : Int32))] [(.int (1 : Int32)), (.int (0 : Int32)), (.long q1), (.int (1 : Int32)), (.ref b101), (.ref b101)])) _
      refine XS.iadd X107.here hx rfl (hb hby d1_17) rfl ?_
      show Steps p.tables e below (T107.setTop (mkF m 18 #[.val (.long q1), .second, .val (.int (0 : Int32))] [(.int (1 : Int32)), (.long q1), (.int (1 : Int32)), (.ref b101), (.ref b101)])) _
      refine st110 _ ?_
      show Steps p.tables e below (T110.setTop (mkF m 21 #[.val (.long q1), .second, .val (.int (0 : Int32))] [(.long (own_b q1 (1 : Int32))), (.int (1 : Int32)), (.ref b101), (.ref b101)])) _
      refine XS.l2dS X110.here hx rfl (hb hby d1_21) rfl (v := (FP.l2d (own_b q1 (1 : Int32)))) rfl ?_
      show Steps p.tables e below (T110.setTop (mkF m 22 #[.val (.long q1), .second, .val (.int (0 : Int32))] [(.double (FP.l2d (own_b q1 (1 : Int32)))), (.int (1 : Int32)), (.ref b101), (.ref b101)])) _
      refine st113 _ ?_
      show Steps p.tables e below (T113.setTop (mkF m 23 #[.val (.long q1), .second, .val (.int (0 : Int32))] [(.ref b101)])) _
      refine XS.dup X113.here hx rfl (hb hby d1_23) rfl rfl ?_
      show Steps p.tables e below (T113.setTop (mkF m 24 #[.val (.long q1), .second, .val (.int (0 : Int32))] [(.ref b101), (.ref b101)])) _
      refine XS.iconst X113.here hx rfl (hb hby d1_24) ?_
      show Steps p.tables e below (T113.setTop (mkF m 25 #[.val (.long q1), .second, .val (.int (0 : Int32))] [(.int (2 : Int32)), (.ref b101), (.ref b101)])) _
      refine XS.lloadN X113.here hx rfl (hb hby d1_25) rfl ?_
      show Steps p.tables e below (T113.setTop (mkF m 26 #[.val (.long q1), .second, .val (.int (0 : Int32))] [(.long q1), (.int (2 : Int32)), (.ref b101), (.ref b101)])) _
      refine XS.iloadN X113.here hx rfl (hb hby d1_26) rfl ?_
      show Steps p.tables e below (T113.setTop (mkF m 27 #[.val (.long q1), .second, .val (.int (0 : Int32))] [(.int (0 : Int32)), (.long q1), (.int (2 : Int32)), (.ref b101), (.ref b101)])) _
      refine XS.iconst X113.here hx rfl (hb hby d1_27) ?_
      show Steps p.tables e below (T113.setTop (mkF m 28 #[.val (.long q1), .second, .val (.int (0 : Int32))] [(.int (2 : Int32)), (.int (0 : Int32)), (.long q1), (.int (2 : Int32)), (.ref b101), (.ref b101)])) _
      refine XS.iadd X113.here hx rfl (hb hby d1_28) rfl ?_
      show Steps p.tables e below (T113.setTop (mkF m 29 #[.val (.long q1), .second, .val (.int (0 : Int32))] [(.int (2 : Int32)), (.long q1), (.int (2 : Int32)), (.ref b101), (.ref b101)])) _
      refine st116 _ ?_
      show Steps p.tables e below (T116.setTop (mkF m 32 #[.val (.long q1), .second, .val (.int (0 : Int32))] [(.long (own_b q1 (2 : Int32))), (.int (2 : Int32)), (.ref b101), (.ref b101)])) _
      refine XS.l2dS X116.here hx rfl (hb hby d1_32) rfl (v := (FP.l2d (own_b q1 (2 : Int32)))) rfl ?_
      show Steps p.tables e below (T116.setTop (mkF m 33 #[.val (.long q1), .second, .val (.int (0 : Int32))] [(.double (FP.l2d (own_b q1 (2 : Int32)))), (.int (2 : Int32)), (.ref b101), (.ref b101)])) _
      refine st119 _ ?_
      show Steps p.tables e below (T119.setTop (mkF m 34 #[.val (.long q1), .second, .val (.int (0 : Int32))] [(.ref b101)])) _
      refine XS.dup X119.here hx rfl (hb hby d1_34) rfl rfl ?_
      show Steps p.tables e below (T119.setTop (mkF m 35 #[.val (.long q1), .second, .val (.int (0 : Int32))] [(.ref b101), (.ref b101)])) _
      refine XS.iconst X119.here hx rfl (hb hby d1_35) ?_
      show Steps p.tables e below (T119.setTop (mkF m 36 #[.val (.long q1), .second, .val (.int (0 : Int32))] [(.int (3 : Int32)), (.ref b101), (.ref b101)])) _
      refine XS.lloadN X119.here hx rfl (hb hby d1_36) rfl ?_
      show Steps p.tables e below (T119.setTop (mkF m 37 #[.val (.long q1), .second, .val (.int (0 : Int32))] [(.long q1), (.int (3 : Int32)), (.ref b101), (.ref b101)])) _
      refine XS.iloadN X119.here hx rfl (hb hby d1_37) rfl ?_
      show Steps p.tables e below (T119.setTop (mkF m 38 #[.val (.long q1), .second, .val (.int (0 : Int32))] [(.int (0 : Int32)), (.long q1), (.int (3 : Int32)), (.ref b101), (.ref b101)])) _
      refine XS.iconst X119.here hx rfl (hb hby d1_38) ?_
      show Steps p.tables e below (T119.setTop (mkF m 39 #[.val (.long q1), .second, .val (.int (0 : Int32))] [(.int (3 : Int32)), (.int (0 : Int32)), (.long q1), (.int (3 : Int32)), (.ref b101), (.ref b101)])) _
      refine XS.iadd X119.here hx rfl (hb hby d1_39) rfl ?_
      show Steps p.tables e below (T119.setTop (mkF m 40 #[.val (.long q1), .second, .val (.int (0 : Int32))] [(.int (3 : Int32)), (.long q1), (.int (3 : Int32)), (.ref b101), (.ref b101)])) _
      refine st122 _ ?_
      show Steps p.tables e below (T122.setTop (mkF m 43 #[.val (.long q1), .second, .val (.int (0 : Int32))] [(.long (own_b q1 (3 : Int32))), (.int (3 : Int32)), (.ref b101), (.ref b101)])) _
      refine XS.l2dS X122.here hx rfl (hb hby d1_43) rfl (v := (FP.l2d (own_b q1 (3 : Int32)))) rfl ?_
      show Steps p.tables e below (T122.setTop (mkF m 44 #[.val (.long q1), .second, .val (.int (0 : Int32))] [(.double (FP.l2d (own_b q1 (3 : Int32)))), (.int (3 : Int32)), (.ref b101), (.ref b101)])) _
      refine st125 _ ?_
      exact kt)
  obtain ⟨fs, hr, hrun, hended, hW, hsame⟩ := X125.leave (v := some (.ref b101)) (fun h => by rw [Bd.returns] at h; cases h)
  refine ⟨_, _, pre128 _ ?_, hrun, hended, _, _, rfl, ?_, ⟨_, rfl⟩, hW, hsame.mono (by decide) (by decide)⟩
  · show Steps p.tables e below (T125.setTop (mkF m 45 #[.val (.long q1), .second, .val (.int (0 : Int32))] [(.ref b101)])) _
    exact own_retR X125 hx Bd.returns rfl (hb hby d1_45) hr
  · show Qarr0 Z q1 h0 n0 _ T125.heap _
    rw [e125]
    exact ⟨b101, k101, rfl, N125, k127, sz_b101, V125⟩
theorem ef_arr4 (m : MethodId) (q1 : Int64) : entryFrame m #[(.long q1), (.int (4 : Int32))] 3 = mkF m 0 #[.val (.long q1), .second, .val (.int (4 : Int32))] [] := by first | (simp [entryFrame, mkF, argsToLocals, Value.category]; done) | rfl
def Qarr4 (Z : State) (q1 : Int64) (h0 : Heap) (n0 : Nat) (v : Option Value) (h : Heap) (L : List Loc) : Prop := ∃ (b : Addr) (kb : ClassId), v = some (.ref b) ∧ Fr n0 L ∧ Keep h0 h [] ∧ (h0.size ≤ b) ∧ (Arv Z h b kb .double (4 : Int32) [(.double (FP.l2d (own_b q1 (4 : Int32)))), (.double (FP.l2d (own_b q1 (5 : Int32)))), (.double (FP.l2d (own_b q1 (6 : Int32)))), (.double (FP.l2d (own_b q1 (7 : Int32))))] (.double (0 : UInt64)))
set_option maxRecDepth 65536 in
set_option maxHeartbeats 40000000 in
theorem rmarr4 (l : Launch) (Z : State) (a0 : Array Value) (hw : ∀ d ∈ tables_1, d.before a0 Z = true) (ws : List Jvm.Cond) (q1 : Int64) (h0 : Heap) (n0 : Nat) (Z0 : n0 ≤ h0.size) :
    MetFree l (⟨"com/example/orthoform/kernel/LinearCombinationsAddProductsPinLaw", "arr", "(JI)[D"⟩ : MethodName) (head1 (Jvm.Cond.code (⟨"com/example/orthoform/kernel/LinearCombinationsAddProductsPinLaw", "arr", "(JI)[D"⟩ : MethodName) method_3_code 3 (some (.array .double)) :: ws) ({ frames := 1, cells := 1, slots := 4, locals := 17 } : Room)) (fun a U => a = #[(.long q1), (.int (4 : Int32))] ∧ Z.Warmed39 U.vm ∧ U.heap = h0) (fun _ _ _ _ _ => True) (fun _ U o U' => ∃ v L, o = .returned v ∧ Qarr4 Z q1 h0 n0 v U'.heap L ∧ FrameEnd U o U' L ({ frames := 1, cells := 1, slots := 4, locals := 17 } : Room).cells ({ frames := 1, cells := 1, slots := 4, locals := 17 } : Room).slots) := by
  refine MetFree.of_bodySF (plainFor_of_name pn_com_example_orthoform_kernel_LinearCombinationsAddProductsPinLaw) hisR ?_
  intro p e s m args below meth c s₁ Bd hml0 hP hK
  obtain ⟨rfl, hZ, hh⟩ := hP
  have hx := Bd.exec
  have hby := Bd.bytes
  have hml : c.maxLocals = 3 := hml0
  have hown : s.vm.findClass "com/example/orthoform/kernel/LinearCombinationsAddProductsPinLaw" = some m.cls := findClass_of_methodNamed Bd.named
  have hnm := (name_of_methodNamed Bd.named Bd.method).1
  have X0 : Stand p l e ({ frames := 1, cells := 1, slots := 4, locals := 17 } : Room) s m #[(.long q1), (.int (4 : Int32))] below meth c s₁ [] 0 0 := Stand.of_body Bd
  have e0 : s₁.heap = h0 := by rw [← hh, Bd.state]; rfl
  have N0 := Fr.nil n0
  have pre0 : ∀ t_, Steps p.tables e below (s₁.setTop (mkF m 0 #[.val (.long q1), .second, .val (.int (4 : Int32))] [])) t_ → Steps p.tables e below (s₁.setTop (entryFrame m #[(.long q1), (.int (4 : Int32))] 3)) t_ := fun t_ k => castTop (ef_arr4 m q1) k
  obtain ⟨T101, h101, k101, X101, e101, E101, A101, st101⟩ := newP X0 hx hZ (hw _ (List.mem_of_getElem? (i := 4) rfl)) e0 (g := (mkF m 1 #[.val (.long q1), .second, .val (.int (4 : Int32))] [(.int (4 : Int32))])) rfl (hb hby d1_1) rfl (by decide) (cap := 4) (by decide) (by decide) (by decide) (by decide)
  obtain ⟨b101, g101⟩ : ∃ z, z = h0.size := ⟨_, rfl⟩
  rw [← g101] at A101 st101
  have g_b101 : n0 ≤ b101 := Nat.le_trans Z0 (Nat.le_of_eq g101.symm)
  have sz_b101 : h0.size ≤ b101 := Nat.le_trans (Keep.refl h0 []).1 (Nat.le_of_eq g101.symm)
  have z102 : n0 ≤ h101.size := Nat.le_trans Z0 E101.1
  have k103 : Keep h0 h101 [] := (Keep.refl h0 []).ext E101
  have V101 : Arv Z h101 b101 k101 .double (4 : Int32) [(.double (0 : UInt64)), (.double (0 : UInt64)), (.double (0 : UInt64)), (.double (0 : UInt64))] (.double (0 : UInt64)) := (Arv.new A101 (by decide)).pad (pad_rep [] (.double (0 : UInt64)) 4)
  obtain ⟨_, _, ⟨T104, L104, kk104, nn104⟩, -, X104, ⟨Lc104, hQ104, l104, y104, z104⟩, st104⟩ := Jvm.LawKit.callS X101 hx (y := (⟨"com/example/orthoform/kernel/LinearCombinationsAddProductsPinLaw", "b", "(JI)J"⟩ : MethodName)) hown (mvT hZ (hw _ (List.mem_of_getElem? (i := 5) rfl))) (mvT hZ (hw _ (List.mem_of_getElem? (i := 6) rfl))) (mvT hZ (hw _ (List.mem_of_getElem? (i := 2) rfl))) (mvT hZ (hw _ (List.mem_of_getElem? (i := 7) rfl))) (by decide) (backOf (W := 3) (rm2 l Z a0 hw [] q1 (4 : Int32) h101 n0 z102 ) hZ (hw _ (List.mem_of_getElem? (i := 7) rfl)) (hw _ (List.mem_of_getElem? (i := 2) rfl)) (by decide) (by decide)) (g := (mkF m 7 #[.val (.long q1), .second, .val (.int (4 : Int32))] [(.int (4 : Int32)), (.long q1), (.int (0 : Int32)), (.ref b101), (.ref b101)])) rfl (by rw [hml]; rfl) (argsL := [(.long q1), (.int (4 : Int32))]) (rest := [(.int (0 : Int32)), (.ref b101), (.ref b101)]) (lenOf pd__28JI_29J rfl) rfl (by show 2 * 0 + _ ≤ _; exact Nat.le_of_eq rfl) (hb hby d1_7) (fun _ _ => ⟨rfl, e101, (by decide : 1 + 0 ≤ _), (by decide : 4 + 0 ≤ _)⟩)
  dsimp only [Pt.U, Pt.locs, Pt.cells, Pt.slots] at X104 l104 y104 z104 st104 hQ104
  subst l104 y104 z104
  obtain ⟨rfl, N104q, e104⟩ := hQ104
  have N104 := Fr.app N0 N104q
  obtain ⟨cl105, Ar105, Q105, S105, M105, H105, G105⟩ := id V101
  have in106 : ¬ ((0 : Int32) < 0 ∨ cl105.slots.size ≤ ((0 : Int32)).toNatClampNeg) := inb_of S105 ⟨by decide, by decide⟩
  obtain ⟨T107, h107, X107, e107, W107, st107⟩ := stD X104 hx hZ e104 Ar105 (j := (0 : Int32)) in106 (g := (mkF m 11 #[.val (.long q1), .second, .val (.int (4 : Int32))] [(.double (FP.l2d (own_b q1 (4 : Int32)))), (.int (0 : Int32)), (.ref b101), (.ref b101)])) rfl rfl (hb hby d1_11)
  have z108 : n0 ≤ h107.size := Nat.le_trans z102 (Keep.of_wr W107).1
  have k109 : Keep h0 h107 [] := k103.wr W107 (Or.inr sz_b101)
  have V107 : Arv Z h107 b101 k101 .double (4 : Int32) [(.double (FP.l2d (own_b q1 (4 : Int32)))), (.double (0 : UInt64)), (.double (0 : UInt64)), (.double (0 : UInt64))] (.double (0 : UInt64)) := Arv.set Ar105 Q105 S105 M105 H105 G105 rfl W107 0 rfl (Nat.le_of_ble_eq_true rfl)
  have N107 : Fr n0 _ := Fr.snoc X107 N104 g_b101
  obtain ⟨_, _, ⟨T110, L110, kk110, nn110⟩, -, X110, ⟨Lc110, hQ110, l110, y110, z110⟩, st110⟩ := Jvm.LawKit.callS X107 hx (y := (⟨"com/example/orthoform/kernel/LinearCombinationsAddProductsPinLaw", "b", "(JI)J"⟩ : MethodName)) hown (mvT hZ (hw _ (List.mem_of_getElem? (i := 5) rfl))) (mvT hZ (hw _ (List.mem_of_getElem? (i := 6) rfl))) (mvT hZ (hw _ (List.mem_of_getElem? (i := 2) rfl))) (mvT hZ (hw _ (List.mem_of_getElem? (i := 7) rfl))) (by decide) (backOf (W := 3) (rm2 l Z a0 hw [] q1 (5 : Int32) h107 n0 z108 ) hZ (hw _ (List.mem_of_getElem? (i := 7) rfl)) (hw _ (List.mem_of_getElem? (i := 2) rfl)) (by decide) (by decide)) (g := (mkF m 18 #[.val (.long q1), .second, .val (.int (4 : Int32))] [(.int (5 : Int32)), (.long q1), (.int (1 : Int32)), (.ref b101), (.ref b101)])) rfl (by rw [hml]; rfl) (argsL := [(.long q1), (.int (5 : Int32))]) (rest := [(.int (1 : Int32)), (.ref b101), (.ref b101)]) (lenOf pd__28JI_29J rfl) rfl (by show 2 * 0 + _ ≤ _; exact Nat.le_of_eq rfl) (hb hby d1_18) (fun _ _ => ⟨rfl, e107, (by decide : 1 + 0 ≤ _), (by decide : 4 + 0 ≤ _)⟩)
  dsimp only [Pt.U, Pt.locs, Pt.cells, Pt.slots] at X110 l110 y110 z110 st110 hQ110
  subst l110 y110 z110
  obtain ⟨rfl, N110q, e110⟩ := hQ110
  have N110 := Fr.app N107 N110q
  obtain ⟨cl111, Ar111, Q111, S111, M111, H111, G111⟩ := id V107
  have in112 : ¬ ((1 : Int32) < 0 ∨ cl111.slots.size ≤ ((1 : Int32)).toNatClampNeg) := inb_of S111 ⟨by decide, by decide⟩
  obtain ⟨T113, h113, X113, e113, W113, st113⟩ := stD X110 hx hZ e110 Ar111 (j := (1 : Int32)) in112 (g := (mkF m 22 #[.val (.long q1), .second, .val (.int (4 : Int32))] [(.double (FP.l2d (own_b q1 (5 : Int32)))), (.int (1 : Int32)), (.ref b101), (.ref b101)])) rfl rfl (hb hby d1_22)
  have z114 : n0 ≤ h113.size := Nat.le_trans z108 (Keep.of_wr W113).1
  have k115 : Keep h0 h113 [] := k109.wr W113 (Or.inr sz_b101)
  have V113 : Arv Z h113 b101 k101 .double (4 : Int32) [(.double (FP.l2d (own_b q1 (4 : Int32)))), (.double (FP.l2d (own_b q1 (5 : Int32)))), (.double (0 : UInt64)), (.double (0 : UInt64))] (.double (0 : UInt64)) := Arv.set Ar111 Q111 S111 M111 H111 G111 rfl W113 1 rfl (Nat.le_of_ble_eq_true rfl)
  have N113 : Fr n0 _ := Fr.snoc X113 N110 g_b101
  obtain ⟨_, _, ⟨T116, L116, kk116, nn116⟩, -, X116, ⟨Lc116, hQ116, l116, y116, z116⟩, st116⟩ := Jvm.LawKit.callS X113 hx (y := (⟨"com/example/orthoform/kernel/LinearCombinationsAddProductsPinLaw", "b", "(JI)J"⟩ : MethodName)) hown (mvT hZ (hw _ (List.mem_of_getElem? (i := 5) rfl))) (mvT hZ (hw _ (List.mem_of_getElem? (i := 6) rfl))) (mvT hZ (hw _ (List.mem_of_getElem? (i := 2) rfl))) (mvT hZ (hw _ (List.mem_of_getElem? (i := 7) rfl))) (by decide) (backOf (W := 3) (rm2 l Z a0 hw [] q1 (6 : Int32) h113 n0 z114 ) hZ (hw _ (List.mem_of_getElem? (i := 7) rfl)) (hw _ (List.mem_of_getElem? (i := 2) rfl)) (by decide) (by decide)) (g := (mkF m 29 #[.val (.long q1), .second, .val (.int (4 : Int32))] [(.int (6 : Int32)), (.long q1), (.int (2 : Int32)), (.ref b101), (.ref b101)])) rfl (by rw [hml]; rfl) (argsL := [(.long q1), (.int (6 : Int32))]) (rest := [(.int (2 : Int32)), (.ref b101), (.ref b101)]) (lenOf pd__28JI_29J rfl) rfl (by show 2 * 0 + _ ≤ _; exact Nat.le_of_eq rfl) (hb hby d1_29) (fun _ _ => ⟨rfl, e113, (by decide : 1 + 0 ≤ _), (by decide : 4 + 0 ≤ _)⟩)
  dsimp only [Pt.U, Pt.locs, Pt.cells, Pt.slots] at X116 l116 y116 z116 st116 hQ116
  subst l116 y116 z116
  obtain ⟨rfl, N116q, e116⟩ := hQ116
  have N116 := Fr.app N113 N116q
  obtain ⟨cl117, Ar117, Q117, S117, M117, H117, G117⟩ := id V113
  have in118 : ¬ ((2 : Int32) < 0 ∨ cl117.slots.size ≤ ((2 : Int32)).toNatClampNeg) := inb_of S117 ⟨by decide, by decide⟩
  obtain ⟨T119, h119, X119, e119, W119, st119⟩ := stD X116 hx hZ e116 Ar117 (j := (2 : Int32)) in118 (g := (mkF m 33 #[.val (.long q1), .second, .val (.int (4 : Int32))] [(.double (FP.l2d (own_b q1 (6 : Int32)))), (.int (2 : Int32)), (.ref b101), (.ref b101)])) rfl rfl (hb hby d1_33)
  have z120 : n0 ≤ h119.size := Nat.le_trans z114 (Keep.of_wr W119).1
  have k121 : Keep h0 h119 [] := k115.wr W119 (Or.inr sz_b101)
  have V119 : Arv Z h119 b101 k101 .double (4 : Int32) [(.double (FP.l2d (own_b q1 (4 : Int32)))), (.double (FP.l2d (own_b q1 (5 : Int32)))), (.double (FP.l2d (own_b q1 (6 : Int32)))), (.double (0 : UInt64))] (.double (0 : UInt64)) := Arv.set Ar117 Q117 S117 M117 H117 G117 rfl W119 2 rfl (Nat.le_of_ble_eq_true rfl)
  have N119 : Fr n0 _ := Fr.snoc X119 N116 g_b101
  obtain ⟨_, _, ⟨T122, L122, kk122, nn122⟩, -, X122, ⟨Lc122, hQ122, l122, y122, z122⟩, st122⟩ := Jvm.LawKit.callS X119 hx (y := (⟨"com/example/orthoform/kernel/LinearCombinationsAddProductsPinLaw", "b", "(JI)J"⟩ : MethodName)) hown (mvT hZ (hw _ (List.mem_of_getElem? (i := 5) rfl))) (mvT hZ (hw _ (List.mem_of_getElem? (i := 6) rfl))) (mvT hZ (hw _ (List.mem_of_getElem? (i := 2) rfl))) (mvT hZ (hw _ (List.mem_of_getElem? (i := 7) rfl))) (by decide) (backOf (W := 3) (rm2 l Z a0 hw [] q1 (7 : Int32) h119 n0 z120 ) hZ (hw _ (List.mem_of_getElem? (i := 7) rfl)) (hw _ (List.mem_of_getElem? (i := 2) rfl)) (by decide) (by decide)) (g := (mkF m 40 #[.val (.long q1), .second, .val (.int (4 : Int32))] [(.int (7 : Int32)), (.long q1), (.int (3 : Int32)), (.ref b101), (.ref b101)])) rfl (by rw [hml]; rfl) (argsL := [(.long q1), (.int (7 : Int32))]) (rest := [(.int (3 : Int32)), (.ref b101), (.ref b101)]) (lenOf pd__28JI_29J rfl) rfl (by show 2 * 0 + _ ≤ _; exact Nat.le_of_eq rfl) (hb hby d1_40) (fun _ _ => ⟨rfl, e119, (by decide : 1 + 0 ≤ _), (by decide : 4 + 0 ≤ _)⟩)
  dsimp only [Pt.U, Pt.locs, Pt.cells, Pt.slots] at X122 l122 y122 z122 st122 hQ122
  subst l122 y122 z122
  obtain ⟨rfl, N122q, e122⟩ := hQ122
  have N122 := Fr.app N119 N122q
  obtain ⟨cl123, Ar123, Q123, S123, M123, H123, G123⟩ := id V119
  have in124 : ¬ ((3 : Int32) < 0 ∨ cl123.slots.size ≤ ((3 : Int32)).toNatClampNeg) := inb_of S123 ⟨by decide, by decide⟩
  obtain ⟨T125, h125, X125, e125, W125, st125⟩ := stD X122 hx hZ e122 Ar123 (j := (3 : Int32)) in124 (g := (mkF m 44 #[.val (.long q1), .second, .val (.int (4 : Int32))] [(.double (FP.l2d (own_b q1 (7 : Int32)))), (.int (3 : Int32)), (.ref b101), (.ref b101)])) rfl rfl (hb hby d1_44)
  have z126 : n0 ≤ h125.size := Nat.le_trans z120 (Keep.of_wr W125).1
  have k127 : Keep h0 h125 [] := k121.wr W125 (Or.inr sz_b101)
  have V125 : Arv Z h125 b101 k101 .double (4 : Int32) [(.double (FP.l2d (own_b q1 (4 : Int32)))), (.double (FP.l2d (own_b q1 (5 : Int32)))), (.double (FP.l2d (own_b q1 (6 : Int32)))), (.double (FP.l2d (own_b q1 (7 : Int32))))] (.double (0 : UInt64)) := Arv.set Ar123 Q123 S123 M123 H123 G123 rfl W125 3 rfl (Nat.le_of_ble_eq_true rfl)
  have N125 : Fr n0 _ := Fr.snoc X125 N122 g_b101
  have pre128 : ∀ t_, Steps p.tables e below (T125.setTop (mkF m 45 #[.val (.long q1), .second, .val (.int (4 : Int32))] [(.ref b101)])) t_ → Steps p.tables e below (s₁.setTop (entryFrame m #[(.long q1), (.int (4 : Int32))] 3)) t_ := fun t_ kt => pre0 t_ (by
      show Steps p.tables e below (s₁.setTop (mkF m 0 #[.val (.long q1), .second, .val (.int (4 : Int32))] [])) _
      refine XS.iconst X0.here hx rfl (hb hby d1_0) ?_
      show Steps p.tables e below (s₁.setTop (mkF m 1 #[.val (.long q1), .second, .val (.int (4 : Int32))] [(.int (4 : Int32))])) _
      refine st101 _ ?_
      show Steps p.tables e below (T101.setTop (mkF m 3 #[.val (.long q1), .second, .val (.int (4 : Int32))] [(.ref b101)])) _
      refine XS.dup X101.here hx rfl (hb hby d1_3) rfl rfl ?_
      show Steps p.tables e below (T101.setTop (mkF m 4 #[.val (.long q1), .second, .val (.int (4 : Int32))] [(.ref b101), (.ref b101)])) _
      refine XS.iconst X101.here hx rfl (hb hby d1_4) ?_
      show Steps p.tables e below (T101.setTop (mkF m 5 #[.val (.long q1), .second, .val (.int (4 : Int32))] [(.int (0 : Int32)), (.ref b101), (.ref b101)])) _
      refine XS.lloadN X101.here hx rfl (hb hby d1_5) rfl ?_
      show Steps p.tables e below (T101.setTop (mkF m 6 #[.val (.long q1), .second, .val (.int (4 : Int32))] [(.long q1), (.int (0 : Int32)), (.ref b101), (.ref b101)])) _
      refine XS.iloadN X101.here hx rfl (hb hby d1_6) rfl ?_
      show Steps p.tables e below (T101.setTop (mkF m 7 #[.val (.long q1), .second, .val (.int (4 : Int32))] [(.int (4 : Int32)), (.long q1), (.int (0 : Int32)), (.ref b101), (.ref b101)])) _
      refine st104 _ ?_
      show Steps p.tables e below (T104.setTop (mkF m 10 #[.val (.long q1), .second, .val (.int (4 : Int32))] [(.long (own_b q1 (4 : Int32))), (.int (0 : Int32)), (.ref b101), (.ref b101)])) _
      refine XS.l2dS X104.here hx rfl (hb hby d1_10) rfl (v := (FP.l2d (own_b q1 (4 : Int32)))) rfl ?_
      show Steps p.tables e below (T104.setTop (mkF m 11 #[.val (.long q1), .second, .val (.int (4 : Int32))] [(.double (FP.l2d (own_b q1 (4 : Int32)))), (.int (0 : Int32)), (.ref b101), (.ref b101)])) _
      refine st107 _ ?_
      show Steps p.tables e below (T107.setTop (mkF m 12 #[.val (.long q1), .second, .val (.int (4 : Int32))] [(.ref b101)])) _
      refine XS.dup X107.here hx rfl (hb hby d1_12) rfl rfl ?_
      show Steps p.tables e below (T107.setTop (mkF m 13 #[.val (.long q1), .second, .val (.int (4 : Int32))] [(.ref b101), (.ref b101)])) _
      refine XS.iconst X107.here hx rfl (hb hby d1_13) ?_
      show Steps p.tables e below (T107.setTop (mkF m 14 #[.val (.long q1), .second, .val (.int (4 : Int32))] [(.int (1 : Int32)), (.ref b101), (.ref b101)])) _
      refine XS.lloadN X107.here hx rfl (hb hby d1_14) rfl ?_
      show Steps p.tables e below (T107.setTop (mkF m 15 #[.val (.long q1), .second, .val (.int (4 : Int32))] [(.long q1), (.int (1 : Int32)), (.ref b101), (.ref b101)])) _
      refine XS.iloadN X107.here hx rfl (hb hby d1_15) rfl ?_
      show Steps p.tables e below (T107.setTop (mkF m 16 #[.val (.long q1), .second, .val (.int (4 : Int32))] [(.int (4 : Int32)), (.long q1), (.int (1 : Int32)), (.ref b101), (.ref b101)])) _
      refine XS.iconst X107.here hx rfl (hb hby d1_16) ?_
      show Steps p.tables e below (T107.setTop (mkF m 17 #[.val (.long q1), .second, .val (.int (4 : Int32))] [(.int (1 : Int32)), (.int (4 : Int32)), (.long q1), (.int (1 : Int32)), (.ref b101), (.ref b101)])) _
      refine XS.iadd X107.here hx rfl (hb hby d1_17) rfl ?_
      show Steps p.tables e below (T107.setTop (mkF m 18 #[.val (.long q1), .second, .val (.int (4 : Int32))] [(.int (5 : Int32)), (.long q1), (.int (1 : Int32)), (.ref b101), (.ref b101)])) _
      refine st110 _ ?_
      show Steps p.tables e below (T110.setTop (mkF m 21 #[.val (.long q1), .second, .val (.int (4 : Int32))] [(.long (own_b q1 (5 : Int32))), (.int (1 : Int32)), (.ref b101), (.ref b101)])) _
      refine XS.l2dS X110.here hx rfl (hb hby d1_21) rfl (v := (FP.l2d (own_b q1 (5 : Int32)))) rfl ?_
      show Steps p.tables e below (T110.setTop (mkF m 22 #[.val (.long q1), .second, .val (.int (4 : Int32))] [(.double (FP.l2d (own_b q1 (5 : Int32)))), (.int (1 : Int32)), (.ref b101), (.ref b101)])) _
      refine st113 _ ?_
      show Steps p.tables e below (T113.setTop (mkF m 23 #[.val (.long q1), .second, .val (.int (4 : Int32))] [(.ref b101)])) _
      refine XS.dup X113.here hx rfl (hb hby d1_23) rfl rfl ?_
      show Steps p.tables e below (T113.setTop (mkF m 24 #[.val (.long q1), .second, .val (.int (4 : Int32))] [(.ref b101), (.ref b101)])) _
      refine XS.iconst X113.here hx rfl (hb hby d1_24) ?_
      show Steps p.tables e below (T113.setTop (mkF m 25 #[.val (.long q1), .second, .val (.int (4 : Int32))] [(.int (2 : Int32)), (.ref b101), (.ref b101)])) _
      refine XS.lloadN X113.here hx rfl (hb hby d1_25) rfl ?_
      show Steps p.tables e below (T113.setTop (mkF m 26 #[.val (.long q1), .second, .val (.int (4 : Int32))] [(.long q1), (.int (2 : Int32)), (.ref b101), (.ref b101)])) _
      refine XS.iloadN X113.here hx rfl (hb hby d1_26) rfl ?_
      show Steps p.tables e below (T113.setTop (mkF m 27 #[.val (.long q1), .second, .val (.int (4 : Int32))] [(.int (4 : Int32)), (.long q1), (.int (2 : Int32)), (.ref b101), (.ref b101)])) _
      refine XS.iconst X113.here hx rfl (hb hby d1_27) ?_
      show Steps p.tables e below (T113.setTop (mkF m 28 #[.val (.long q1), .second, .val (.int (4 : Int32))] [(.int (2 : Int32)), (.int (4 : Int32)), (.long q1), (.int (2 : Int32)), (.ref b101), (.ref b101)])) _
      refine XS.iadd X113.here hx rfl (hb hby d1_28) rfl ?_
      show Steps p.tables e below (T113.setTop (mkF m 29 #[.val (.long q1), .second, .val (.int (4 : Int32))] [(.int (6 : Int32)), (.long q1), (.int (2 : Int32)), (.ref b101), (.ref b101)])) _
      refine st116 _ ?_
      show Steps p.tables e below (T116.setTop (mkF m 32 #[.val (.long q1), .second, .val (.int (4 : Int32))] [(.long (own_b q1 (6 : Int32))), (.int (2 : Int32)), (.ref b101), (.ref b101)])) _
      refine XS.l2dS X116.here hx rfl (hb hby d1_32) rfl (v := (FP.l2d (own_b q1 (6 : Int32)))) rfl ?_
      show Steps p.tables e below (T116.setTop (mkF m 33 #[.val (.long q1), .second, .val (.int (4 : Int32))] [(.double (FP.l2d (own_b q1 (6 : Int32)))), (.int (2 : Int32)), (.ref b101), (.ref b101)])) _
      refine st119 _ ?_
      show Steps p.tables e below (T119.setTop (mkF m 34 #[.val (.long q1), .second, .val (.int (4 : Int32))] [(.ref b101)])) _
      refine XS.dup X119.here hx rfl (hb hby d1_34) rfl rfl ?_
      show Steps p.tables e below (T119.setTop (mkF m 35 #[.val (.long q1), .second, .val (.int (4 : Int32))] [(.ref b101), (.ref b101)])) _
      refine XS.iconst X119.here hx rfl (hb hby d1_35) ?_
      show Steps p.tables e below (T119.setTop (mkF m 36 #[.val (.long q1), .second, .val (.int (4 : Int32))] [(.int (3 : Int32)), (.ref b101), (.ref b101)])) _
      refine XS.lloadN X119.here hx rfl (hb hby d1_36) rfl ?_
      show Steps p.tables e below (T119.setTop (mkF m 37 #[.val (.long q1), .second, .val (.int (4 : Int32))] [(.long q1), (.int (3 : Int32)), (.ref b101), (.ref b101)])) _
      refine XS.iloadN X119.here hx rfl (hb hby d1_37) rfl ?_
      show Steps p.tables e below (T119.setTop (mkF m 38 #[.val (.long q1), .second, .val (.int (4 : Int32))] [(.int (4 : Int32)), (.long q1), (.int (3 : Int32)), (.ref b101), (.ref b101)])) _
      refine XS.iconst X119.here hx rfl (hb hby d1_38) ?_
      show Steps p.tables e below (T119.setTop (mkF m 39 #[.val (.long q1), .second, .val (.int (4 : Int32))] [(.int (3 : Int32)), (.int (4 : Int32)), (.long q1), (.int (3 : Int32)), (.ref b101), (.ref b101)])) _
      refine XS.iadd X119.here hx rfl (hb hby d1_39) rfl ?_
      show Steps p.tables e below (T119.setTop (mkF m 40 #[.val (.long q1), .second, .val (.int (4 : Int32))] [(.int (7 : Int32)), (.long q1), (.int (3 : Int32)), (.ref b101), (.ref b101)])) _
      refine st122 _ ?_
      show Steps p.tables e below (T122.setTop (mkF m 43 #[.val (.long q1), .second, .val (.int (4 : Int32))] [(.long (own_b q1 (7 : Int32))), (.int (3 : Int32)), (.ref b101), (.ref b101)])) _
      refine XS.l2dS X122.here hx rfl (hb hby d1_43) rfl (v := (FP.l2d (own_b q1 (7 : Int32)))) rfl ?_
      show Steps p.tables e below (T122.setTop (mkF m 44 #[.val (.long q1), .second, .val (.int (4 : Int32))] [(.double (FP.l2d (own_b q1 (7 : Int32)))), (.int (3 : Int32)), (.ref b101), (.ref b101)])) _
      refine st125 _ ?_
      exact kt)
  obtain ⟨fs, hr, hrun, hended, hW, hsame⟩ := X125.leave (v := some (.ref b101)) (fun h => by rw [Bd.returns] at h; cases h)
  refine ⟨_, _, pre128 _ ?_, hrun, hended, _, _, rfl, ?_, ⟨_, rfl⟩, hW, hsame.mono (by decide) (by decide)⟩
  · show Steps p.tables e below (T125.setTop (mkF m 45 #[.val (.long q1), .second, .val (.int (4 : Int32))] [(.ref b101)])) _
    exact own_retR X125 hx Bd.returns rfl (hb hby d1_45) hr
  · show Qarr4 Z q1 h0 n0 _ T125.heap _
    rw [e125]
    exact ⟨b101, k101, rfl, N125, k127, sz_b101, V125⟩
theorem d3_4 : decode prog_6_method_2_code 4 = .ok (.iload 15, 2) := by decide +kernel
theorem d3_6 : decode prog_6_method_2_code 6 = .ok (.iload 14, 2) := by decide +kernel
theorem d3_8 : decode prog_6_method_2_code 8 = .ok (.if_icmp .ge 49, 3) := by decide +kernel
theorem d3_11 : decode prog_6_method_2_code 11 = .ok (.aload_n 0, 1) := by decide +kernel
theorem d3_12 : decode prog_6_method_2_code 12 = .ok (.iload 15, 2) := by decide +kernel
theorem d3_14 : decode prog_6_method_2_code 14 = .ok (.dup2, 1) := by decide +kernel
theorem d3_15 : decode prog_6_method_2_code 15 = .ok (.daload, 1) := by decide +kernel
theorem d3_16 : decode prog_6_method_2_code 16 = .ok (.dload_n 1, 1) := by decide +kernel
theorem d3_17 : decode prog_6_method_2_code 17 = .ok (.aload_n 3, 1) := by decide +kernel
theorem d3_18 : decode prog_6_method_2_code 18 = .ok (.iload 15, 2) := by decide +kernel
theorem d3_20 : decode prog_6_method_2_code 20 = .ok (.daload, 1) := by decide +kernel
theorem d3_21 : decode prog_6_method_2_code 21 = .ok (.dmul, 1) := by decide +kernel
theorem d3_22 : decode prog_6_method_2_code 22 = .ok (.dload 4, 2) := by decide +kernel
theorem d3_24 : decode prog_6_method_2_code 24 = .ok (.aload 6, 2) := by decide +kernel
theorem d3_26 : decode prog_6_method_2_code 26 = .ok (.iload 15, 2) := by decide +kernel
theorem d3_28 : decode prog_6_method_2_code 28 = .ok (.daload, 1) := by decide +kernel
theorem d3_29 : decode prog_6_method_2_code 29 = .ok (.dmul, 1) := by decide +kernel
theorem d3_30 : decode prog_6_method_2_code 30 = .ok (.dadd, 1) := by decide +kernel
theorem d3_31 : decode prog_6_method_2_code 31 = .ok (.dload 7, 2) := by decide +kernel
theorem d3_33 : decode prog_6_method_2_code 33 = .ok (.aload 9, 2) := by decide +kernel
theorem d3_35 : decode prog_6_method_2_code 35 = .ok (.iload 15, 2) := by decide +kernel
theorem d3_37 : decode prog_6_method_2_code 37 = .ok (.daload, 1) := by decide +kernel
theorem d3_38 : decode prog_6_method_2_code 38 = .ok (.dmul, 1) := by decide +kernel
theorem d3_39 : decode prog_6_method_2_code 39 = .ok (.dadd, 1) := by decide +kernel
theorem d3_40 : decode prog_6_method_2_code 40 = .ok (.dload 10, 2) := by decide +kernel
theorem d3_42 : decode prog_6_method_2_code 42 = .ok (.aload 12, 2) := by decide +kernel
theorem d3_44 : decode prog_6_method_2_code 44 = .ok (.iload 15, 2) := by decide +kernel
theorem d3_46 : decode prog_6_method_2_code 46 = .ok (.daload, 1) := by decide +kernel
theorem d3_47 : decode prog_6_method_2_code 47 = .ok (.dmul, 1) := by decide +kernel
theorem d3_48 : decode prog_6_method_2_code 48 = .ok (.dadd, 1) := by decide +kernel
theorem d3_49 : decode prog_6_method_2_code 49 = .ok (.dadd, 1) := by decide +kernel
theorem d3_50 : decode prog_6_method_2_code 50 = .ok (.dastore, 1) := by decide +kernel
theorem d3_51 : decode prog_6_method_2_code 51 = .ok (.iinc 15 1, 3) := by decide +kernel
theorem d3_54 : decode prog_6_method_2_code 54 = .ok (.goto (-50), 3) := by decide +kernel
set_option maxRecDepth 65536 in
set_option maxHeartbeats 40000000 in
theorem own_turn {p : Program} {l : Launch} {e : Env} {R : Room} {s : State} {m : MethodId} {args : Array Value} {below : List Frame} {meth : Method} {c : Code} {cells slots : Nat} {Z : State} {a0 : Array Value} {n0 : Nat} {T0 : State} {locs : List Loc} {h0 : Heap} (a1 : Addr) (d1 : UInt64) (a2 : Addr) (d2 : UInt64) (a3 : Addr) (d3 : UInt64) (a4 : Addr) (d4 : UInt64) (a5 : Addr) (dv : Nat → UInt64) (s0 : Nat → UInt64) (s1 : Nat → UInt64) (s2 : Nat → UInt64) (s3 : Nat → UInt64) (k1 : ClassId) (k2 : ClassId) (k3 : ClassId) (k4 : ClassId) (k5 : ClassId) (f : Nat) (tt : Nat) (i : Nat) (X0 : Stand p l e R s m args below meth c T0 locs cells slots) (hx : p.tables.exec = Jvm.exec) (hZ : Z.Warmed39 s.vm) (hw : ∀ d ∈ tables_1, d.before a0 Z = true) (hby : c.code = prog_6_method_2_code) (hml : c.maxLocals = 16) (hown : s.vm.findClass "com/example/orthoform/kernel/LinearCombinations" = some m.cls) (e0 : T0.heap = h0) (N0 : Fr n0 locs) (Z0 : n0 ≤ h0.size) (hRf : 0 ≤ R.frames) (hRl : 0 ≤ R.locals) (hRc : cells + 0 ≤ R.cells) (hRs : slots + 0 ≤ R.slots) (P_V_a1 : Arv Z h0 a1 k1 .double (4 : Int32) (own_dv (own_cur dv s0 s1 s2 s3 d1 d2 d3 d4 f i)) (.double (0 : UInt64))) (P_V_a2 : Arv Z h0 a2 k2 .double (4 : Int32) (own_dv s0) (.double (0 : UInt64))) (P_V_a3 : Arv Z h0 a3 k3 .double (4 : Int32) (own_dv s1) (.double (0 : UInt64))) (P_V_a4 : Arv Z h0 a4 k4 .double (4 : Int32) (own_dv s2) (.double (0 : UInt64))) (P_V_a5 : Arv Z h0 a5 k5 .double (4 : Int32) (own_dv s3) (.double (0 : UInt64))) (P_ne_a2_a1 : a2 ≠ a1) (P_ne_a3_a1 : a3 ≠ a1) (P_ne_a4_a1 : a4 ≠ a1) (P_ne_a5_a1 : a5 ≠ a1) (P_G_a1 : n0 ≤ a1) (hfi : f ≤ i) (hit : i < tt) (ht4 : tt ≤ 4) (hi4 : i < 4) (hall : ∀ j, j < 4 → own_ok dv s0 s1 s2 s3 d1 d2 d3 d4 j) :
    ∃ (T' : State) (h' : Heap) (locs' : List Loc), Stand p l e R s m args below meth c T' locs' cells slots ∧ T'.heap = h' ∧ Fr n0 locs' ∧ Keep h0 h' [a1] ∧ (Arv Z h' a1 k1 .double (4 : Int32) (own_dv (own_cur dv s0 s1 s2 s3 d1 d2 d3 d4 f (i + 1))) (.double (0 : UInt64))) ∧ ∀ t_, Steps p.tables e below (T'.setTop (mkF m 4 #[.val (.ref a1), .val (.double d1), .second, .val (.ref a2), .val (.double d2), .second, .val (.ref a3), .val (.double d3), .second, .val (.ref a4), .val (.double d4), .second, .val (.ref a5), .val (.int (Int32.ofNat f)), .val (.int (Int32.ofNat tt)), .val (.int (Int32.ofNat (i + 1)))] [])) t_ → Steps p.tables e below (T0.setTop (mkF m 4 #[.val (.ref a1), .val (.double d1), .second, .val (.ref a2), .val (.double d2), .second, .val (.ref a3), .val (.double d3), .second, .val (.ref a4), .val (.double d4), .second, .val (.ref a5), .val (.int (Int32.ofNat f)), .val (.int (Int32.ofNat tt)), .val (.int (Int32.ofNat i))] [])) t_ := by
  have pre0 : ∀ t_, Steps p.tables e below (T0.setTop (mkF m 4 #[.val (.ref a1), .val (.double d1), .second, .val (.ref a2), .val (.double d2), .second, .val (.ref a3), .val (.double d3), .second, .val (.ref a4), .val (.double d4), .second, .val (.ref a5), .val (.int (Int32.ofNat f)), .val (.int (Int32.ofNat tt)), .val (.int (Int32.ofNat i))] [])) t_ → Steps p.tables e below (T0.setTop (mkF m 4 #[.val (.ref a1), .val (.double d1), .second, .val (.ref a2), .val (.double d2), .second, .val (.ref a3), .val (.double d3), .second, .val (.ref a4), .val (.double d4), .second, .val (.ref a5), .val (.int (Int32.ofNat f)), .val (.int (Int32.ofNat tt)), .val (.int (Int32.ofNat i))] [])) t_ := fun _ k => k
  have hok := hall i hi4
  obtain ⟨cl101, Ar101, Q101, S101, M101, H101, G101⟩ := id P_V_a1
  have in102 : ¬ ((Int32.ofNat i) < 0 ∨ cl101.slots.size ≤ ((Int32.ofNat i)).toNatClampNeg) := inb_of S101 ⟨nn32 (by omega), lt32 (n := 4) (by omega) (by decide)⟩
  have at103 : cl101.slots[((Int32.ofNat i)).toNatClampNeg]? = some (.double (dv i)) := by rw [n32 (by omega), H101 i (by rw [S101]; exact hi4), own_dat _ hi4, own_here]
  obtain ⟨cl104, Ar104, Q104, S104, M104, H104, G104⟩ := id P_V_a2
  have in105 : ¬ ((Int32.ofNat i) < 0 ∨ cl104.slots.size ≤ ((Int32.ofNat i)).toNatClampNeg) := inb_of S104 ⟨nn32 (by omega), lt32 (n := 4) (by omega) (by decide)⟩
  have at106 : cl104.slots[((Int32.ofNat i)).toNatClampNeg]? = some (.double (s0 i)) := by rw [n32 (by omega), H104 i (by rw [S104]; exact hi4), own_dat _ hi4]
  obtain ⟨cl107, Ar107, Q107, S107, M107, H107, G107⟩ := id P_V_a3
  have in108 : ¬ ((Int32.ofNat i) < 0 ∨ cl107.slots.size ≤ ((Int32.ofNat i)).toNatClampNeg) := inb_of S107 ⟨nn32 (by omega), lt32 (n := 4) (by omega) (by decide)⟩
  have at109 : cl107.slots[((Int32.ofNat i)).toNatClampNeg]? = some (.double (s1 i)) := by rw [n32 (by omega), H107 i (by rw [S107]; exact hi4), own_dat _ hi4]
  obtain ⟨cl110, Ar110, Q110, S110, M110, H110, G110⟩ := id P_V_a4
  have in111 : ¬ ((Int32.ofNat i) < 0 ∨ cl110.slots.size ≤ ((Int32.ofNat i)).toNatClampNeg) := inb_of S110 ⟨nn32 (by omega), lt32 (n := 4) (by omega) (by decide)⟩
  have at112 : cl110.slots[((Int32.ofNat i)).toNatClampNeg]? = some (.double (s2 i)) := by rw [n32 (by omega), H110 i (by rw [S110]; exact hi4), own_dat _ hi4]
  obtain ⟨cl113, Ar113, Q113, S113, M113, H113, G113⟩ := id P_V_a5
  have in114 : ¬ ((Int32.ofNat i) < 0 ∨ cl113.slots.size ≤ ((Int32.ofNat i)).toNatClampNeg) := inb_of S113 ⟨nn32 (by omega), lt32 (n := 4) (by omega) (by decide)⟩
  have at115 : cl113.slots[((Int32.ofNat i)).toNatClampNeg]? = some (.double (s3 i)) := by rw [n32 (by omega), H113 i (by rw [S113]; exact hi4), own_dat _ hi4]
  obtain ⟨cl116, Ar116, Q116, S116, M116, H116, G116⟩ := id P_V_a1
  have in117 : ¬ ((Int32.ofNat i) < 0 ∨ cl116.slots.size ≤ ((Int32.ofNat i)).toNatClampNeg) := inb_of S116 ⟨nn32 (by omega), lt32 (n := 4) (by omega) (by decide)⟩
  obtain ⟨T118, h118, X118, e118, W118, st118⟩ := stD X0 hx hZ e0 Ar116 (j := (Int32.ofNat i)) in117 (g := (mkF m 50 #[.val (.ref a1), .val (.double d1), .second, .val (.ref a2), .val (.double d2), .second, .val (.ref a3), .val (.double d3), .second, .val (.ref a4), .val (.double d4), .second, .val (.ref a5), .val (.int (Int32.ofNat f)), .val (.int (Int32.ofNat tt)), .val (.int (Int32.ofNat i))] [(.double (FP.dadd (dv i) (FP.dadd (FP.dadd (FP.dadd (FP.dmul d1 (s0 i)) (FP.dmul d2 (s1 i))) (FP.dmul d3 (s2 i))) (FP.dmul d4 (s3 i))))), (.int (Int32.ofNat i)), (.ref a1)])) rfl rfl (hb hby d3_50)
  have z119 : n0 ≤ h118.size := Nat.le_trans Z0 (Keep.of_wr W118).1
  have k120 : Keep h0 h118 [a1] := (Keep.refl h0 [a1]).wr W118 (Or.inl (List.mem_of_getElem? (i := 0) rfl))
  have V118 : Arv Z h118 a1 k1 .double (4 : Int32) (own_dv (own_cur dv s0 s1 s2 s3 d1 d2 d3 d4 f (i + 1))) (.double (0 : UInt64)) := own_step dv s0 s1 s2 s3 d1 d2 d3 d4 f i hfi ▸ Arv.set Ar116 Q116 S116 M116 H116 G116 rfl W118 i (n32 (by omega)) (by rw [own_dlen]; exact hi4)
  have N118 : Fr n0 _ := Fr.snoc X118 N0 P_G_a1
  have pre121 : ∀ t_, Steps p.tables e below (T118.setTop (mkF m 4 #[.val (.ref a1), .val (.double d1), .second, .val (.ref a2), .val (.double d2), .second, .val (.ref a3), .val (.double d3), .second, .val (.ref a4), .val (.double d4), .second, .val (.ref a5), .val (.int (Int32.ofNat f)), .val (.int (Int32.ofNat tt)), .val (.int (Int32.ofNat (i + 1)))] [])) t_ → Steps p.tables e below (T0.setTop (mkF m 4 #[.val (.ref a1), .val (.double d1), .second, .val (.ref a2), .val (.double d2), .second, .val (.ref a3), .val (.double d3), .second, .val (.ref a4), .val (.double d4), .second, .val (.ref a5), .val (.int (Int32.ofNat f)), .val (.int (Int32.ofNat tt)), .val (.int (Int32.ofNat i))] [])) t_ := fun t_ kt => pre0 t_ (by
      show Steps p.tables e below (T0.setTop (mkF m 4 #[.val (.ref a1), .val (.double d1), .second, .val (.ref a2), .val (.double d2), .second, .val (.ref a3), .val (.double d3), .second, .val (.ref a4), .val (.double d4), .second, .val (.ref a5), .val (.int (Int32.ofNat f)), .val (.int (Int32.ofNat tt)), .val (.int (Int32.ofNat i))] [])) _
      refine XS.iload X0.here hx rfl (hb hby d3_4) rfl ?_
      show Steps p.tables e below (T0.setTop (mkF m 6 #[.val (.ref a1), .val (.double d1), .second, .val (.ref a2), .val (.double d2), .second, .val (.ref a3), .val (.double d3), .second, .val (.ref a4), .val (.double d4), .second, .val (.ref a5), .val (.int (Int32.ofNat f)), .val (.int (Int32.ofNat tt)), .val (.int (Int32.ofNat i))] [(.int (Int32.ofNat i))])) _
      refine XS.iload X0.here hx rfl (hb hby d3_6) rfl ?_
      show Steps p.tables e below (T0.setTop (mkF m 8 #[.val (.ref a1), .val (.double d1), .second, .val (.ref a2), .val (.double d2), .second, .val (.ref a3), .val (.double d3), .second, .val (.ref a4), .val (.double d4), .second, .val (.ref a5), .val (.int (Int32.ofNat f)), .val (.int (Int32.ofNat tt)), .val (.int (Int32.ofNat i))] [(.int (Int32.ofNat tt)), (.int (Int32.ofNat i))])) _
      refine XS.icmpNo X0.here hx rfl (hb hby d3_8) rfl (tlt (lt32 hit (by omega) : (Int32.ofNat i) < (Int32.ofNat tt))).2.1 ?_
      show Steps p.tables e below (T0.setTop (mkF m 11 #[.val (.ref a1), .val (.double d1), .second, .val (.ref a2), .val (.double d2), .second, .val (.ref a3), .val (.double d3), .second, .val (.ref a4), .val (.double d4), .second, .val (.ref a5), .val (.int (Int32.ofNat f)), .val (.int (Int32.ofNat tt)), .val (.int (Int32.ofNat i))] [])) _
      refine XS.aloadN X0.here hx rfl (hb hby d3_11) rfl rfl ?_
      show Steps p.tables e below (T0.setTop (mkF m 12 #[.val (.ref a1), .val (.double d1), .second, .val (.ref a2), .val (.double d2), .second, .val (.ref a3), .val (.double d3), .second, .val (.ref a4), .val (.double d4), .second, .val (.ref a5), .val (.int (Int32.ofNat f)), .val (.int (Int32.ofNat tt)), .val (.int (Int32.ofNat i))] [(.ref a1)])) _
      refine XS.iload X0.here hx rfl (hb hby d3_12) rfl ?_
      show Steps p.tables e below (T0.setTop (mkF m 14 #[.val (.ref a1), .val (.double d1), .second, .val (.ref a2), .val (.double d2), .second, .val (.ref a3), .val (.double d3), .second, .val (.ref a4), .val (.double d4), .second, .val (.ref a5), .val (.int (Int32.ofNat f)), .val (.int (Int32.ofNat tt)), .val (.int (Int32.ofNat i))] [(.int (Int32.ofNat i)), (.ref a1)])) _
      jvm_step X0.here [X0.here.top, hx, (hb hby d3_14), Value.category]
      show Steps p.tables e below (T0.setTop (mkF m 15 #[.val (.ref a1), .val (.double d1), .second, .val (.ref a2), .val (.double d2), .second, .val (.ref a3), .val (.double d3), .second, .val (.ref a4), .val (.double d4), .second, .val (.ref a5), .val (.int (Int32.ofNat f)), .val (.int (Int32.ofNat tt)), .val (.int (Int32.ofNat i))] [(.int (Int32.ofNat i)), (.ref a1), (.int (Int32.ofNat i)), (.ref a1)])) _
      refine X0.daload hx (j := (Int32.ofNat i)) (v := (.double (dv i))) (by rw [e0]; exact Ar101.1) (State.isArrayOf_alike hZ.alike Ar101.2.1) Ar101.2.2 in102 at103 (g := (mkF m 15 #[.val (.ref a1), .val (.double d1), .second, .val (.ref a2), .val (.double d2), .second, .val (.ref a3), .val (.double d3), .second, .val (.ref a4), .val (.double d4), .second, .val (.ref a5), .val (.int (Int32.ofNat f)), .val (.int (Int32.ofNat tt)), .val (.int (Int32.ofNat i))] [(.int (Int32.ofNat i)), (.ref a1), (.int (Int32.ofNat i)), (.ref a1)])) rfl rfl (hb hby d3_15) _ ?_
      show Steps p.tables e below (T0.setTop (mkF m 16 #[.val (.ref a1), .val (.double d1), .second, .val (.ref a2), .val (.double d2), .second, .val (.ref a3), .val (.double d3), .second, .val (.ref a4), .val (.double d4), .second, .val (.ref a5), .val (.int (Int32.ofNat f)), .val (.int (Int32.ofNat tt)), .val (.int (Int32.ofNat i))] [(.double (dv i)), (.int (Int32.ofNat i)), (.ref a1)])) _
      refine XS.dloadN X0.here hx rfl (hb hby d3_16) rfl ?_
      show Steps p.tables e below (T0.setTop (mkF m 17 #[.val (.ref a1), .val (.double d1), .second, .val (.ref a2), .val (.double d2), .second, .val (.ref a3), .val (.double d3), .second, .val (.ref a4), .val (.double d4), .second, .val (.ref a5), .val (.int (Int32.ofNat f)), .val (.int (Int32.ofNat tt)), .val (.int (Int32.ofNat i))] [(.double d1), (.double (dv i)), (.int (Int32.ofNat i)), (.ref a1)])) _
      refine XS.aloadN X0.here hx rfl (hb hby d3_17) rfl rfl ?_
      show Steps p.tables e below (T0.setTop (mkF m 18 #[.val (.ref a1), .val (.double d1), .second, .val (.ref a2), .val (.double d2), .second, .val (.ref a3), .val (.double d3), .second, .val (.ref a4), .val (.double d4), .second, .val (.ref a5), .val (.int (Int32.ofNat f)), .val (.int (Int32.ofNat tt)), .val (.int (Int32.ofNat i))] [(.ref a2), (.double d1), (.double (dv i)), (.int (Int32.ofNat i)), (.ref a1)])) _
      refine XS.iload X0.here hx rfl (hb hby d3_18) rfl ?_
      show Steps p.tables e below (T0.setTop (mkF m 20 #[.val (.ref a1), .val (.double d1), .second, .val (.ref a2), .val (.double d2), .second, .val (.ref a3), .val (.double d3), .second, .val (.ref a4), .val (.double d4), .second, .val (.ref a5), .val (.int (Int32.ofNat f)), .val (.int (Int32.ofNat tt)), .val (.int (Int32.ofNat i))] [(.int (Int32.ofNat i)), (.ref a2), (.double d1), (.double (dv i)), (.int (Int32.ofNat i)), (.ref a1)])) _
      refine X0.daload hx (j := (Int32.ofNat i)) (v := (.double (s0 i))) (by rw [e0]; exact Ar104.1) (State.isArrayOf_alike hZ.alike Ar104.2.1) Ar104.2.2 in105 at106 (g := (mkF m 20 #[.val (.ref a1), .val (.double d1), .second, .val (.ref a2), .val (.double d2), .second, .val (.ref a3), .val (.double d3), .second, .val (.ref a4), .val (.double d4), .second, .val (.ref a5), .val (.int (Int32.ofNat f)), .val (.int (Int32.ofNat tt)), .val (.int (Int32.ofNat i))] [(.int (Int32.ofNat i)), (.ref a2), (.double d1), (.double (dv i)), (.int (Int32.ofNat i)), (.ref a1)])) rfl rfl (hb hby d3_20) _ ?_
      show Steps p.tables e below (T0.setTop (mkF m 21 #[.val (.ref a1), .val (.double d1), .second, .val (.ref a2), .val (.double d2), .second, .val (.ref a3), .val (.double d3), .second, .val (.ref a4), .val (.double d4), .second, .val (.ref a5), .val (.int (Int32.ofNat f)), .val (.int (Int32.ofNat tt)), .val (.int (Int32.ofNat i))] [(.double (s0 i)), (.double d1), (.double (dv i)), (.int (Int32.ofNat i)), (.ref a1)])) _
      refine XS.dmulS X0.here hx rfl (hb hby d3_21) rfl hok.1 (v := (FP.dmul d1 (s0 i))) rfl ?_
      show Steps p.tables e below (T0.setTop (mkF m 22 #[.val (.ref a1), .val (.double d1), .second, .val (.ref a2), .val (.double d2), .second, .val (.ref a3), .val (.double d3), .second, .val (.ref a4), .val (.double d4), .second, .val (.ref a5), .val (.int (Int32.ofNat f)), .val (.int (Int32.ofNat tt)), .val (.int (Int32.ofNat i))] [(.double (FP.dmul d1 (s0 i))), (.double (dv i)), (.int (Int32.ofNat i)), (.ref a1)])) _
      refine XS.dload X0.here hx rfl (hb hby d3_22) rfl ?_
      show Steps p.tables e below (T0.setTop (mkF m 24 #[.val (.ref a1), .val (.double d1), .second, .val (.ref a2), .val (.double d2), .second, .val (.ref a3), .val (.double d3), .second, .val (.ref a4), .val (.double d4), .second, .val (.ref a5), .val (.int (Int32.ofNat f)), .val (.int (Int32.ofNat tt)), .val (.int (Int32.ofNat i))] [(.double d2), (.double (FP.dmul d1 (s0 i))), (.double (dv i)), (.int (Int32.ofNat i)), (.ref a1)])) _
      refine XS.aload X0.here hx rfl (hb hby d3_24) rfl rfl ?_
      show Steps p.tables e below (T0.setTop (mkF m 26 #[.val (.ref a1), .val (.double d1), .second, .val (.ref a2), .val (.double d2), .second, .val (.ref a3), .val (.double d3), .second, .val (.ref a4), .val (.double d4), .second, .val (.ref a5), .val (.int (Int32.ofNat f)), .val (.int (Int32.ofNat tt)), .val (.int (Int32.ofNat i))] [(.ref a3), (.double d2), (.double (FP.dmul d1 (s0 i))), (.double (dv i)), (.int (Int32.ofNat i)), (.ref a1)])) _
      refine XS.iload X0.here hx rfl (hb hby d3_26) rfl ?_
      show Steps p.tables e below (T0.setTop (mkF m 28 #[.val (.ref a1), .val (.double d1), .second, .val (.ref a2), .val (.double d2), .second, .val (.ref a3), .val (.double d3), .second, .val (.ref a4), .val (.double d4), .second, .val (.ref a5), .val (.int (Int32.ofNat f)), .val (.int (Int32.ofNat tt)), .val (.int (Int32.ofNat i))] [(.int (Int32.ofNat i)), (.ref a3), (.double d2), (.double (FP.dmul d1 (s0 i))), (.double (dv i)), (.int (Int32.ofNat i)), (.ref a1)])) _
      refine X0.daload hx (j := (Int32.ofNat i)) (v := (.double (s1 i))) (by rw [e0]; exact Ar107.1) (State.isArrayOf_alike hZ.alike Ar107.2.1) Ar107.2.2 in108 at109 (g := (mkF m 28 #[.val (.ref a1), .val (.double d1), .second, .val (.ref a2), .val (.double d2), .second, .val (.ref a3), .val (.double d3), .second, .val (.ref a4), .val (.double d4), .second, .val (.ref a5), .val (.int (Int32.ofNat f)), .val (.int (Int32.ofNat tt)), .val (.int (Int32.ofNat i))] [(.int (Int32.ofNat i)), (.ref a3), (.double d2), (.double (FP.dmul d1 (s0 i))), (.double (dv i)), (.int (Int32.ofNat i)), (.ref a1)])) rfl rfl (hb hby d3_28) _ ?_
      show Steps p.tables e below (T0.setTop (mkF m 29 #[.val (.ref a1), .val (.double d1), .second, .val (.ref a2), .val (.double d2), .second, .val (.ref a3), .val (.double d3), .second, .val (.ref a4), .val (.double d4), .second, .val (.ref a5), .val (.int (Int32.ofNat f)), .val (.int (Int32.ofNat tt)), .val (.int (Int32.ofNat i))] [(.double (s1 i)), (.double d2), (.double (FP.dmul d1 (s0 i))), (.double (dv i)), (.int (Int32.ofNat i)), (.ref a1)])) _
      refine XS.dmulS X0.here hx rfl (hb hby d3_29) rfl hok.2.1 (v := (FP.dmul d2 (s1 i))) rfl ?_
      show Steps p.tables e below (T0.setTop (mkF m 30 #[.val (.ref a1), .val (.double d1), .second, .val (.ref a2), .val (.double d2), .second, .val (.ref a3), .val (.double d3), .second, .val (.ref a4), .val (.double d4), .second, .val (.ref a5), .val (.int (Int32.ofNat f)), .val (.int (Int32.ofNat tt)), .val (.int (Int32.ofNat i))] [(.double (FP.dmul d2 (s1 i))), (.double (FP.dmul d1 (s0 i))), (.double (dv i)), (.int (Int32.ofNat i)), (.ref a1)])) _
      refine XS.daddS X0.here hx rfl (hb hby d3_30) rfl hok.2.2.2.2.1 (v := (FP.dadd (FP.dmul d1 (s0 i)) (FP.dmul d2 (s1 i)))) rfl ?_
      show Steps p.tables e below (T0.setTop (mkF m 31 #[.val (.ref a1), .val (.double d1), .second, .val (.ref a2), .val (.double d2), .second, .val (.ref a3), .val (.double d3), .second, .val (.ref a4), .val (.double d4), .second, .val (.ref a5), .val (.int (Int32.ofNat f)), .val (.int (Int32.ofNat tt)), .val (.int (Int32.ofNat i))] [(.double (FP.dadd (FP.dmul d1 (s0 i)) (FP.dmul d2 (s1 i)))), (.double (dv i)), (.int (Int32.ofNat i)), (.ref a1)])) _
      refine XS.dload X0.here hx rfl (hb hby d3_31) rfl ?_
      show Steps p.tables e below (T0.setTop (mkF m 33 #[.val (.ref a1), .val (.double d1), .second, .val (.ref a2), .val (.double d2), .second, .val (.ref a3), .val (.double d3), .second, .val (.ref a4), .val (.double d4), .second, .val (.ref a5), .val (.int (Int32.ofNat f)), .val (.int (Int32.ofNat tt)), .val (.int (Int32.ofNat i))] [(.double d3), (.double (FP.dadd (FP.dmul d1 (s0 i)) (FP.dmul d2 (s1 i)))), (.double (dv i)), (.int (Int32.ofNat i)), (.ref a1)])) _
      refine XS.aload X0.here hx rfl (hb hby d3_33) rfl rfl ?_
      show Steps p.tables e below (T0.setTop (mkF m 35 #[.val (.ref a1), .val (.double d1), .second, .val (.ref a2), .val (.double d2), .second, .val (.ref a3), .val (.double d3), .second, .val (.ref a4), .val (.double d4), .second, .val (.ref a5), .val (.int (Int32.ofNat f)), .val (.int (Int32.ofNat tt)), .val (.int (Int32.ofNat i))] [(.ref a4), (.double d3), (.double (FP.dadd (FP.dmul d1 (s0 i)) (FP.dmul d2 (s1 i)))), (.double (dv i)), (.int (Int32.ofNat i)), (.ref a1)])) _
      refine XS.iload X0.here hx rfl (hb hby d3_35) rfl ?_
      show Steps p.tables e below (T0.setTop (mkF m 37 #[.val (.ref a1), .val (.double d1), .second, .val (.ref a2), .val (.double d2), .second, .val (.ref a3), .val (.double d3), .second, .val (.ref a4), .val (.double d4), .second, .val (.ref a5), .val (.int (Int32.ofNat f)), .val (.int (Int32.ofNat tt)), .val (.int (Int32.ofNat i))] [(.int (Int32.ofNat i)), (.ref a4), (.double d3), (.double (FP.dadd (FP.dmul d1 (s0 i)) (FP.dmul d2 (s1 i)))), (.double (dv i)), (.int (Int32.ofNat i)), (.ref a1)])) _
      refine X0.daload hx (j := (Int32.ofNat i)) (v := (.double (s2 i))) (by rw [e0]; exact Ar110.1) (State.isArrayOf_alike hZ.alike Ar110.2.1) Ar110.2.2 in111 at112 (g := (mkF m 37 #[.val (.ref a1), .val (.double d1), .second, .val (.ref a2), .val (.double d2), .second, .val (.ref a3), .val (.double d3), .second, .val (.ref a4), .val (.double d4), .second, .val (.ref a5), .val (.int (Int32.ofNat f)), .val (.int (Int32.ofNat tt)), .val (.int (Int32.ofNat i))] [(.int (Int32.ofNat i)), (.ref a4), (.double d3), (.double (FP.dadd (FP.dmul d1 (s0 i)) (FP.dmul d2 (s1 i)))), (.double (dv i)), (.int (Int32.ofNat i)), (.ref a1)])) rfl rfl (hb hby d3_37) _ ?_
      show Steps p.tables e below (T0.setTop (mkF m 38 #[.val (.ref a1), .val (.double d1), .second, .val (.ref a2), .val (.double d2), .second, .val (.ref a3), .val (.double d3), .second, .val (.ref a4), .val (.double d4), .second, .val (.ref a5), .val (.int (Int32.ofNat f)), .val (.int (Int32.ofNat tt)), .val (.int (Int32.ofNat i))] [(.double (s2 i)), (.double d3), (.double (FP.dadd (FP.dmul d1 (s0 i)) (FP.dmul d2 (s1 i)))), (.double (dv i)), (.int (Int32.ofNat i)), (.ref a1)])) _
      refine XS.dmulS X0.here hx rfl (hb hby d3_38) rfl hok.2.2.1 (v := (FP.dmul d3 (s2 i))) rfl ?_
      show Steps p.tables e below (T0.setTop (mkF m 39 #[.val (.ref a1), .val (.double d1), .second, .val (.ref a2), .val (.double d2), .second, .val (.ref a3), .val (.double d3), .second, .val (.ref a4), .val (.double d4), .second, .val (.ref a5), .val (.int (Int32.ofNat f)), .val (.int (Int32.ofNat tt)), .val (.int (Int32.ofNat i))] [(.double (FP.dmul d3 (s2 i))), (.double (FP.dadd (FP.dmul d1 (s0 i)) (FP.dmul d2 (s1 i)))), (.double (dv i)), (.int (Int32.ofNat i)), (.ref a1)])) _
      refine XS.daddS X0.here hx rfl (hb hby d3_39) rfl hok.2.2.2.2.2.1 (v := (FP.dadd (FP.dadd (FP.dmul d1 (s0 i)) (FP.dmul d2 (s1 i))) (FP.dmul d3 (s2 i)))) rfl ?_
      show Steps p.tables e below (T0.setTop (mkF m 40 #[.val (.ref a1), .val (.double d1), .second, .val (.ref a2), .val (.double d2), .second, .val (.ref a3), .val (.double d3), .second, .val (.ref a4), .val (.double d4), .second, .val (.ref a5), .val (.int (Int32.ofNat f)), .val (.int (Int32.ofNat tt)), .val (.int (Int32.ofNat i))] [(.double (FP.dadd (FP.dadd (FP.dmul d1 (s0 i)) (FP.dmul d2 (s1 i))) (FP.dmul d3 (s2 i)))), (.double (dv i)), (.int (Int32.ofNat i)), (.ref a1)])) _
      refine XS.dload X0.here hx rfl (hb hby d3_40) rfl ?_
      show Steps p.tables e below (T0.setTop (mkF m 42 #[.val (.ref a1), .val (.double d1), .second, .val (.ref a2), .val (.double d2), .second, .val (.ref a3), .val (.double d3), .second, .val (.ref a4), .val (.double d4), .second, .val (.ref a5), .val (.int (Int32.ofNat f)), .val (.int (Int32.ofNat tt)), .val (.int (Int32.ofNat i))] [(.double d4), (.double (FP.dadd (FP.dadd (FP.dmul d1 (s0 i)) (FP.dmul d2 (s1 i))) (FP.dmul d3 (s2 i)))), (.double (dv i)), (.int (Int32.ofNat i)), (.ref a1)])) _
      refine XS.aload X0.here hx rfl (hb hby d3_42) rfl rfl ?_
      show Steps p.tables e below (T0.setTop (mkF m 44 #[.val (.ref a1), .val (.double d1), .second, .val (.ref a2), .val (.double d2), .second, .val (.ref a3), .val (.double d3), .second, .val (.ref a4), .val (.double d4), .second, .val (.ref a5), .val (.int (Int32.ofNat f)), .val (.int (Int32.ofNat tt)), .val (.int (Int32.ofNat i))] [(.ref a5), (.double d4), (.double (FP.dadd (FP.dadd (FP.dmul d1 (s0 i)) (FP.dmul d2 (s1 i))) (FP.dmul d3 (s2 i)))), (.double (dv i)), (.int (Int32.ofNat i)), (.ref a1)])) _
      refine XS.iload X0.here hx rfl (hb hby d3_44) rfl ?_
      show Steps p.tables e below (T0.setTop (mkF m 46 #[.val (.ref a1), .val (.double d1), .second, .val (.ref a2), .val (.double d2), .second, .val (.ref a3), .val (.double d3), .second, .val (.ref a4), .val (.double d4), .second, .val (.ref a5), .val (.int (Int32.ofNat f)), .val (.int (Int32.ofNat tt)), .val (.int (Int32.ofNat i))] [(.int (Int32.ofNat i)), (.ref a5), (.double d4), (.double (FP.dadd (FP.dadd (FP.dmul d1 (s0 i)) (FP.dmul d2 (s1 i))) (FP.dmul d3 (s2 i)))), (.double (dv i)), (.int (Int32.ofNat i)), (.ref a1)])) _
      refine X0.daload hx (j := (Int32.ofNat i)) (v := (.double (s3 i))) (by rw [e0]; exact Ar113.1) (State.isArrayOf_alike hZ.alike Ar113.2.1) Ar113.2.2 in114 at115 (g := (mkF m 46 #[.val (.ref a1), .val (.double d1), .second, .val (.ref a2), .val (.double d2), .second, .val (.ref a3), .val (.double d3), .second, .val (.ref a4), .val (.double d4), .second, .val (.ref a5), .val (.int (Int32.ofNat f)), .val (.int (Int32.ofNat tt)), .val (.int (Int32.ofNat i))] [(.int (Int32.ofNat i)), (.ref a5), (.double d4), (.double (FP.dadd (FP.dadd (FP.dmul d1 (s0 i)) (FP.dmul d2 (s1 i))) (FP.dmul d3 (s2 i)))), (.double (dv i)), (.int (Int32.ofNat i)), (.ref a1)])) rfl rfl (hb hby d3_46) _ ?_
      show Steps p.tables e below (T0.setTop (mkF m 47 #[.val (.ref a1), .val (.double d1), .second, .val (.ref a2), .val (.double d2), .second, .val (.ref a3), .val (.double d3), .second, .val (.ref a4), .val (.double d4), .second, .val (.ref a5), .val (.int (Int32.ofNat f)), .val (.int (Int32.ofNat tt)), .val (.int (Int32.ofNat i))] [(.double (s3 i)), (.double d4), (.double (FP.dadd (FP.dadd (FP.dmul d1 (s0 i)) (FP.dmul d2 (s1 i))) (FP.dmul d3 (s2 i)))), (.double (dv i)), (.int (Int32.ofNat i)), (.ref a1)])) _
      refine XS.dmulS X0.here hx rfl (hb hby d3_47) rfl hok.2.2.2.1 (v := (FP.dmul d4 (s3 i))) rfl ?_
      show Steps p.tables e below (T0.setTop (mkF m 48 #[.val (.ref a1), .val (.double d1), .second, .val (.ref a2), .val (.double d2), .second, .val (.ref a3), .val (.double d3), .second, .val (.ref a4), .val (.double d4), .second, .val (.ref a5), .val (.int (Int32.ofNat f)), .val (.int (Int32.ofNat tt)), .val (.int (Int32.ofNat i))] [(.double (FP.dmul d4 (s3 i))), (.double (FP.dadd (FP.dadd (FP.dmul d1 (s0 i)) (FP.dmul d2 (s1 i))) (FP.dmul d3 (s2 i)))), (.double (dv i)), (.int (Int32.ofNat i)), (.ref a1)])) _
      refine XS.daddS X0.here hx rfl (hb hby d3_48) rfl hok.2.2.2.2.2.2.1 (v := (FP.dadd (FP.dadd (FP.dadd (FP.dmul d1 (s0 i)) (FP.dmul d2 (s1 i))) (FP.dmul d3 (s2 i))) (FP.dmul d4 (s3 i)))) rfl ?_
      show Steps p.tables e below (T0.setTop (mkF m 49 #[.val (.ref a1), .val (.double d1), .second, .val (.ref a2), .val (.double d2), .second, .val (.ref a3), .val (.double d3), .second, .val (.ref a4), .val (.double d4), .second, .val (.ref a5), .val (.int (Int32.ofNat f)), .val (.int (Int32.ofNat tt)), .val (.int (Int32.ofNat i))] [(.double (FP.dadd (FP.dadd (FP.dadd (FP.dmul d1 (s0 i)) (FP.dmul d2 (s1 i))) (FP.dmul d3 (s2 i))) (FP.dmul d4 (s3 i)))), (.double (dv i)), (.int (Int32.ofNat i)), (.ref a1)])) _
      refine XS.daddS X0.here hx rfl (hb hby d3_49) rfl hok.2.2.2.2.2.2.2 (v := (FP.dadd (dv i) (FP.dadd (FP.dadd (FP.dadd (FP.dmul d1 (s0 i)) (FP.dmul d2 (s1 i))) (FP.dmul d3 (s2 i))) (FP.dmul d4 (s3 i))))) rfl ?_
      show Steps p.tables e below (T0.setTop (mkF m 50 #[.val (.ref a1), .val (.double d1), .second, .val (.ref a2), .val (.double d2), .second, .val (.ref a3), .val (.double d3), .second, .val (.ref a4), .val (.double d4), .second, .val (.ref a5), .val (.int (Int32.ofNat f)), .val (.int (Int32.ofNat tt)), .val (.int (Int32.ofNat i))] [(.double (FP.dadd (dv i) (FP.dadd (FP.dadd (FP.dadd (FP.dmul d1 (s0 i)) (FP.dmul d2 (s1 i))) (FP.dmul d3 (s2 i))) (FP.dmul d4 (s3 i))))), (.int (Int32.ofNat i)), (.ref a1)])) _
      refine st118 _ ?_
      show Steps p.tables e below (T118.setTop (mkF m 51 #[.val (.ref a1), .val (.double d1), .second, .val (.ref a2), .val (.double d2), .second, .val (.ref a3), .val (.double d3), .second, .val (.ref a4), .val (.double d4), .second, .val (.ref a5), .val (.int (Int32.ofNat f)), .val (.int (Int32.ofNat tt)), .val (.int (Int32.ofNat i))] [])) _
      refine XS.iinc X118.here hx rfl (hb hby d3_51) rfl (l' := #[.val (.ref a1), .val (.double d1), .second, .val (.ref a2), .val (.double d2), .second, .val (.ref a3), .val (.double d3), .second, .val (.ref a4), .val (.double d4), .second, .val (.ref a5), .val (.int (Int32.ofNat f)), .val (.int (Int32.ofNat tt)), .val (.int ((Int32.ofNat i) + (1 : Int32)))]) rfl ?_
      show Steps p.tables e below (T118.setTop (mkF m 54 #[.val (.ref a1), .val (.double d1), .second, .val (.ref a2), .val (.double d2), .second, .val (.ref a3), .val (.double d3), .second, .val (.ref a4), .val (.double d4), .second, .val (.ref a5), .val (.int (Int32.ofNat f)), .val (.int (Int32.ofNat tt)), .val (.int ((Int32.ofNat i) + (1 : Int32)))] [])) _
      rw [one32 i]
      show Steps p.tables e below (T118.setTop (mkF m 54 #[.val (.ref a1), .val (.double d1), .second, .val (.ref a2), .val (.double d2), .second, .val (.ref a3), .val (.double d3), .second, .val (.ref a4), .val (.double d4), .second, .val (.ref a5), .val (.int (Int32.ofNat f)), .val (.int (Int32.ofNat tt)), .val (.int (Int32.ofNat (i + 1)))] [])) _
      refine XS.goto X118.here hx rfl (pc0 := 54) (pc' := 4) rfl (hb hby d3_54) (by decide) (by decide) ?_
      exact kt)
  exact ⟨T118, h118, _, X118, e118, N118, k120, V118, fun t_ kt => pre121 t_ kt⟩
set_option maxRecDepth 65536 in
theorem own_loop {p : Program} {l : Launch} {e : Env} {R : Room} {s : State} {m : MethodId} {args : Array Value} {below : List Frame} {meth : Method} {c : Code} {cells slots : Nat} {Z : State} {a0 : Array Value} {n0 : Nat} (a1 : Addr) (d1 : UInt64) (a2 : Addr) (d2 : UInt64) (a3 : Addr) (d3 : UInt64) (a4 : Addr) (d4 : UInt64) (a5 : Addr) (dv : Nat → UInt64) (s0 : Nat → UInt64) (s1 : Nat → UInt64) (s2 : Nat → UInt64) (s3 : Nat → UInt64) (k1 : ClassId) (k2 : ClassId) (k3 : ClassId) (k4 : ClassId) (k5 : ClassId) (f : Nat) (tt : Nat) (hx : p.tables.exec = Jvm.exec) (hZ : Z.Warmed39 s.vm) (hw : ∀ d ∈ tables_1, d.before a0 Z = true) (hby : c.code = prog_6_method_2_code) (hml : c.maxLocals = 16) (hown : s.vm.findClass "com/example/orthoform/kernel/LinearCombinations" = some m.cls) (hne2 : a2 ≠ a1) (hne3 : a3 ≠ a1) (hne4 : a4 ≠ a1) (hne5 : a5 ≠ a1) (g1 : n0 ≤ a1) (ht4 : tt ≤ 4) (hall : ∀ j, j < 4 → own_ok dv s0 s1 s2 s3 d1 d2 d3 d4 j) : ∀ (k i : Nat) (T0 : State) (h0 : Heap) (locs : List Loc), i + k = max f tt → f ≤ i → Stand p l e R s m args below meth c T0 locs cells slots → T0.heap = h0 → Fr n0 locs → n0 ≤ h0.size → (Arv Z h0 a1 k1 .double (4 : Int32) (own_dv (own_cur dv s0 s1 s2 s3 d1 d2 d3 d4 f i)) (.double (0 : UInt64))) → (Arv Z h0 a2 k2 .double (4 : Int32) (own_dv s0) (.double (0 : UInt64))) → (Arv Z h0 a3 k3 .double (4 : Int32) (own_dv s1) (.double (0 : UInt64))) → (Arv Z h0 a4 k4 .double (4 : Int32) (own_dv s2) (.double (0 : UInt64))) → (Arv Z h0 a5 k5 .double (4 : Int32) (own_dv s3) (.double (0 : UInt64))) → cells + 0 ≤ R.cells → slots + 0 ≤ R.slots →
    ∃ (T' : State) (h' : Heap) (locs' : List Loc), Stand p l e R s m args below meth c T' locs' cells slots ∧ T'.heap = h' ∧ Fr n0 locs' ∧ Keep h0 h' [a1] ∧ (Arv Z h' a1 k1 .double (4 : Int32) (own_dv (own_cur dv s0 s1 s2 s3 d1 d2 d3 d4 f (max f tt))) (.double (0 : UInt64))) ∧ ∀ q, Steps p.tables e below (T'.setTop (mkF m 4 #[.val (.ref a1), .val (.double d1), .second, .val (.ref a2), .val (.double d2), .second, .val (.ref a3), .val (.double d3), .second, .val (.ref a4), .val (.double d4), .second, .val (.ref a5), .val (.int (Int32.ofNat f)), .val (.int (Int32.ofNat tt)), .val (.int (Int32.ofNat (max f tt)))] [])) q → Steps p.tables e below (T0.setTop (mkF m 4 #[.val (.ref a1), .val (.double d1), .second, .val (.ref a2), .val (.double d2), .second, .val (.ref a3), .val (.double d3), .second, .val (.ref a4), .val (.double d4), .second, .val (.ref a5), .val (.int (Int32.ofNat f)), .val (.int (Int32.ofNat tt)), .val (.int (Int32.ofNat i))] [])) q := by
  intro k
  induction k with
  | zero =>
    intro i T0 h0 locs hi hfi X0 e0 N0 Z0 V V0 V1 V2 V3 hc hs
    obtain rfl : i = max f tt := by omega
    exact ⟨T0, h0, locs, X0, e0, N0, Keep.refl _ _, V, fun _ q => q⟩
  | succ k ih =>
    intro i T0 h0 locs hi hfi X0 e0 N0 Z0 V V0 V1 V2 V3 hc hs
    obtain ⟨T1, h1, L1, X1, e1, N1, K1, W1, st1⟩ := own_turn a1 d1 a2 d2 a3 d3 a4 d4 a5 dv s0 s1 s2 s3 k1 k2 k3 k4 k5 f tt i X0 hx hZ hw hby hml hown e0 N0 Z0 (Nat.zero_le _) (Nat.zero_le _) hc hs V V0 V1 V2 V3 hne2 hne3 hne4 hne5 g1 hfi (by omega) ht4 (by omega) hall
    obtain ⟨T2, h2, L2, X2, e2, N2, K2, W2, st2⟩ := ih (i + 1) T1 h1 L1 (by omega) (by omega) X1 e1 N1 (Nat.le_trans Z0 K1.1) W1 (V0.keep K1 (own_nmc hne2 own_nm0)) (V1.keep K1 (own_nmc hne3 own_nm0)) (V2.keep K1 (own_nmc hne4 own_nm0)) (V3.keep K1 (own_nmc hne5 own_nm0)) hc hs
    exact ⟨T2, h2, L2, X2, e2, N2, K1.trans K2 (own_wmc (Or.inl (List.mem_of_getElem? (i := 0) rfl)) own_wm0), W2, fun q kq => st1 q (st2 q kq)⟩
theorem own_lp {p : Program} {l : Launch} {e : Env} {R : Room} {s : State} {m : MethodId} {args : Array Value} {below : List Frame} {meth : Method} {c : Code} {cells slots : Nat} {Z : State} {a0 : Array Value} {n0 : Nat} {T0 : State} {locs : List Loc} {h0 : Heap} (a1 : Addr) (d1 : UInt64) (a2 : Addr) (d2 : UInt64) (a3 : Addr) (d3 : UInt64) (a4 : Addr) (d4 : UInt64) (a5 : Addr) (dv : Nat → UInt64) (s0 : Nat → UInt64) (s1 : Nat → UInt64) (s2 : Nat → UInt64) (s3 : Nat → UInt64) (k1 : ClassId) (k2 : ClassId) (k3 : ClassId) (k4 : ClassId) (k5 : ClassId) (f : Nat) (tt : Nat) (X0 : Stand p l e R s m args below meth c T0 locs cells slots) (hx : p.tables.exec = Jvm.exec) (hZ : Z.Warmed39 s.vm) (hw : ∀ d ∈ tables_1, d.before a0 Z = true) (hby : c.code = prog_6_method_2_code) (hml : c.maxLocals = 16) (hown : s.vm.findClass "com/example/orthoform/kernel/LinearCombinations" = some m.cls) (e0 : T0.heap = h0) (N0 : Fr n0 locs) (Z0 : n0 ≤ h0.size) (hRf : 0 ≤ R.frames) (hRl : 0 ≤ R.locals) (hRc : cells + 0 ≤ R.cells) (hRs : slots + 0 ≤ R.slots) (P_V_a1 : Arv Z h0 a1 k1 .double (4 : Int32) (own_dv dv) (.double (0 : UInt64))) (P_V_a2 : Arv Z h0 a2 k2 .double (4 : Int32) (own_dv s0) (.double (0 : UInt64))) (P_V_a3 : Arv Z h0 a3 k3 .double (4 : Int32) (own_dv s1) (.double (0 : UInt64))) (P_V_a4 : Arv Z h0 a4 k4 .double (4 : Int32) (own_dv s2) (.double (0 : UInt64))) (P_V_a5 : Arv Z h0 a5 k5 .double (4 : Int32) (own_dv s3) (.double (0 : UInt64))) (P_ne_a2_a1 : a2 ≠ a1) (P_ne_a3_a1 : a3 ≠ a1) (P_ne_a4_a1 : a4 ≠ a1) (P_ne_a5_a1 : a5 ≠ a1) (P_G_a1 : n0 ≤ a1) (ht4 : tt ≤ 4) (hall : ∀ j, j < 4 → own_ok dv s0 s1 s2 s3 d1 d2 d3 d4 j) :
    ∃ (T' : State) (h' : Heap) (locs' : List Loc), Stand p l e R s m args below meth c T' locs' cells slots ∧ T'.heap = h' ∧ Fr n0 locs' ∧ Keep h0 h' [a1] ∧ (Arv Z h' a1 k1 .double (4 : Int32) (own_dv (own_cur dv s0 s1 s2 s3 d1 d2 d3 d4 f tt)) (.double (0 : UInt64))) ∧ ∀ t_, Steps p.tables e below (T'.setTop (mkF m 4 #[.val (.ref a1), .val (.double d1), .second, .val (.ref a2), .val (.double d2), .second, .val (.ref a3), .val (.double d3), .second, .val (.ref a4), .val (.double d4), .second, .val (.ref a5), .val (.int (Int32.ofNat f)), .val (.int (Int32.ofNat tt)), .val (.int (Int32.ofNat (max f tt)))] [])) t_ → Steps p.tables e below (T0.setTop (mkF m 4 #[.val (.ref a1), .val (.double d1), .second, .val (.ref a2), .val (.double d2), .second, .val (.ref a3), .val (.double d3), .second, .val (.ref a4), .val (.double d4), .second, .val (.ref a5), .val (.int (Int32.ofNat f)), .val (.int (Int32.ofNat tt)), .val (.int (Int32.ofNat f))] [])) t_ := by
  have h := own_loop a1 d1 a2 d2 a3 d3 a4 d4 a5 dv s0 s1 s2 s3 k1 k2 k3 k4 k5 f tt hx hZ hw hby hml hown P_ne_a2_a1 P_ne_a3_a1 P_ne_a4_a1 P_ne_a5_a1 P_G_a1 ht4 hall (max f tt - f) f T0 h0 locs (by omega) (Nat.le_refl _) X0 e0 N0 Z0 (by rw [own_start]; exact P_V_a1) P_V_a2 P_V_a3 P_V_a4 P_V_a5 hRc hRs
  rw [own_end] at h
  exact h
theorem ef_3 (m : MethodId) (a1 : Addr) (d1 : UInt64) (a2 : Addr) (d2 : UInt64) (a3 : Addr) (d3 : UInt64) (a4 : Addr) (d4 : UInt64) (a5 : Addr) : entryFrame m #[(.ref a1), (.double d1), (.ref a2), (.double d2), (.ref a3), (.double d3), (.ref a4), (.double d4), (.ref a5), (.int (Int32.ofNat f)), (.int (Int32.ofNat tt))] 16 = mkF m 0 #[.val (.ref a1), .val (.double d1), .second, .val (.ref a2), .val (.double d2), .second, .val (.ref a3), .val (.double d3), .second, .val (.ref a4), .val (.double d4), .second, .val (.ref a5), .val (.int (Int32.ofNat f)), .val (.int (Int32.ofNat tt)), .unset] [] := by first | (simp [entryFrame, mkF, argsToLocals, Value.category]; done) | rfl
theorem d3_0 : decode prog_6_method_2_code 0 = .ok (.iload 13, 2) := by decide +kernel
theorem d3_2 : decode prog_6_method_2_code 2 = .ok (.istore 15, 2) := by decide +kernel
theorem d3_57 : decode prog_6_method_2_code 57 = .ok (.return_, 1) := by decide +kernel
theorem pn_com_example_orthoform_kernel_LinearCombinations : plainName "com/example/orthoform/kernel/LinearCombinations" = true := by first | (simp [plainName, overriddenIn]; done) | decide +kernel
def Q3 (Z : State) (a1 : Addr) (d1 : UInt64) (a2 : Addr) (d2 : UInt64) (a3 : Addr) (d3 : UInt64) (a4 : Addr) (d4 : UInt64) (a5 : Addr) (dv : Nat → UInt64) (s0 : Nat → UInt64) (s1 : Nat → UInt64) (s2 : Nat → UInt64) (s3 : Nat → UInt64) (k1 : ClassId) (k2 : ClassId) (k3 : ClassId) (k4 : ClassId) (k5 : ClassId) (f : Nat) (tt : Nat) (h0 : Heap) (n0 : Nat) (v : Option Value) (h : Heap) (L : List Loc) : Prop := v = none ∧ Fr n0 L ∧ Keep h0 h [a1] ∧ (Arv Z h a1 k1 .double (4 : Int32) (own_dv (own_cur dv s0 s1 s2 s3 d1 d2 d3 d4 f tt)) (.double (0 : UInt64)))
set_option maxRecDepth 65536 in
set_option maxHeartbeats 40000000 in
theorem rm3 (l : Launch) (Z : State) (a0 : Array Value) (hw : ∀ d ∈ tables_1, d.before a0 Z = true) (ws : List Jvm.Cond) (a1 : Addr) (d1 : UInt64) (a2 : Addr) (d2 : UInt64) (a3 : Addr) (d3 : UInt64) (a4 : Addr) (d4 : UInt64) (a5 : Addr) (dv : Nat → UInt64) (s0 : Nat → UInt64) (s1 : Nat → UInt64) (s2 : Nat → UInt64) (s3 : Nat → UInt64) (k1 : ClassId) (k2 : ClassId) (k3 : ClassId) (k4 : ClassId) (k5 : ClassId) (f : Nat) (tt : Nat) (h0 : Heap) (n0 : Nat) (Z0 : n0 ≤ h0.size) (P_V_a1 : Arv Z h0 a1 k1 .double (4 : Int32) (own_dv dv) (.double (0 : UInt64))) (P_V_a2 : Arv Z h0 a2 k2 .double (4 : Int32) (own_dv s0) (.double (0 : UInt64))) (P_V_a3 : Arv Z h0 a3 k3 .double (4 : Int32) (own_dv s1) (.double (0 : UInt64))) (P_V_a4 : Arv Z h0 a4 k4 .double (4 : Int32) (own_dv s2) (.double (0 : UInt64))) (P_V_a5 : Arv Z h0 a5 k5 .double (4 : Int32) (own_dv s3) (.double (0 : UInt64))) (P_ne_a2_a1 : a2 ≠ a1) (P_ne_a3_a1 : a3 ≠ a1) (P_ne_a4_a1 : a4 ≠ a1) (P_ne_a5_a1 : a5 ≠ a1) (P_G_a1 : n0 ≤ a1) (hf4 : f ≤ 4) (ht4 : tt ≤ 4) (hall : ∀ j, j < 4 → own_ok dv s0 s1 s2 s3 d1 d2 d3 d4 j) :
    MetFree l (⟨"com/example/orthoform/kernel/LinearCombinations", "addProducts", "([DD[DD[DD[DD[DII)V"⟩ : MethodName) (head1 (Jvm.Cond.code (⟨"com/example/orthoform/kernel/LinearCombinations", "addProducts", "([DD[DD[DD[DD[DII)V"⟩ : MethodName) prog_6_method_2_code 16 none :: ws) ({ frames := 0, cells := 0, slots := 0, locals := 0 } : Room)) (fun a U => a = #[(.ref a1), (.double d1), (.ref a2), (.double d2), (.ref a3), (.double d3), (.ref a4), (.double d4), (.ref a5), (.int (Int32.ofNat f)), (.int (Int32.ofNat tt))] ∧ Z.Warmed39 U.vm ∧ U.heap = h0) (fun _ _ _ _ _ => True) (fun _ U o U' => ∃ v L, o = .returned v ∧ Q3 Z a1 d1 a2 d2 a3 d3 a4 d4 a5 dv s0 s1 s2 s3 k1 k2 k3 k4 k5 f tt h0 n0 v U'.heap L ∧ FrameEnd U o U' L ({ frames := 0, cells := 0, slots := 0, locals := 0 } : Room).cells ({ frames := 0, cells := 0, slots := 0, locals := 0 } : Room).slots) := by
  refine MetFree.of_bodySF (plainFor_of_name pn_com_example_orthoform_kernel_LinearCombinations) hisR ?_
  intro p e s m args below meth c s₁ Bd hml0 hP hK
  obtain ⟨rfl, hZ, hh⟩ := hP
  have hx := Bd.exec
  have hby := Bd.bytes
  have hml : c.maxLocals = 16 := hml0
  have hown : s.vm.findClass "com/example/orthoform/kernel/LinearCombinations" = some m.cls := findClass_of_methodNamed Bd.named
  have hnm := (name_of_methodNamed Bd.named Bd.method).1
  have X0 : Stand p l e ({ frames := 0, cells := 0, slots := 0, locals := 0 } : Room) s m #[(.ref a1), (.double d1), (.ref a2), (.double d2), (.ref a3), (.double d3), (.ref a4), (.double d4), (.ref a5), (.int (Int32.ofNat f)), (.int (Int32.ofNat tt))] below meth c s₁ [] 0 0 := Stand.of_body Bd
  have e0 : s₁.heap = h0 := by rw [← hh, Bd.state]; rfl
  have N0 := Fr.nil n0
  have pre0 : ∀ t_, Steps p.tables e below (s₁.setTop (mkF m 0 #[.val (.ref a1), .val (.double d1), .second, .val (.ref a2), .val (.double d2), .second, .val (.ref a3), .val (.double d3), .second, .val (.ref a4), .val (.double d4), .second, .val (.ref a5), .val (.int (Int32.ofNat f)), .val (.int (Int32.ofNat tt)), .unset] [])) t_ → Steps p.tables e below (s₁.setTop (entryFrame m #[(.ref a1), (.double d1), (.ref a2), (.double d2), (.ref a3), (.double d3), (.ref a4), (.double d4), (.ref a5), (.int (Int32.ofNat f)), (.int (Int32.ofNat tt))] 16)) t_ := fun t_ k => castTop (ef_3 m a1 d1 a2 d2 a3 d3 a4 d4 a5) k
  obtain ⟨T101, h101, L101, X101, e101, N101, K101, x101_0, st101⟩ := own_lp (a1) (d1) (a2) (d2) (a3) (d3) (a4) (d4) (a5) (dv) (s0) (s1) (s2) (s3) (k1) (k2) (k3) (k4) (k5) (f) (tt) X0 hx hZ hw hby hml hown e0 N0 Z0 (by decide) (by decide) (by decide) (by decide) P_V_a1 P_V_a2 P_V_a3 P_V_a4 P_V_a5 P_ne_a2_a1 P_ne_a3_a1 P_ne_a4_a1 P_ne_a5_a1 P_G_a1 (ht4) (hall)
  have z102 : n0 ≤ h101.size := Nat.le_trans Z0 K101.1
  have k103 : Keep h0 h101 [a1] := (Keep.refl h0 [a1]).trans K101 (own_wmc (Or.inl (List.mem_of_getElem? (i := 0) rfl)) own_wm0)
  have pre104 : ∀ t_, Steps p.tables e below (T101.setTop (mkF m 57 #[.val (.ref a1), .val (.double d1), .second, .val (.ref a2), .val (.double d2), .second, .val (.ref a3), .val (.double d3), .second, .val (.ref a4), .val (.double d4), .second, .val (.ref a5), .val (.int (Int32.ofNat f)), .val (.int (Int32.ofNat tt)), .val (.int (Int32.ofNat (max f tt)))] [])) t_ → Steps p.tables e below (s₁.setTop (entryFrame m #[(.ref a1), (.double d1), (.ref a2), (.double d2), (.ref a3), (.double d3), (.ref a4), (.double d4), (.ref a5), (.int (Int32.ofNat f)), (.int (Int32.ofNat tt))] 16)) t_ := fun t_ kt => pre0 t_ (by
      show Steps p.tables e below (s₁.setTop (mkF m 0 #[.val (.ref a1), .val (.double d1), .second, .val (.ref a2), .val (.double d2), .second, .val (.ref a3), .val (.double d3), .second, .val (.ref a4), .val (.double d4), .second, .val (.ref a5), .val (.int (Int32.ofNat f)), .val (.int (Int32.ofNat tt)), .unset] [])) _
      refine XS.iload X0.here hx rfl (hb hby d3_0) rfl ?_
      show Steps p.tables e below (s₁.setTop (mkF m 2 #[.val (.ref a1), .val (.double d1), .second, .val (.ref a2), .val (.double d2), .second, .val (.ref a3), .val (.double d3), .second, .val (.ref a4), .val (.double d4), .second, .val (.ref a5), .val (.int (Int32.ofNat f)), .val (.int (Int32.ofNat tt)), .unset] [(.int (Int32.ofNat f))])) _
      refine XS.istore X0.here hx rfl (hb hby d3_2) rfl (l' := #[.val (.ref a1), .val (.double d1), .second, .val (.ref a2), .val (.double d2), .second, .val (.ref a3), .val (.double d3), .second, .val (.ref a4), .val (.double d4), .second, .val (.ref a5), .val (.int (Int32.ofNat f)), .val (.int (Int32.ofNat tt)), .val (.int (Int32.ofNat f))]) rfl ?_
      show Steps p.tables e below (s₁.setTop (mkF m 4 #[.val (.ref a1), .val (.double d1), .second, .val (.ref a2), .val (.double d2), .second, .val (.ref a3), .val (.double d3), .second, .val (.ref a4), .val (.double d4), .second, .val (.ref a5), .val (.int (Int32.ofNat f)), .val (.int (Int32.ofNat tt)), .val (.int (Int32.ofNat f))] [])) _
      refine st101 _ ?_
      show Steps p.tables e below (T101.setTop (mkF m 4 #[.val (.ref a1), .val (.double d1), .second, .val (.ref a2), .val (.double d2), .second, .val (.ref a3), .val (.double d3), .second, .val (.ref a4), .val (.double d4), .second, .val (.ref a5), .val (.int (Int32.ofNat f)), .val (.int (Int32.ofNat tt)), .val (.int (Int32.ofNat (max f tt)))] [])) _
      refine XS.iload X101.here hx rfl (hb hby d3_4) rfl ?_
      show Steps p.tables e below (T101.setTop (mkF m 6 #[.val (.ref a1), .val (.double d1), .second, .val (.ref a2), .val (.double d2), .second, .val (.ref a3), .val (.double d3), .second, .val (.ref a4), .val (.double d4), .second, .val (.ref a5), .val (.int (Int32.ofNat f)), .val (.int (Int32.ofNat tt)), .val (.int (Int32.ofNat (max f tt)))] [(.int (Int32.ofNat (max f tt)))])) _
      refine XS.iload X101.here hx rfl (hb hby d3_6) rfl ?_
      show Steps p.tables e below (T101.setTop (mkF m 8 #[.val (.ref a1), .val (.double d1), .second, .val (.ref a2), .val (.double d2), .second, .val (.ref a3), .val (.double d3), .second, .val (.ref a4), .val (.double d4), .second, .val (.ref a5), .val (.int (Int32.ofNat f)), .val (.int (Int32.ofNat tt)), .val (.int (Int32.ofNat (max f tt)))] [(.int (Int32.ofNat tt)), (.int (Int32.ofNat (max f tt)))])) _
      refine XS.icmpYes X101.here hx rfl (pc0 := 8) (pc' := 57) rfl (hb hby d3_8) rfl (flt (nlt32 (by omega) (by omega) : ¬ ((Int32.ofNat (max f tt)) < (Int32.ofNat tt)))).2.1 (by decide) (by decide) ?_
      exact kt)
  obtain ⟨fs, hr, hrun, hended, hW, hsame⟩ := X101.leave (v := none) (fun _ => rfl)
  refine ⟨_, _, pre104 _ ?_, hrun, hended, _, _, rfl, ?_, ⟨_, rfl⟩, hW, hsame.mono (by decide) (by decide)⟩
  · show Steps p.tables e below (T101.setTop (mkF m 57 #[.val (.ref a1), .val (.double d1), .second, .val (.ref a2), .val (.double d2), .second, .val (.ref a3), .val (.double d3), .second, .val (.ref a4), .val (.double d4), .second, .val (.ref a5), .val (.int (Int32.ofNat f)), .val (.int (Int32.ofNat tt)), .val (.int (Int32.ofNat (max f tt)))] [])) _
    exact X101.returnOut hx Bd.returns (hb hby d3_57) hr
  · show Q3 Z a1 d1 a2 d2 a3 d3 a4 d4 a5 dv s0 s1 s2 s3 k1 k2 k3 k4 k5 f tt h0 n0 _ T101.heap _
    rw [e101]
    exact ⟨rfl, N101, k103, x101_0⟩
theorem ef_ok0 (m : MethodId) (a1 : Addr) (q1 : Int64) (q2 : Int64) (q3 : Int64) (p4 : Int32) (p5 : Int32) : entryFrame m #[(.ref a1), (.int (0 : Int32)), (.long q1), (.long q2), (.long q3), (.int p4), (.int p5)] 12 = mkF m 0 #[.val (.ref a1), .val (.int (0 : Int32)), .val (.long q1), .second, .val (.long q2), .second, .val (.long q3), .second, .val (.int p4), .val (.int p5), .unset, .unset] [] := by first | (simp [entryFrame, mkF, argsToLocals, Value.category]; done) | rfl
theorem d4_0 : decode method_5_code 0 = .ok (.lload_n 2, 1) := by decide +kernel
theorem d4_1 : decode method_5_code 1 = .ok (.iload_n 1, 1) := by decide +kernel
theorem d4_2 : decode method_5_code 2 = .ok (.invokestatic 7, 3) := by decide +kernel
theorem d4_5 : decode method_5_code 5 = .ok (.lstore 10, 2) := by decide +kernel
theorem d4_7 : decode method_5_code 7 = .ok (.iload 8, 2) := by decide +kernel
theorem d4_9 : decode method_5_code 9 = .ok (.iload_n 1, 1) := by decide +kernel
theorem d4_10 : decode method_5_code 10 = .ok (.if_icmp .gt 71, 3) := by decide +kernel
theorem d4_81 : decode method_5_code 81 = .ok (.aload_n 0, 1) := by decide +kernel
theorem d4_82 : decode method_5_code 82 = .ok (.iload_n 1, 1) := by decide +kernel
theorem d4_83 : decode method_5_code 83 = .ok (.daload, 1) := by decide +kernel
theorem d4_84 : decode method_5_code 84 = .ok (.lload 10, 2) := by decide +kernel
theorem d4_86 : decode method_5_code 86 = .ok (.l2d, 1) := by decide +kernel
theorem d4_87 : decode method_5_code 87 = .ok (.dcmp .l, 1) := by decide +kernel
theorem d4_88 : decode method_5_code 88 = .ok (.ifCond .ne 7, 3) := by decide +kernel
theorem d4_91 : decode method_5_code 91 = .ok (.iconst 1, 1) := by decide +kernel
theorem d4_92 : decode method_5_code 92 = .ok (.goto 4, 3) := by decide +kernel
theorem d4_96 : decode method_5_code 96 = .ok (.ireturn, 1) := by decide +kernel
theorem d4_13 : decode method_5_code 13 = .ok (.iload_n 1, 1) := by decide +kernel
theorem d4_14 : decode method_5_code 14 = .ok (.iload 9, 2) := by decide +kernel
theorem d4_16 : decode method_5_code 16 = .ok (.if_icmp .ge 65, 3) := by decide +kernel
theorem d4_19 : decode method_5_code 19 = .ok (.lload 10, 2) := by decide +kernel
theorem d4_21 : decode method_5_code 21 = .ok (.lload_n 2, 1) := by decide +kernel
theorem d4_22 : decode method_5_code 22 = .ok (.iconst 4, 1) := by decide +kernel
theorem d4_23 : decode method_5_code 23 = .ok (.invokestatic 7, 3) := by decide +kernel
theorem d4_26 : decode method_5_code 26 = .ok (.lload 4, 2) := by decide +kernel
theorem d4_28 : decode method_5_code 28 = .ok (.iload_n 1, 1) := by decide +kernel
theorem d4_29 : decode method_5_code 29 = .ok (.invokestatic 7, 3) := by decide +kernel
theorem d4_32 : decode method_5_code 32 = .ok (.lmul, 1) := by decide +kernel
theorem d4_33 : decode method_5_code 33 = .ok (.ladd, 1) := by decide +kernel
theorem d4_34 : decode method_5_code 34 = .ok (.lload_n 2, 1) := by decide +kernel
theorem d4_35 : decode method_5_code 35 = .ok (.iconst 5, 1) := by decide +kernel
theorem d4_36 : decode method_5_code 36 = .ok (.invokestatic 7, 3) := by decide +kernel
theorem d4_39 : decode method_5_code 39 = .ok (.lload 4, 2) := by decide +kernel
theorem d4_41 : decode method_5_code 41 = .ok (.iconst 4, 1) := by decide +kernel
theorem d4_42 : decode method_5_code 42 = .ok (.iload_n 1, 1) := by decide +kernel
theorem d4_43 : decode method_5_code 43 = .ok (.iadd, 1) := by decide +kernel
theorem d4_44 : decode method_5_code 44 = .ok (.invokestatic 7, 3) := by decide +kernel
theorem d4_47 : decode method_5_code 47 = .ok (.lmul, 1) := by decide +kernel
theorem d4_48 : decode method_5_code 48 = .ok (.ladd, 1) := by decide +kernel
theorem d4_49 : decode method_5_code 49 = .ok (.lload_n 2, 1) := by decide +kernel
theorem d4_50 : decode method_5_code 50 = .ok (.bipush 6, 2) := by decide +kernel
theorem d4_52 : decode method_5_code 52 = .ok (.invokestatic 7, 3) := by decide +kernel
theorem d4_55 : decode method_5_code 55 = .ok (.lload 6, 2) := by decide +kernel
theorem d4_57 : decode method_5_code 57 = .ok (.iload_n 1, 1) := by decide +kernel
theorem d4_58 : decode method_5_code 58 = .ok (.invokestatic 7, 3) := by decide +kernel
theorem d4_61 : decode method_5_code 61 = .ok (.lmul, 1) := by decide +kernel
theorem d4_62 : decode method_5_code 62 = .ok (.ladd, 1) := by decide +kernel
theorem d4_63 : decode method_5_code 63 = .ok (.lload_n 2, 1) := by decide +kernel
theorem d4_64 : decode method_5_code 64 = .ok (.bipush 7, 2) := by decide +kernel
theorem d4_66 : decode method_5_code 66 = .ok (.invokestatic 7, 3) := by decide +kernel
theorem d4_69 : decode method_5_code 69 = .ok (.lload 6, 2) := by decide +kernel
theorem d4_71 : decode method_5_code 71 = .ok (.iconst 4, 1) := by decide +kernel
theorem d4_72 : decode method_5_code 72 = .ok (.iload_n 1, 1) := by decide +kernel
theorem d4_73 : decode method_5_code 73 = .ok (.iadd, 1) := by decide +kernel
theorem d4_74 : decode method_5_code 74 = .ok (.invokestatic 7, 3) := by decide +kernel
theorem d4_77 : decode method_5_code 77 = .ok (.lmul, 1) := by decide +kernel
theorem d4_78 : decode method_5_code 78 = .ok (.ladd, 1) := by decide +kernel
theorem d4_79 : decode method_5_code 79 = .ok (.lstore 10, 2) := by decide +kernel
def Qok0 (Z : State) (a1 : Addr) (q1 : Int64) (q2 : Int64) (q3 : Int64) (p4 : Int32) (p5 : Int32) (g : Nat → UInt64) (kk : ClassId) (h0 : Heap) (n0 : Nat) (v : Option Value) (h : Heap) (L : List Loc) : Prop := v = some (.int (1 : Int32)) ∧ Fr n0 L ∧ h = h0
set_option maxRecDepth 65536 in
set_option maxHeartbeats 40000000 in
theorem rmok0 (l : Launch) (Z : State) (a0 : Array Value) (hw : ∀ d ∈ tables_1, d.before a0 Z = true) (ws : List Jvm.Cond) (a1 : Addr) (q1 : Int64) (q2 : Int64) (q3 : Int64) (p4 : Int32) (p5 : Int32) (g : Nat → UInt64) (kk : ClassId) (h0 : Heap) (n0 : Nat) (Z0 : n0 ≤ h0.size) (P_V_a1 : Arv Z h0 a1 kk .double (4 : Int32) (own_dv g) (.double (0 : UInt64))) (hin : ¬ ((0 : Int32) < p4) → (0 : Int32) < p5 → cmpValue (FP.dcmp (g 0) (FP.l2d (own_exp (own_b q1 (0 : Int32)) (own_b q1 (4 : Int32)) (own_b q2 (0 : Int32)) (own_b q1 (5 : Int32)) (own_b q2 (4 : Int32)) (own_b q1 (6 : Int32)) (own_b q3 (0 : Int32)) (own_b q1 (7 : Int32)) (own_b q3 (4 : Int32))))) .l = (0 : Int32)) (hout : ((0 : Int32) < p4 ∨ ¬ ((0 : Int32) < p5)) → cmpValue (FP.dcmp (g 0) (FP.l2d (own_b q1 (0 : Int32)))) .l = (0 : Int32)) :
    MetFree l (⟨"com/example/orthoform/kernel/LinearCombinationsAddProductsPinLaw", "ok", "([DIJJJII)Z"⟩ : MethodName) (head1 (Jvm.Cond.code (⟨"com/example/orthoform/kernel/LinearCombinationsAddProductsPinLaw", "ok", "([DIJJJII)Z"⟩ : MethodName) method_5_code 12 (some .boolean) :: ws) ({ frames := 1, cells := 0, slots := 0, locals := 18 } : Room)) (fun a U => a = #[(.ref a1), (.int (0 : Int32)), (.long q1), (.long q2), (.long q3), (.int p4), (.int p5)] ∧ Z.Warmed39 U.vm ∧ U.heap = h0) (fun _ _ _ _ _ => True) (fun _ U o U' => ∃ v L, o = .returned v ∧ Qok0 Z a1 q1 q2 q3 p4 p5 g kk h0 n0 v U'.heap L ∧ FrameEnd U o U' L ({ frames := 1, cells := 0, slots := 0, locals := 18 } : Room).cells ({ frames := 1, cells := 0, slots := 0, locals := 18 } : Room).slots) := by
  refine MetFree.of_bodySF (plainFor_of_name pn_com_example_orthoform_kernel_LinearCombinationsAddProductsPinLaw) hisR ?_
  intro p e s m args below meth c s₁ Bd hml0 hP hK
  obtain ⟨rfl, hZ, hh⟩ := hP
  have hx := Bd.exec
  have hby := Bd.bytes
  have hml : c.maxLocals = 12 := hml0
  have hown : s.vm.findClass "com/example/orthoform/kernel/LinearCombinationsAddProductsPinLaw" = some m.cls := findClass_of_methodNamed Bd.named
  have hnm := (name_of_methodNamed Bd.named Bd.method).1
  have X0 : Stand p l e ({ frames := 1, cells := 0, slots := 0, locals := 18 } : Room) s m #[(.ref a1), (.int (0 : Int32)), (.long q1), (.long q2), (.long q3), (.int p4), (.int p5)] below meth c s₁ [] 0 0 := Stand.of_body Bd
  have e0 : s₁.heap = h0 := by rw [← hh, Bd.state]; rfl
  have N0 := Fr.nil n0
  have pre0 : ∀ t_, Steps p.tables e below (s₁.setTop (mkF m 0 #[.val (.ref a1), .val (.int (0 : Int32)), .val (.long q1), .second, .val (.long q2), .second, .val (.long q3), .second, .val (.int p4), .val (.int p5), .unset, .unset] [])) t_ → Steps p.tables e below (s₁.setTop (entryFrame m #[(.ref a1), (.int (0 : Int32)), (.long q1), (.long q2), (.long q3), (.int p4), (.int p5)] 12)) t_ := fun t_ k => castTop (ef_ok0 m a1 q1 q2 q3 p4 p5) k
  obtain ⟨_, _, ⟨T101, L101, kk101, nn101⟩, -, X101, ⟨Lc101, hQ101, l101, y101, z101⟩, st101⟩ := Jvm.LawKit.callS X0 hx (y := (⟨"com/example/orthoform/kernel/LinearCombinationsAddProductsPinLaw", "b", "(JI)J"⟩ : MethodName)) hown (mvT hZ (hw _ (List.mem_of_getElem? (i := 5) rfl))) (mvT hZ (hw _ (List.mem_of_getElem? (i := 6) rfl))) (mvT hZ (hw _ (List.mem_of_getElem? (i := 2) rfl))) (mvT hZ (hw _ (List.mem_of_getElem? (i := 7) rfl))) (by decide) (backOf (W := 0) (rm2 l Z a0 hw [] q1 (0 : Int32) h0 n0 Z0 ) hZ (hw _ (List.mem_of_getElem? (i := 7) rfl)) (hw _ (List.mem_of_getElem? (i := 2) rfl)) (by decide) (by decide)) (g := (mkF m 2 #[.val (.ref a1), .val (.int (0 : Int32)), .val (.long q1), .second, .val (.long q2), .second, .val (.long q3), .second, .val (.int p4), .val (.int p5), .unset, .unset] [(.int (0 : Int32)), (.long q1)])) rfl (by rw [hml]; rfl) (argsL := [(.long q1), (.int (0 : Int32))]) (rest := []) (lenOf pd__28JI_29J rfl) rfl (by show 2 * 0 + _ ≤ _; exact Nat.le_of_eq rfl) (hb hby d4_2) (fun _ _ => ⟨rfl, e0, (by decide : 0 + 0 ≤ _), (by decide : 0 + 0 ≤ _)⟩)
  dsimp only [Pt.U, Pt.locs, Pt.cells, Pt.slots] at X101 l101 y101 z101 st101 hQ101
  subst l101 y101 z101
  obtain ⟨rfl, N101q, e101⟩ := hQ101
  have N101 := Fr.app N0 N101q
  have pre102 : ∀ t_, Steps p.tables e below (T101.setTop (mkF m 10 #[.val (.ref a1), .val (.int (0 : Int32)), .val (.long q1), .second, .val (.long q2), .second, .val (.long q3), .second, .val (.int p4), .val (.int p5), .val (.long (own_b q1 (0 : Int32))), .second] [(.int (0 : Int32)), (.int p4)])) t_ → Steps p.tables e below (s₁.setTop (entryFrame m #[(.ref a1), (.int (0 : Int32)), (.long q1), (.long q2), (.long q3), (.int p4), (.int p5)] 12)) t_ := fun t_ kt => pre0 t_ (by
      show Steps p.tables e below (s₁.setTop (mkF m 0 #[.val (.ref a1), .val (.int (0 : Int32)), .val (.long q1), .second, .val (.long q2), .second, .val (.long q3), .second, .val (.int p4), .val (.int p5), .unset, .unset] [])) _
      refine XS.lloadN X0.here hx rfl (hb hby d4_0) rfl ?_
      show Steps p.tables e below (s₁.setTop (mkF m 1 #[.val (.ref a1), .val (.int (0 : Int32)), .val (.long q1), .second, .val (.long q2), .second, .val (.long q3), .second, .val (.int p4), .val (.int p5), .unset, .unset] [(.long q1)])) _
      refine XS.iloadN X0.here hx rfl (hb hby d4_1) rfl ?_
      show Steps p.tables e below (s₁.setTop (mkF m 2 #[.val (.ref a1), .val (.int (0 : Int32)), .val (.long q1), .second, .val (.long q2), .second, .val (.long q3), .second, .val (.int p4), .val (.int p5), .unset, .unset] [(.int (0 : Int32)), (.long q1)])) _
      refine st101 _ ?_
      show Steps p.tables e below (T101.setTop (mkF m 5 #[.val (.ref a1), .val (.int (0 : Int32)), .val (.long q1), .second, .val (.long q2), .second, .val (.long q3), .second, .val (.int p4), .val (.int p5), .unset, .unset] [(.long (own_b q1 (0 : Int32)))])) _
      refine XS.lstore X101.here hx rfl (hb hby d4_5) rfl (l' := #[.val (.ref a1), .val (.int (0 : Int32)), .val (.long q1), .second, .val (.long q2), .second, .val (.long q3), .second, .val (.int p4), .val (.int p5), .val (.long (own_b q1 (0 : Int32))), .second]) rfl ?_
      show Steps p.tables e below (T101.setTop (mkF m 7 #[.val (.ref a1), .val (.int (0 : Int32)), .val (.long q1), .second, .val (.long q2), .second, .val (.long q3), .second, .val (.int p4), .val (.int p5), .val (.long (own_b q1 (0 : Int32))), .second] [])) _
      refine XS.iload X101.here hx rfl (hb hby d4_7) rfl ?_
      show Steps p.tables e below (T101.setTop (mkF m 9 #[.val (.ref a1), .val (.int (0 : Int32)), .val (.long q1), .second, .val (.long q2), .second, .val (.long q3), .second, .val (.int p4), .val (.int p5), .val (.long (own_b q1 (0 : Int32))), .second] [(.int p4)])) _
      refine XS.iloadN X101.here hx rfl (hb hby d4_9) rfl ?_
      exact kt)
  by_cases hA : (0 : Int32) < p4
  · skip
    obtain ⟨cl103, Ar103, Q103, S103, M103, H103, G103⟩ := id P_V_a1
    have in104 : ¬ ((0 : Int32) < 0 ∨ cl103.slots.size ≤ ((0 : Int32)).toNatClampNeg) := inb_of S103 ⟨by decide, by decide⟩
    have at105 : cl103.slots[((0 : Int32)).toNatClampNeg]? = some (.double (g 0)) := H103 0 (by rw [S103]; decide)
    have pre106 : ∀ t_, Steps p.tables e below (T101.setTop (mkF m 96 #[.val (.ref a1), .val (.int (0 : Int32)), .val (.long q1), .second, .val (.long q2), .second, .val (.long q3), .second, .val (.int p4), .val (.int p5), .val (.long (own_b q1 (0 : Int32))), .second] [(.int (1 : Int32))])) t_ → Steps p.tables e below (s₁.setTop (entryFrame m #[(.ref a1), (.int (0 : Int32)), (.long q1), (.long q2), (.long q3), (.int p4), (.int p5)] 12)) t_ := fun t_ kt => pre102 t_ (by
        show Steps p.tables e below (T101.setTop (mkF m 10 #[.val (.ref a1), .val (.int (0 : Int32)), .val (.long q1), .second, .val (.long q2), .second, .val (.long q3), .second, .val (.int p4), .val (.int p5), .val (.long (own_b q1 (0 : Int32))), .second] [(.int (0 : Int32)), (.int p4)])) _
        refine XS.icmpYes X101.here hx rfl (pc0 := 10) (pc' := 81) rfl (hb hby d4_10) rfl (tlt (hA : (0 : Int32) < p4)).2.2.1 (by decide) (by decide) ?_
        show Steps p.tables e below (T101.setTop (mkF m 81 #[.val (.ref a1), .val (.int (0 : Int32)), .val (.long q1), .second, .val (.long q2), .second, .val (.long q3), .second, .val (.int p4), .val (.int p5), .val (.long (own_b q1 (0 : Int32))), .second] [])) _
        refine XS.aloadN X101.here hx rfl (hb hby d4_81) rfl rfl ?_
        show Steps p.tables e below (T101.setTop (mkF m 82 #[.val (.ref a1), .val (.int (0 : Int32)), .val (.long q1), .second, .val (.long q2), .second, .val (.long q3), .second, .val (.int p4), .val (.int p5), .val (.long (own_b q1 (0 : Int32))), .second] [(.ref a1)])) _
        refine XS.iloadN X101.here hx rfl (hb hby d4_82) rfl ?_
        show Steps p.tables e below (T101.setTop (mkF m 83 #[.val (.ref a1), .val (.int (0 : Int32)), .val (.long q1), .second, .val (.long q2), .second, .val (.long q3), .second, .val (.int p4), .val (.int p5), .val (.long (own_b q1 (0 : Int32))), .second] [(.int (0 : Int32)), (.ref a1)])) _
        refine X101.daload hx (j := (0 : Int32)) (v := (.double (g 0))) (by rw [e101]; exact Ar103.1) (State.isArrayOf_alike hZ.alike Ar103.2.1) Ar103.2.2 in104 at105 (g := (mkF m 83 #[.val (.ref a1), .val (.int (0 : Int32)), .val (.long q1), .second, .val (.long q2), .second, .val (.long q3), .second, .val (.int p4), .val (.int p5), .val (.long (own_b q1 (0 : Int32))), .second] [(.int (0 : Int32)), (.ref a1)])) rfl rfl (hb hby d4_83) _ ?_
        show Steps p.tables e below (T101.setTop (mkF m 84 #[.val (.ref a1), .val (.int (0 : Int32)), .val (.long q1), .second, .val (.long q2), .second, .val (.long q3), .second, .val (.int p4), .val (.int p5), .val (.long (own_b q1 (0 : Int32))), .second] [(.double (g 0))])) _
        refine XS.lload X101.here hx rfl (hb hby d4_84) rfl ?_
        show Steps p.tables e below (T101.setTop (mkF m 86 #[.val (.ref a1), .val (.int (0 : Int32)), .val (.long q1), .second, .val (.long q2), .second, .val (.long q3), .second, .val (.int p4), .val (.int p5), .val (.long (own_b q1 (0 : Int32))), .second] [(.long (own_b q1 (0 : Int32))), (.double (g 0))])) _
        refine XS.l2dS X101.here hx rfl (hb hby d4_86) rfl (v := (FP.l2d (own_b q1 (0 : Int32)))) rfl ?_
        show Steps p.tables e below (T101.setTop (mkF m 87 #[.val (.ref a1), .val (.int (0 : Int32)), .val (.long q1), .second, .val (.long q2), .second, .val (.long q3), .second, .val (.int p4), .val (.int p5), .val (.long (own_b q1 (0 : Int32))), .second] [(.double (FP.l2d (own_b q1 (0 : Int32)))), (.double (g 0))])) _
        refine XS.dcmpS X101.here hx rfl (hb hby d4_87) rfl (v := (0 : Int32)) (hout (Or.inl hA)) ?_
        show Steps p.tables e below (T101.setTop (mkF m 88 #[.val (.ref a1), .val (.int (0 : Int32)), .val (.long q1), .second, .val (.long q2), .second, .val (.long q3), .second, .val (.int p4), .val (.int p5), .val (.long (own_b q1 (0 : Int32))), .second] [(.int (0 : Int32))])) _
        refine XS.ifNo X101.here hx rfl (hb hby d4_88) rfl ((if0 _ _).trans (teq ((by decide) : (0 : Int32) = (0 : Int32))).2) ?_
        show Steps p.tables e below (T101.setTop (mkF m 91 #[.val (.ref a1), .val (.int (0 : Int32)), .val (.long q1), .second, .val (.long q2), .second, .val (.long q3), .second, .val (.int p4), .val (.int p5), .val (.long (own_b q1 (0 : Int32))), .second] [])) _
        refine XS.iconst X101.here hx rfl (hb hby d4_91) ?_
        show Steps p.tables e below (T101.setTop (mkF m 92 #[.val (.ref a1), .val (.int (0 : Int32)), .val (.long q1), .second, .val (.long q2), .second, .val (.long q3), .second, .val (.int p4), .val (.int p5), .val (.long (own_b q1 (0 : Int32))), .second] [(.int (1 : Int32))])) _
        refine XS.goto X101.here hx rfl (pc0 := 92) (pc' := 96) rfl (hb hby d4_92) (by decide) (by decide) ?_
        exact kt)
    obtain ⟨fs, hr, hrun, hended, hW, hsame⟩ := X101.leave (v := some (.int (1 : Int32))) (fun h => by rw [Bd.returns] at h; cases h)
    refine ⟨_, _, pre106 _ ?_, hrun, hended, _, _, rfl, ?_, ⟨_, rfl⟩, hW, hsame.mono (by decide) (by decide)⟩
    · show Steps p.tables e below (T101.setTop (mkF m 96 #[.val (.ref a1), .val (.int (0 : Int32)), .val (.long q1), .second, .val (.long q2), .second, .val (.long q3), .second, .val (.int p4), .val (.int p5), .val (.long (own_b q1 (0 : Int32))), .second] [(.int (1 : Int32))])) _
      exact retN X101 hx (t := .boolean) Bd.returns (by simp) (hb hby d4_96) hr
    · show Qok0 Z a1 q1 q2 q3 p4 p5 g kk h0 n0 _ T101.heap _
      rw [e101]
      exact ⟨rfl, N101, rfl⟩
  · skip
    have pre107 : ∀ t_, Steps p.tables e below (T101.setTop (mkF m 16 #[.val (.ref a1), .val (.int (0 : Int32)), .val (.long q1), .second, .val (.long q2), .second, .val (.long q3), .second, .val (.int p4), .val (.int p5), .val (.long (own_b q1 (0 : Int32))), .second] [(.int p5), (.int (0 : Int32))])) t_ → Steps p.tables e below (s₁.setTop (entryFrame m #[(.ref a1), (.int (0 : Int32)), (.long q1), (.long q2), (.long q3), (.int p4), (.int p5)] 12)) t_ := fun t_ kt => pre102 t_ (by
        show Steps p.tables e below (T101.setTop (mkF m 10 #[.val (.ref a1), .val (.int (0 : Int32)), .val (.long q1), .second, .val (.long q2), .second, .val (.long q3), .second, .val (.int p4), .val (.int p5), .val (.long (own_b q1 (0 : Int32))), .second] [(.int (0 : Int32)), (.int p4)])) _
        refine XS.icmpNo X101.here hx rfl (hb hby d4_10) rfl (flt (hA : ¬ ((0 : Int32) < p4))).2.2.1 ?_
        show Steps p.tables e below (T101.setTop (mkF m 13 #[.val (.ref a1), .val (.int (0 : Int32)), .val (.long q1), .second, .val (.long q2), .second, .val (.long q3), .second, .val (.int p4), .val (.int p5), .val (.long (own_b q1 (0 : Int32))), .second] [])) _
        refine XS.iloadN X101.here hx rfl (hb hby d4_13) rfl ?_
        show Steps p.tables e below (T101.setTop (mkF m 14 #[.val (.ref a1), .val (.int (0 : Int32)), .val (.long q1), .second, .val (.long q2), .second, .val (.long q3), .second, .val (.int p4), .val (.int p5), .val (.long (own_b q1 (0 : Int32))), .second] [(.int (0 : Int32))])) _
        refine XS.iload X101.here hx rfl (hb hby d4_14) rfl ?_
        exact kt)
    by_cases hB : (0 : Int32) < p5
    · skip
      obtain ⟨_, _, ⟨T108, L108, kk108, nn108⟩, -, X108, ⟨Lc108, hQ108, l108, y108, z108⟩, st108⟩ := Jvm.LawKit.callS X101 hx (y := (⟨"com/example/orthoform/kernel/LinearCombinationsAddProductsPinLaw", "b", "(JI)J"⟩ : MethodName)) hown (mvT hZ (hw _ (List.mem_of_getElem? (i := 5) rfl))) (mvT hZ (hw _ (List.mem_of_getElem? (i := 6) rfl))) (mvT hZ (hw _ (List.mem_of_getElem? (i := 2) rfl))) (mvT hZ (hw _ (List.mem_of_getElem? (i := 7) rfl))) (by decide) (backOf (W := 2) (rm2 l Z a0 hw [] q1 (4 : Int32) h0 n0 Z0 ) hZ (hw _ (List.mem_of_getElem? (i := 7) rfl)) (hw _ (List.mem_of_getElem? (i := 2) rfl)) (by decide) (by decide)) (g := (mkF m 23 #[.val (.ref a1), .val (.int (0 : Int32)), .val (.long q1), .second, .val (.long q2), .second, .val (.long q3), .second, .val (.int p4), .val (.int p5), .val (.long (own_b q1 (0 : Int32))), .second] [(.int (4 : Int32)), (.long q1), (.long (own_b q1 (0 : Int32)))])) rfl (by rw [hml]; rfl) (argsL := [(.long q1), (.int (4 : Int32))]) (rest := [(.long (own_b q1 (0 : Int32)))]) (lenOf pd__28JI_29J rfl) rfl (by show 2 * 0 + _ ≤ _; exact Nat.le_of_eq rfl) (hb hby d4_23) (fun _ _ => ⟨rfl, e101, (by decide : 0 + 0 ≤ _), (by decide : 0 + 0 ≤ _)⟩)
      dsimp only [Pt.U, Pt.locs, Pt.cells, Pt.slots] at X108 l108 y108 z108 st108 hQ108
      subst l108 y108 z108
      obtain ⟨rfl, N108q, e108⟩ := hQ108
      have N108 := Fr.app N101 N108q
      obtain ⟨_, _, ⟨T109, L109, kk109, nn109⟩, -, X109, ⟨Lc109, hQ109, l109, y109, z109⟩, st109⟩ := Jvm.LawKit.callS X108 hx (y := (⟨"com/example/orthoform/kernel/LinearCombinationsAddProductsPinLaw", "b", "(JI)J"⟩ : MethodName)) hown (mvT hZ (hw _ (List.mem_of_getElem? (i := 5) rfl))) (mvT hZ (hw _ (List.mem_of_getElem? (i := 6) rfl))) (mvT hZ (hw _ (List.mem_of_getElem? (i := 2) rfl))) (mvT hZ (hw _ (List.mem_of_getElem? (i := 7) rfl))) (by decide) (backOf (W := 4) (rm2 l Z a0 hw [] q2 (0 : Int32) h0 n0 Z0 ) hZ (hw _ (List.mem_of_getElem? (i := 7) rfl)) (hw _ (List.mem_of_getElem? (i := 2) rfl)) (by decide) (by decide)) (g := (mkF m 29 #[.val (.ref a1), .val (.int (0 : Int32)), .val (.long q1), .second, .val (.long q2), .second, .val (.long q3), .second, .val (.int p4), .val (.int p5), .val (.long (own_b q1 (0 : Int32))), .second] [(.int (0 : Int32)), (.long q2), (.long (own_b q1 (4 : Int32))), (.long (own_b q1 (0 : Int32)))])) rfl (by rw [hml]; rfl) (argsL := [(.long q2), (.int (0 : Int32))]) (rest := [(.long (own_b q1 (4 : Int32))), (.long (own_b q1 (0 : Int32)))]) (lenOf pd__28JI_29J rfl) rfl (by show 2 * 0 + _ ≤ _; exact Nat.le_of_eq rfl) (hb hby d4_29) (fun _ _ => ⟨rfl, e108, (by decide : 0 + 0 ≤ _), (by decide : 0 + 0 ≤ _)⟩)
      dsimp only [Pt.U, Pt.locs, Pt.cells, Pt.slots] at X109 l109 y109 z109 st109 hQ109
      subst l109 y109 z109
      obtain ⟨rfl, N109q, e109⟩ := hQ109
      have N109 := Fr.app N108 N109q
      obtain ⟨_, _, ⟨T110, L110, kk110, nn110⟩, -, X110, ⟨Lc110, hQ110, l110, y110, z110⟩, st110⟩ := Jvm.LawKit.callS X109 hx (y := (⟨"com/example/orthoform/kernel/LinearCombinationsAddProductsPinLaw", "b", "(JI)J"⟩ : MethodName)) hown (mvT hZ (hw _ (List.mem_of_getElem? (i := 5) rfl))) (mvT hZ (hw _ (List.mem_of_getElem? (i := 6) rfl))) (mvT hZ (hw _ (List.mem_of_getElem? (i := 2) rfl))) (mvT hZ (hw _ (List.mem_of_getElem? (i := 7) rfl))) (by decide) (backOf (W := 2) (rm2 l Z a0 hw [] q1 (5 : Int32) h0 n0 Z0 ) hZ (hw _ (List.mem_of_getElem? (i := 7) rfl)) (hw _ (List.mem_of_getElem? (i := 2) rfl)) (by decide) (by decide)) (g := (mkF m 36 #[.val (.ref a1), .val (.int (0 : Int32)), .val (.long q1), .second, .val (.long q2), .second, .val (.long q3), .second, .val (.int p4), .val (.int p5), .val (.long (own_b q1 (0 : Int32))), .second] [(.int (5 : Int32)), (.long q1), (.long ((own_b q1 (0 : Int32)) + ((own_b q1 (4 : Int32)) * (own_b q2 (0 : Int32)))))])) rfl (by rw [hml]; rfl) (argsL := [(.long q1), (.int (5 : Int32))]) (rest := [(.long ((own_b q1 (0 : Int32)) + ((own_b q1 (4 : Int32)) * (own_b q2 (0 : Int32)))))]) (lenOf pd__28JI_29J rfl) rfl (by show 2 * 0 + _ ≤ _; exact Nat.le_of_eq rfl) (hb hby d4_36) (fun _ _ => ⟨rfl, e109, (by decide : 0 + 0 ≤ _), (by decide : 0 + 0 ≤ _)⟩)
      dsimp only [Pt.U, Pt.locs, Pt.cells, Pt.slots] at X110 l110 y110 z110 st110 hQ110
      subst l110 y110 z110
      obtain ⟨rfl, N110q, e110⟩ := hQ110
      have N110 := Fr.app N109 N110q
      obtain ⟨_, _, ⟨T111, L111, kk111, nn111⟩, -, X111, ⟨Lc111, hQ111, l111, y111, z111⟩, st111⟩ := Jvm.LawKit.callS X110 hx (y := (⟨"com/example/orthoform/kernel/LinearCombinationsAddProductsPinLaw", "b", "(JI)J"⟩ : MethodName)) hown (mvT hZ (hw _ (List.mem_of_getElem? (i := 5) rfl))) (mvT hZ (hw _ (List.mem_of_getElem? (i := 6) rfl))) (mvT hZ (hw _ (List.mem_of_getElem? (i := 2) rfl))) (mvT hZ (hw _ (List.mem_of_getElem? (i := 7) rfl))) (by decide) (backOf (W := 4) (rm2 l Z a0 hw [] q2 (4 : Int32) h0 n0 Z0 ) hZ (hw _ (List.mem_of_getElem? (i := 7) rfl)) (hw _ (List.mem_of_getElem? (i := 2) rfl)) (by decide) (by decide)) (g := (mkF m 44 #[.val (.ref a1), .val (.int (0 : Int32)), .val (.long q1), .second, .val (.long q2), .second, .val (.long q3), .second, .val (.int p4), .val (.int p5), .val (.long (own_b q1 (0 : Int32))), .second] [(.int (4 : Int32)), (.long q2), (.long (own_b q1 (5 : Int32))), (.long ((own_b q1 (0 : Int32)) + ((own_b q1 (4 : Int32)) * (own_b q2 (0 : Int32)))))])) rfl (by rw [hml]; rfl) (argsL := [(.long q2), (.int (4 : Int32))]) (rest := [(.long (own_b q1 (5 : Int32))), (.long ((own_b q1 (0 : Int32)) + ((own_b q1 (4 : Int32)) * (own_b q2 (0 : Int32)))))]) (lenOf pd__28JI_29J rfl) rfl (by show 2 * 0 + _ ≤ _; exact Nat.le_of_eq rfl) (hb hby d4_44) (fun _ _ => ⟨rfl, e110, (by decide : 0 + 0 ≤ _), (by decide : 0 + 0 ≤ _)⟩)
      dsimp only [Pt.U, Pt.locs, Pt.cells, Pt.slots] at X111 l111 y111 z111 st111 hQ111
      subst l111 y111 z111
      obtain ⟨rfl, N111q, e111⟩ := hQ111
      have N111 := Fr.app N110 N111q
      obtain ⟨_, _, ⟨T112, L112, kk112, nn112⟩, -, X112, ⟨Lc112, hQ112, l112, y112, z112⟩, st112⟩ := Jvm.LawKit.callS X111 hx (y := (⟨"com/example/orthoform/kernel/LinearCombinationsAddProductsPinLaw", "b", "(JI)J"⟩ : MethodName)) hown (mvT hZ (hw _ (List.mem_of_getElem? (i := 5) rfl))) (mvT hZ (hw _ (List.mem_of_getElem? (i := 6) rfl))) (mvT hZ (hw _ (List.mem_of_getElem? (i := 2) rfl))) (mvT hZ (hw _ (List.mem_of_getElem? (i := 7) rfl))) (by decide) (backOf (W := 2) (rm2 l Z a0 hw [] q1 (6 : Int32) h0 n0 Z0 ) hZ (hw _ (List.mem_of_getElem? (i := 7) rfl)) (hw _ (List.mem_of_getElem? (i := 2) rfl)) (by decide) (by decide)) (g := (mkF m 52 #[.val (.ref a1), .val (.int (0 : Int32)), .val (.long q1), .second, .val (.long q2), .second, .val (.long q3), .second, .val (.int p4), .val (.int p5), .val (.long (own_b q1 (0 : Int32))), .second] [(.int (6 : Int32)), (.long q1), (.long (((own_b q1 (0 : Int32)) + ((own_b q1 (4 : Int32)) * (own_b q2 (0 : Int32)))) + ((own_b q1 (5 : Int32)) * (own_b q2 (4 : Int32)))))])) rfl (by rw [hml]; rfl) (argsL := [(.long q1), (.int (6 : Int32))]) (rest := [(.long (((own_b q1 (0 : Int32)) + ((own_b q1 (4 : Int32)) * (own_b q2 (0 : Int32)))) + ((own_b q1 (5 : Int32)) * (own_b q2 (4 : Int32)))))]) (lenOf pd__28JI_29J rfl) rfl (by show 2 * 0 + _ ≤ _; exact Nat.le_of_eq rfl) (hb hby d4_52) (fun _ _ => ⟨rfl, e111, (by decide : 0 + 0 ≤ _), (by decide : 0 + 0 ≤ _)⟩)
      dsimp only [Pt.U, Pt.locs, Pt.cells, Pt.slots] at X112 l112 y112 z112 st112 hQ112
      subst l112 y112 z112
      obtain ⟨rfl, N112q, e112⟩ := hQ112
      have N112 := Fr.app N111 N112q
      obtain ⟨_, _, ⟨T113, L113, kk113, nn113⟩, -, X113, ⟨Lc113, hQ113, l113, y113, z113⟩, st113⟩ := Jvm.LawKit.callS X112 hx (y := (⟨"com/example/orthoform/kernel/LinearCombinationsAddProductsPinLaw", "b", "(JI)J"⟩ : MethodName)) hown (mvT hZ (hw _ (List.mem_of_getElem? (i := 5) rfl))) (mvT hZ (hw _ (List.mem_of_getElem? (i := 6) rfl))) (mvT hZ (hw _ (List.mem_of_getElem? (i := 2) rfl))) (mvT hZ (hw _ (List.mem_of_getElem? (i := 7) rfl))) (by decide) (backOf (W := 4) (rm2 l Z a0 hw [] q3 (0 : Int32) h0 n0 Z0 ) hZ (hw _ (List.mem_of_getElem? (i := 7) rfl)) (hw _ (List.mem_of_getElem? (i := 2) rfl)) (by decide) (by decide)) (g := (mkF m 58 #[.val (.ref a1), .val (.int (0 : Int32)), .val (.long q1), .second, .val (.long q2), .second, .val (.long q3), .second, .val (.int p4), .val (.int p5), .val (.long (own_b q1 (0 : Int32))), .second] [(.int (0 : Int32)), (.long q3), (.long (own_b q1 (6 : Int32))), (.long (((own_b q1 (0 : Int32)) + ((own_b q1 (4 : Int32)) * (own_b q2 (0 : Int32)))) + ((own_b q1 (5 : Int32)) * (own_b q2 (4 : Int32)))))])) rfl (by rw [hml]; rfl) (argsL := [(.long q3), (.int (0 : Int32))]) (rest := [(.long (own_b q1 (6 : Int32))), (.long (((own_b q1 (0 : Int32)) + ((own_b q1 (4 : Int32)) * (own_b q2 (0 : Int32)))) + ((own_b q1 (5 : Int32)) * (own_b q2 (4 : Int32)))))]) (lenOf pd__28JI_29J rfl) rfl (by show 2 * 0 + _ ≤ _; exact Nat.le_of_eq rfl) (hb hby d4_58) (fun _ _ => ⟨rfl, e112, (by decide : 0 + 0 ≤ _), (by decide : 0 + 0 ≤ _)⟩)
      dsimp only [Pt.U, Pt.locs, Pt.cells, Pt.slots] at X113 l113 y113 z113 st113 hQ113
      subst l113 y113 z113
      obtain ⟨rfl, N113q, e113⟩ := hQ113
      have N113 := Fr.app N112 N113q
      obtain ⟨_, _, ⟨T114, L114, kk114, nn114⟩, -, X114, ⟨Lc114, hQ114, l114, y114, z114⟩, st114⟩ := Jvm.LawKit.callS X113 hx (y := (⟨"com/example/orthoform/kernel/LinearCombinationsAddProductsPinLaw", "b", "(JI)J"⟩ : MethodName)) hown (mvT hZ (hw _ (List.mem_of_getElem? (i := 5) rfl))) (mvT hZ (hw _ (List.mem_of_getElem? (i := 6) rfl))) (mvT hZ (hw _ (List.mem_of_getElem? (i := 2) rfl))) (mvT hZ (hw _ (List.mem_of_getElem? (i := 7) rfl))) (by decide) (backOf (W := 2) (rm2 l Z a0 hw [] q1 (7 : Int32) h0 n0 Z0 ) hZ (hw _ (List.mem_of_getElem? (i := 7) rfl)) (hw _ (List.mem_of_getElem? (i := 2) rfl)) (by decide) (by decide)) (g := (mkF m 66 #[.val (.ref a1), .val (.int (0 : Int32)), .val (.long q1), .second, .val (.long q2), .second, .val (.long q3), .second, .val (.int p4), .val (.int p5), .val (.long (own_b q1 (0 : Int32))), .second] [(.int (7 : Int32)), (.long q1), (.long ((((own_b q1 (0 : Int32)) + ((own_b q1 (4 : Int32)) * (own_b q2 (0 : Int32)))) + ((own_b q1 (5 : Int32)) * (own_b q2 (4 : Int32)))) + ((own_b q1 (6 : Int32)) * (own_b q3 (0 : Int32)))))])) rfl (by rw [hml]; rfl) (argsL := [(.long q1), (.int (7 : Int32))]) (rest := [(.long ((((own_b q1 (0 : Int32)) + ((own_b q1 (4 : Int32)) * (own_b q2 (0 : Int32)))) + ((own_b q1 (5 : Int32)) * (own_b q2 (4 : Int32)))) + ((own_b q1 (6 : Int32)) * (own_b q3 (0 : Int32)))))]) (lenOf pd__28JI_29J rfl) rfl (by show 2 * 0 + _ ≤ _; exact Nat.le_of_eq rfl) (hb hby d4_66) (fun _ _ => ⟨rfl, e113, (by decide : 0 + 0 ≤ _), (by decide : 0 + 0 ≤ _)⟩)
      dsimp only [Pt.U, Pt.locs, Pt.cells, Pt.slots] at X114 l114 y114 z114 st114 hQ114
      subst l114 y114 z114
      obtain ⟨rfl, N114q, e114⟩ := hQ114
      have N114 := Fr.app N113 N114q
      obtain ⟨_, _, ⟨T115, L115, kk115, nn115⟩, -, X115, ⟨Lc115, hQ115, l115, y115, z115⟩, st115⟩ := Jvm.LawKit.callS X114 hx (y := (⟨"com/example/orthoform/kernel/LinearCombinationsAddProductsPinLaw", "b", "(JI)J"⟩ : MethodName)) hown (mvT hZ (hw _ (List.mem_of_getElem? (i := 5) rfl))) (mvT hZ (hw _ (List.mem_of_getElem? (i := 6) rfl))) (mvT hZ (hw _ (List.mem_of_getElem? (i := 2) rfl))) (mvT hZ (hw _ (List.mem_of_getElem? (i := 7) rfl))) (by decide) (backOf (W := 4) (rm2 l Z a0 hw [] q3 (4 : Int32) h0 n0 Z0 ) hZ (hw _ (List.mem_of_getElem? (i := 7) rfl)) (hw _ (List.mem_of_getElem? (i := 2) rfl)) (by decide) (by decide)) (g := (mkF m 74 #[.val (.ref a1), .val (.int (0 : Int32)), .val (.long q1), .second, .val (.long q2), .second, .val (.long q3), .second, .val (.int p4), .val (.int p5), .val (.long (own_b q1 (0 : Int32))), .second] [(.int (4 : Int32)), (.long q3), (.long (own_b q1 (7 : Int32))), (.long ((((own_b q1 (0 : Int32)) + ((own_b q1 (4 : Int32)) * (own_b q2 (0 : Int32)))) + ((own_b q1 (5 : Int32)) * (own_b q2 (4 : Int32)))) + ((own_b q1 (6 : Int32)) * (own_b q3 (0 : Int32)))))])) rfl (by rw [hml]; rfl) (argsL := [(.long q3), (.int (4 : Int32))]) (rest := [(.long (own_b q1 (7 : Int32))), (.long ((((own_b q1 (0 : Int32)) + ((own_b q1 (4 : Int32)) * (own_b q2 (0 : Int32)))) + ((own_b q1 (5 : Int32)) * (own_b q2 (4 : Int32)))) + ((own_b q1 (6 : Int32)) * (own_b q3 (0 : Int32)))))]) (lenOf pd__28JI_29J rfl) rfl (by show 2 * 0 + _ ≤ _; exact Nat.le_of_eq rfl) (hb hby d4_74) (fun _ _ => ⟨rfl, e114, (by decide : 0 + 0 ≤ _), (by decide : 0 + 0 ≤ _)⟩)
      dsimp only [Pt.U, Pt.locs, Pt.cells, Pt.slots] at X115 l115 y115 z115 st115 hQ115
      subst l115 y115 z115
      obtain ⟨rfl, N115q, e115⟩ := hQ115
      have N115 := Fr.app N114 N115q
      obtain ⟨cl116, Ar116, Q116, S116, M116, H116, G116⟩ := id P_V_a1
      have in117 : ¬ ((0 : Int32) < 0 ∨ cl116.slots.size ≤ ((0 : Int32)).toNatClampNeg) := inb_of S116 ⟨by decide, by decide⟩
      have at118 : cl116.slots[((0 : Int32)).toNatClampNeg]? = some (.double (g 0)) := H116 0 (by rw [S116]; decide)
      have pre119 : ∀ t_, Steps p.tables e below (T115.setTop (mkF m 96 #[.val (.ref a1), .val (.int (0 : Int32)), .val (.long q1), .second, .val (.long q2), .second, .val (.long q3), .second, .val (.int p4), .val (.int p5), .val (.long (own_exp (own_b q1 (0 : Int32)) (own_b q1 (4 : Int32)) (own_b q2 (0 : Int32)) (own_b q1 (5 : Int32)) (own_b q2 (4 : Int32)) (own_b q1 (6 : Int32)) (own_b q3 (0 : Int32)) (own_b q1 (7 : Int32)) (own_b q3 (4 : Int32)))), .second] [(.int (1 : Int32))])) t_ → Steps p.tables e below (s₁.setTop (entryFrame m #[(.ref a1), (.int (0 : Int32)), (.long q1), (.long q2), (.long q3), (.int p4), (.int p5)] 12)) t_ := fun t_ kt => pre107 t_ (by
          show Steps p.tables e below (T101.setTop (mkF m 16 #[.val (.ref a1), .val (.int (0 : Int32)), .val (.long q1), .second, .val (.long q2), .second, .val (.long q3), .second, .val (.int p4), .val (.int p5), .val (.long (own_b q1 (0 : Int32))), .second] [(.int p5), (.int (0 : Int32))])) _
          refine XS.icmpNo X101.here hx rfl (hb hby d4_16) rfl (tlt (hB : (0 : Int32) < p5)).2.1 ?_
          show Steps p.tables e below (T101.setTop (mkF m 19 #[.val (.ref a1), .val (.int (0 : Int32)), .val (.long q1), .second, .val (.long q2), .second, .val (.long q3), .second, .val (.int p4), .val (.int p5), .val (.long (own_b q1 (0 : Int32))), .second] [])) _
          refine XS.lload X101.here hx rfl (hb hby d4_19) rfl ?_
          show Steps p.tables e below (T101.setTop (mkF m 21 #[.val (.ref a1), .val (.int (0 : Int32)), .val (.long q1), .second, .val (.long q2), .second, .val (.long q3), .second, .val (.int p4), .val (.int p5), .val (.long (own_b q1 (0 : Int32))), .second] [(.long (own_b q1 (0 : Int32)))])) _
          refine XS.lloadN X101.here hx rfl (hb hby d4_21) rfl ?_
          show Steps p.tables e below (T101.setTop (mkF m 22 #[.val (.ref a1), .val (.int (0 : Int32)), .val (.long q1), .second, .val (.long q2), .second, .val (.long q3), .second, .val (.int p4), .val (.int p5), .val (.long (own_b q1 (0 : Int32))), .second] [(.long q1), (.long (own_b q1 (0 : Int32)))])) _
          refine XS.iconst X101.here hx rfl (hb hby d4_22) ?_
          show Steps p.tables e below (T101.setTop (mkF m 23 #[.val (.ref a1), .val (.int (0 : Int32)), .val (.long q1), .second, .val (.long q2), .second, .val (.long q3), .second, .val (.int p4), .val (.int p5), .val (.long (own_b q1 (0 : Int32))), .second] [(.int (4 : Int32)), (.long q1), (.long (own_b q1 (0 : Int32)))])) _
          refine st108 _ ?_
          show Steps p.tables e below (T108.setTop (mkF m 26 #[.val (.ref a1), .val (.int (0 : Int32)), .val (.long q1), .second, .val (.long q2), .second, .val (.long q3), .second, .val (.int p4), .val (.int p5), .val (.long (own_b q1 (0 : Int32))), .second] [(.long (own_b q1 (4 : Int32))), (.long (own_b q1 (0 : Int32)))])) _
          refine XS.lload X108.here hx rfl (hb hby d4_26) rfl ?_
          show Steps p.tables e below (T108.setTop (mkF m 28 #[.val (.ref a1), .val (.int (0 : Int32)), .val (.long q1), .second, .val (.long q2), .second, .val (.long q3), .second, .val (.int p4), .val (.int p5), .val (.long (own_b q1 (0 : Int32))), .second] [(.long q2), (.long (own_b q1 (4 : Int32))), (.long (own_b q1 (0 : Int32)))])) _
          refine XS.iloadN X108.here hx rfl (hb hby d4_28) rfl ?_
          show Steps p.tables e below (T108.setTop (mkF m 29 #[.val (.ref a1), .val (.int (0 : Int32)), .val (.long q1), .second, .val (.long q2), .second, .val (.long q3), .second, .val (.int p4), .val (.int p5), .val (.long (own_b q1 (0 : Int32))), .second] [(.int (0 : Int32)), (.long q2), (.long (own_b q1 (4 : Int32))), (.long (own_b q1 (0 : Int32)))])) _
          refine st109 _ ?_
          show Steps p.tables e below (T109.setTop (mkF m 32 #[.val (.ref a1), .val (.int (0 : Int32)), .val (.long q1), .second, .val (.long q2), .second, .val (.long q3), .second, .val (.int p4), .val (.int p5), .val (.long (own_b q1 (0 : Int32))), .second] [(.long (own_b q2 (0 : Int32))), (.long (own_b q1 (4 : Int32))), (.long (own_b q1 (0 : Int32)))])) _
          refine XS.lmul X109.here hx rfl (hb hby d4_32) rfl ?_
          show Steps p.tables e below (T109.setTop (mkF m 33 #[.val (.ref a1), .val (.int (0 : Int32)), .val (.long q1), .second, .val (.long q2), .second, .val (.long q3), .second, .val (.int p4), .val (.int p5), .val (.long (own_b q1 (0 : Int32))), .second] [(.long ((own_b q1 (4 : Int32)) * (own_b q2 (0 : Int32)))), (.long (own_b q1 (0 : Int32)))])) _
          refine XS.ladd X109.here hx rfl (hb hby d4_33) rfl ?_
          show Steps p.tables e below (T109.setTop (mkF m 34 #[.val (.ref a1), .val (.int (0 : Int32)), .val (.long q1), .second, .val (.long q2), .second, .val (.long q3), .second, .val (.int p4), .val (.int p5), .val (.long (own_b q1 (0 : Int32))), .second] [(.long ((own_b q1 (0 : Int32)) + ((own_b q1 (4 : Int32)) * (own_b q2 (0 : Int32)))))])) _
          refine XS.lloadN X109.here hx rfl (hb hby d4_34) rfl ?_
          show Steps p.tables e below (T109.setTop (mkF m 35 #[.val (.ref a1), .val (.int (0 : Int32)), .val (.long q1), .second, .val (.long q2), .second, .val (.long q3), .second, .val (.int p4), .val (.int p5), .val (.long (own_b q1 (0 : Int32))), .second] [(.long q1), (.long ((own_b q1 (0 : Int32)) + ((own_b q1 (4 : Int32)) * (own_b q2 (0 : Int32)))))])) _
          refine XS.iconst X109.here hx rfl (hb hby d4_35) ?_
          show Steps p.tables e below (T109.setTop (mkF m 36 #[.val (.ref a1), .val (.int (0 : Int32)), .val (.long q1), .second, .val (.long q2), .second, .val (.long q3), .second, .val (.int p4), .val (.int p5), .val (.long (own_b q1 (0 : Int32))), .second] [(.int (5 : Int32)), (.long q1), (.long ((own_b q1 (0 : Int32)) + ((own_b q1 (4 : Int32)) * (own_b q2 (0 : Int32)))))])) _
          refine st110 _ ?_
          show Steps p.tables e below (T110.setTop (mkF m 39 #[.val (.ref a1), .val (.int (0 : Int32)), .val (.long q1), .second, .val (.long q2), .second, .val (.long q3), .second, .val (.int p4), .val (.int p5), .val (.long (own_b q1 (0 : Int32))), .second] [(.long (own_b q1 (5 : Int32))), (.long ((own_b q1 (0 : Int32)) + ((own_b q1 (4 : Int32)) * (own_b q2 (0 : Int32)))))])) _
          refine XS.lload X110.here hx rfl (hb hby d4_39) rfl ?_
          show Steps p.tables e below (T110.setTop (mkF m 41 #[.val (.ref a1), .val (.int (0 : Int32)), .val (.long q1), .second, .val (.long q2), .second, .val (.long q3), .second, .val (.int p4), .val (.int p5), .val (.long (own_b q1 (0 : Int32))), .second] [(.long q2), (.long (own_b q1 (5 : Int32))), (.long ((own_b q1 (0 : Int32)) + ((own_b q1 (4 : Int32)) * (own_b q2 (0 : Int32)))))])) _
          refine XS.iconst X110.here hx rfl (hb hby d4_41) ?_
          show Steps p.tables e below (T110.setTop (mkF m 42 #[.val (.ref a1), .val (.int (0 : Int32)), .val (.long q1), .second, .val (.long q2), .second, .val (.long q3), .second, .val (.int p4), .val (.int p5), .val (.long (own_b q1 (0 : Int32))), .second] [(.int (4 : Int32)), (.long q2), (.long (own_b q1 (5 : Int32))), (.long ((own_b q1 (0 : Int32)) + ((own_b q1 (4 : Int32)) * (own_b q2 (0 : Int32)))))])) _
          refine XS.iloadN X110.here hx rfl (hb hby d4_42) rfl ?_
          show Steps p.tables e below (T110.setTop (mkF m 43 #[.val (.ref a1), .val (.int (0 : Int32)), .val (.long q1), .second, .val (.long q2), .second, .val (.long q3), .second, .val (.int p4), .val (.int p5), .val (.long (own_b q1 (0 : Int32))), .second] [(.int (0 : Int32)), (.int (4 : Int32)), (.long q2), (.long (own_b q1 (5 : Int32))), (.long ((own_b q1 (0 : Int32)) + ((own_b q1 (4 : Int32)) * (own_b q2 (0 : Int32)))))])) _
          refine XS.iadd X110.here hx rfl (hb hby d4_43) rfl ?_
          show Steps p.tables e below (T110.setTop (mkF m 44 #[.val (.ref a1), .val (.int (0 : Int32)), .val (.long q1), .second, .val (.long q2), .second, .val (.long q3), .second, .val (.int p4), .val (.int p5), .val (.long (own_b q1 (0 : Int32))), .second] [(.int (4 : Int32)), (.long q2), (.long (own_b q1 (5 : Int32))), (.long ((own_b q1 (0 : Int32)) + ((own_b q1 (4 : Int32)) * (own_b q2 (0 : Int32)))))])) _
          refine st111 _ ?_
          show Steps p.tables e below (T111.setTop (mkF m 47 #[.val (.ref a1), .val (.int (0 : Int32)), .val (.long q1), .second, .val (.long q2), .second, .val (.long q3), .second, .val (.int p4), .val (.int p5), .val (.long (own_b q1 (0 : Int32))), .second] [(.long (own_b q2 (4 : Int32))), (.long (own_b q1 (5 : Int32))), (.long ((own_b q1 (0 : Int32)) + ((own_b q1 (4 : Int32)) * (own_b q2 (0 : Int32)))))])) _
          refine XS.lmul X111.here hx rfl (hb hby d4_47) rfl ?_
          show Steps p.tables e below (T111.setTop (mkF m 48 #[.val (.ref a1), .val (.int (0 : Int32)), .val (.long q1), .second, .val (.long q2), .second, .val (.long q3), .second, .val (.int p4), .val (.int p5), .val (.long (own_b q1 (0 : Int32))), .second] [(.long ((own_b q1 (5 : Int32)) * (own_b q2 (4 : Int32)))), (.long ((own_b q1 (0 : Int32)) + ((own_b q1 (4 : Int32)) * (own_b q2 (0 : Int32)))))])) _
          refine XS.ladd X111.here hx rfl (hb hby d4_48) rfl ?_
          show Steps p.tables e below (T111.setTop (mkF m 49 #[.val (.ref a1), .val (.int (0 : Int32)), .val (.long q1), .second, .val (.long q2), .second, .val (.long q3), .second, .val (.int p4), .val (.int p5), .val (.long (own_b q1 (0 : Int32))), .second] [(.long (((own_b q1 (0 : Int32)) + ((own_b q1 (4 : Int32)) * (own_b q2 (0 : Int32)))) + ((own_b q1 (5 : Int32)) * (own_b q2 (4 : Int32)))))])) _
          refine XS.lloadN X111.here hx rfl (hb hby d4_49) rfl ?_
          show Steps p.tables e below (T111.setTop (mkF m 50 #[.val (.ref a1), .val (.int (0 : Int32)), .val (.long q1), .second, .val (.long q2), .second, .val (.long q3), .second, .val (.int p4), .val (.int p5), .val (.long (own_b q1 (0 : Int32))), .second] [(.long q1), (.long (((own_b q1 (0 : Int32)) + ((own_b q1 (4 : Int32)) * (own_b q2 (0 : Int32)))) + ((own_b q1 (5 : Int32)) * (own_b q2 (4 : Int32)))))])) _
          refine XS.bipush X111.here hx rfl (hb hby d4_50) ?_
          show Steps p.tables e below (T111.setTop (mkF m 52 #[.val (.ref a1), .val (.int (0 : Int32)), .val (.long q1), .second, .val (.long q2), .second, .val (.long q3), .second, .val (.int p4), .val (.int p5), .val (.long (own_b q1 (0 : Int32))), .second] [(.int (6 : Int32)), (.long q1), (.long (((own_b q1 (0 : Int32)) + ((own_b q1 (4 : Int32)) * (own_b q2 (0 : Int32)))) + ((own_b q1 (5 : Int32)) * (own_b q2 (4 : Int32)))))])) _
          refine st112 _ ?_
          show Steps p.tables e below (T112.setTop (mkF m 55 #[.val (.ref a1), .val (.int (0 : Int32)), .val (.long q1), .second, .val (.long q2), .second, .val (.long q3), .second, .val (.int p4), .val (.int p5), .val (.long (own_b q1 (0 : Int32))), .second] [(.long (own_b q1 (6 : Int32))), (.long (((own_b q1 (0 : Int32)) + ((own_b q1 (4 : Int32)) * (own_b q2 (0 : Int32)))) + ((own_b q1 (5 : Int32)) * (own_b q2 (4 : Int32)))))])) _
          refine XS.lload X112.here hx rfl (hb hby d4_55) rfl ?_
          show Steps p.tables e below (T112.setTop (mkF m 57 #[.val (.ref a1), .val (.int (0 : Int32)), .val (.long q1), .second, .val (.long q2), .second, .val (.long q3), .second, .val (.int p4), .val (.int p5), .val (.long (own_b q1 (0 : Int32))), .second] [(.long q3), (.long (own_b q1 (6 : Int32))), (.long (((own_b q1 (0 : Int32)) + ((own_b q1 (4 : Int32)) * (own_b q2 (0 : Int32)))) + ((own_b q1 (5 : Int32)) * (own_b q2 (4 : Int32)))))])) _
          refine XS.iloadN X112.here hx rfl (hb hby d4_57) rfl ?_
          show Steps p.tables e below (T112.setTop (mkF m 58 #[.val (.ref a1), .val (.int (0 : Int32)), .val (.long q1), .second, .val (.long q2), .second, .val (.long q3), .second, .val (.int p4), .val (.int p5), .val (.long (own_b q1 (0 : Int32))), .second] [(.int (0 : Int32)), (.long q3), (.long (own_b q1 (6 : Int32))), (.long (((own_b q1 (0 : Int32)) + ((own_b q1 (4 : Int32)) * (own_b q2 (0 : Int32)))) + ((own_b q1 (5 : Int32)) * (own_b q2 (4 : Int32)))))])) _
          refine st113 _ ?_
          show Steps p.tables e below (T113.setTop (mkF m 61 #[.val (.ref a1), .val (.int (0 : Int32)), .val (.long q1), .second, .val (.long q2), .second, .val (.long q3), .second, .val (.int p4), .val (.int p5), .val (.long (own_b q1 (0 : Int32))), .second] [(.long (own_b q3 (0 : Int32))), (.long (own_b q1 (6 : Int32))), (.long (((own_b q1 (0 : Int32)) + ((own_b q1 (4 : Int32)) * (own_b q2 (0 : Int32)))) + ((own_b q1 (5 : Int32)) * (own_b q2 (4 : Int32)))))])) _
          refine XS.lmul X113.here hx rfl (hb hby d4_61) rfl ?_
          show Steps p.tables e below (T113.setTop (mkF m 62 #[.val (.ref a1), .val (.int (0 : Int32)), .val (.long q1), .second, .val (.long q2), .second, .val (.long q3), .second, .val (.int p4), .val (.int p5), .val (.long (own_b q1 (0 : Int32))), .second] [(.long ((own_b q1 (6 : Int32)) * (own_b q3 (0 : Int32)))), (.long (((own_b q1 (0 : Int32)) + ((own_b q1 (4 : Int32)) * (own_b q2 (0 : Int32)))) + ((own_b q1 (5 : Int32)) * (own_b q2 (4 : Int32)))))])) _
          refine XS.ladd X113.here hx rfl (hb hby d4_62) rfl ?_
          show Steps p.tables e below (T113.setTop (mkF m 63 #[.val (.ref a1), .val (.int (0 : Int32)), .val (.long q1), .second, .val (.long q2), .second, .val (.long q3), .second, .val (.int p4), .val (.int p5), .val (.long (own_b q1 (0 : Int32))), .second] [(.long ((((own_b q1 (0 : Int32)) + ((own_b q1 (4 : Int32)) * (own_b q2 (0 : Int32)))) + ((own_b q1 (5 : Int32)) * (own_b q2 (4 : Int32)))) + ((own_b q1 (6 : Int32)) * (own_b q3 (0 : Int32)))))])) _
          refine XS.lloadN X113.here hx rfl (hb hby d4_63) rfl ?_
          show Steps p.tables e below (T113.setTop (mkF m 64 #[.val (.ref a1), .val (.int (0 : Int32)), .val (.long q1), .second, .val (.long q2), .second, .val (.long q3), .second, .val (.int p4), .val (.int p5), .val (.long (own_b q1 (0 : Int32))), .second] [(.long q1), (.long ((((own_b q1 (0 : Int32)) + ((own_b q1 (4 : Int32)) * (own_b q2 (0 : Int32)))) + ((own_b q1 (5 : Int32)) * (own_b q2 (4 : Int32)))) + ((own_b q1 (6 : Int32)) * (own_b q3 (0 : Int32)))))])) _
          refine XS.bipush X113.here hx rfl (hb hby d4_64) ?_
          show Steps p.tables e below (T113.setTop (mkF m 66 #[.val (.ref a1), .val (.int (0 : Int32)), .val (.long q1), .second, .val (.long q2), .second, .val (.long q3), .second, .val (.int p4), .val (.int p5), .val (.long (own_b q1 (0 : Int32))), .second] [(.int (7 : Int32)), (.long q1), (.long ((((own_b q1 (0 : Int32)) + ((own_b q1 (4 : Int32)) * (own_b q2 (0 : Int32)))) + ((own_b q1 (5 : Int32)) * (own_b q2 (4 : Int32)))) + ((own_b q1 (6 : Int32)) * (own_b q3 (0 : Int32)))))])) _
          refine st114 _ ?_
          show Steps p.tables e below (T114.setTop (mkF m 69 #[.val (.ref a1), .val (.int (0 : Int32)), .val (.long q1), .second, .val (.long q2), .second, .val (.long q3), .second, .val (.int p4), .val (.int p5), .val (.long (own_b q1 (0 : Int32))), .second] [(.long (own_b q1 (7 : Int32))), (.long ((((own_b q1 (0 : Int32)) + ((own_b q1 (4 : Int32)) * (own_b q2 (0 : Int32)))) + ((own_b q1 (5 : Int32)) * (own_b q2 (4 : Int32)))) + ((own_b q1 (6 : Int32)) * (own_b q3 (0 : Int32)))))])) _
          refine XS.lload X114.here hx rfl (hb hby d4_69) rfl ?_
          show Steps p.tables e below (T114.setTop (mkF m 71 #[.val (.ref a1), .val (.int (0 : Int32)), .val (.long q1), .second, .val (.long q2), .second, .val (.long q3), .second, .val (.int p4), .val (.int p5), .val (.long (own_b q1 (0 : Int32))), .second] [(.long q3), (.long (own_b q1 (7 : Int32))), (.long ((((own_b q1 (0 : Int32)) + ((own_b q1 (4 : Int32)) * (own_b q2 (0 : Int32)))) + ((own_b q1 (5 : Int32)) * (own_b q2 (4 : Int32)))) + ((own_b q1 (6 : Int32)) * (own_b q3 (0 : Int32)))))])) _
          refine XS.iconst X114.here hx rfl (hb hby d4_71) ?_
          show Steps p.tables e below (T114.setTop (mkF m 72 #[.val (.ref a1), .val (.int (0 : Int32)), .val (.long q1), .second, .val (.long q2), .second, .val (.long q3), .second, .val (.int p4), .val (.int p5), .val (.long (own_b q1 (0 : Int32))), .second] [(.int (4 : Int32)), (.long q3), (.long (own_b q1 (7 : Int32))), (.long ((((own_b q1 (0 : Int32)) + ((own_b q1 (4 : Int32)) * (own_b q2 (0 : Int32)))) + ((own_b q1 (5 : Int32)) * (own_b q2 (4 : Int32)))) + ((own_b q1 (6 : Int32)) * (own_b q3 (0 : Int32)))))])) _
          refine XS.iloadN X114.here hx rfl (hb hby d4_72) rfl ?_
          show Steps p.tables e below (T114.setTop (mkF m 73 #[.val (.ref a1), .val (.int (0 : Int32)), .val (.long q1), .second, .val (.long q2), .second, .val (.long q3), .second, .val (.int p4), .val (.int p5), .val (.long (own_b q1 (0 : Int32))), .second] [(.int (0 : Int32)), (.int (4 : Int32)), (.long q3), (.long (own_b q1 (7 : Int32))), (.long ((((own_b q1 (0 : Int32)) + ((own_b q1 (4 : Int32)) * (own_b q2 (0 : Int32)))) + ((own_b q1 (5 : Int32)) * (own_b q2 (4 : Int32)))) + ((own_b q1 (6 : Int32)) * (own_b q3 (0 : Int32)))))])) _
          refine XS.iadd X114.here hx rfl (hb hby d4_73) rfl ?_
          show Steps p.tables e below (T114.setTop (mkF m 74 #[.val (.ref a1), .val (.int (0 : Int32)), .val (.long q1), .second, .val (.long q2), .second, .val (.long q3), .second, .val (.int p4), .val (.int p5), .val (.long (own_b q1 (0 : Int32))), .second] [(.int (4 : Int32)), (.long q3), (.long (own_b q1 (7 : Int32))), (.long ((((own_b q1 (0 : Int32)) + ((own_b q1 (4 : Int32)) * (own_b q2 (0 : Int32)))) + ((own_b q1 (5 : Int32)) * (own_b q2 (4 : Int32)))) + ((own_b q1 (6 : Int32)) * (own_b q3 (0 : Int32)))))])) _
          refine st115 _ ?_
          show Steps p.tables e below (T115.setTop (mkF m 77 #[.val (.ref a1), .val (.int (0 : Int32)), .val (.long q1), .second, .val (.long q2), .second, .val (.long q3), .second, .val (.int p4), .val (.int p5), .val (.long (own_b q1 (0 : Int32))), .second] [(.long (own_b q3 (4 : Int32))), (.long (own_b q1 (7 : Int32))), (.long ((((own_b q1 (0 : Int32)) + ((own_b q1 (4 : Int32)) * (own_b q2 (0 : Int32)))) + ((own_b q1 (5 : Int32)) * (own_b q2 (4 : Int32)))) + ((own_b q1 (6 : Int32)) * (own_b q3 (0 : Int32)))))])) _
          refine XS.lmul X115.here hx rfl (hb hby d4_77) rfl ?_
          show Steps p.tables e below (T115.setTop (mkF m 78 #[.val (.ref a1), .val (.int (0 : Int32)), .val (.long q1), .second, .val (.long q2), .second, .val (.long q3), .second, .val (.int p4), .val (.int p5), .val (.long (own_b q1 (0 : Int32))), .second] [(.long ((own_b q1 (7 : Int32)) * (own_b q3 (4 : Int32)))), (.long ((((own_b q1 (0 : Int32)) + ((own_b q1 (4 : Int32)) * (own_b q2 (0 : Int32)))) + ((own_b q1 (5 : Int32)) * (own_b q2 (4 : Int32)))) + ((own_b q1 (6 : Int32)) * (own_b q3 (0 : Int32)))))])) _
          refine XS.ladd X115.here hx rfl (hb hby d4_78) rfl ?_
          show Steps p.tables e below (T115.setTop (mkF m 79 #[.val (.ref a1), .val (.int (0 : Int32)), .val (.long q1), .second, .val (.long q2), .second, .val (.long q3), .second, .val (.int p4), .val (.int p5), .val (.long (own_b q1 (0 : Int32))), .second] [(.long (((((own_b q1 (0 : Int32)) + ((own_b q1 (4 : Int32)) * (own_b q2 (0 : Int32)))) + ((own_b q1 (5 : Int32)) * (own_b q2 (4 : Int32)))) + ((own_b q1 (6 : Int32)) * (own_b q3 (0 : Int32)))) + ((own_b q1 (7 : Int32)) * (own_b q3 (4 : Int32)))))])) _
          refine XS.lstore X115.here hx rfl (hb hby d4_79) rfl (l' := #[.val (.ref a1), .val (.int (0 : Int32)), .val (.long q1), .second, .val (.long q2), .second, .val (.long q3), .second, .val (.int p4), .val (.int p5), .val (.long (own_exp (own_b q1 (0 : Int32)) (own_b q1 (4 : Int32)) (own_b q2 (0 : Int32)) (own_b q1 (5 : Int32)) (own_b q2 (4 : Int32)) (own_b q1 (6 : Int32)) (own_b q3 (0 : Int32)) (own_b q1 (7 : Int32)) (own_b q3 (4 : Int32)))), .second]) rfl ?_
          show Steps p.tables e below (T115.setTop (mkF m 81 #[.val (.ref a1), .val (.int (0 : Int32)), .val (.long q1), .second, .val (.long q2), .second, .val (.long q3), .second, .val (.int p4), .val (.int p5), .val (.long (own_exp (own_b q1 (0 : Int32)) (own_b q1 (4 : Int32)) (own_b q2 (0 : Int32)) (own_b q1 (5 : Int32)) (own_b q2 (4 : Int32)) (own_b q1 (6 : Int32)) (own_b q3 (0 : Int32)) (own_b q1 (7 : Int32)) (own_b q3 (4 : Int32)))), .second] [])) _
          refine XS.aloadN X115.here hx rfl (hb hby d4_81) rfl rfl ?_
          show Steps p.tables e below (T115.setTop (mkF m 82 #[.val (.ref a1), .val (.int (0 : Int32)), .val (.long q1), .second, .val (.long q2), .second, .val (.long q3), .second, .val (.int p4), .val (.int p5), .val (.long (own_exp (own_b q1 (0 : Int32)) (own_b q1 (4 : Int32)) (own_b q2 (0 : Int32)) (own_b q1 (5 : Int32)) (own_b q2 (4 : Int32)) (own_b q1 (6 : Int32)) (own_b q3 (0 : Int32)) (own_b q1 (7 : Int32)) (own_b q3 (4 : Int32)))), .second] [(.ref a1)])) _
          refine XS.iloadN X115.here hx rfl (hb hby d4_82) rfl ?_
          show Steps p.tables e below (T115.setTop (mkF m 83 #[.val (.ref a1), .val (.int (0 : Int32)), .val (.long q1), .second, .val (.long q2), .second, .val (.long q3), .second, .val (.int p4), .val (.int p5), .val (.long (own_exp (own_b q1 (0 : Int32)) (own_b q1 (4 : Int32)) (own_b q2 (0 : Int32)) (own_b q1 (5 : Int32)) (own_b q2 (4 : Int32)) (own_b q1 (6 : Int32)) (own_b q3 (0 : Int32)) (own_b q1 (7 : Int32)) (own_b q3 (4 : Int32)))), .second] [(.int (0 : Int32)), (.ref a1)])) _
          refine X115.daload hx (j := (0 : Int32)) (v := (.double (g 0))) (by rw [e115]; exact Ar116.1) (State.isArrayOf_alike hZ.alike Ar116.2.1) Ar116.2.2 in117 at118 (g := (mkF m 83 #[.val (.ref a1), .val (.int (0 : Int32)), .val (.long q1), .second, .val (.long q2), .second, .val (.long q3), .second, .val (.int p4), .val (.int p5), .val (.long (own_exp (own_b q1 (0 : Int32)) (own_b q1 (4 : Int32)) (own_b q2 (0 : Int32)) (own_b q1 (5 : Int32)) (own_b q2 (4 : Int32)) (own_b q1 (6 : Int32)) (own_b q3 (0 : Int32)) (own_b q1 (7 : Int32)) (own_b q3 (4 : Int32)))), .second] [(.int (0 : Int32)), (.ref a1)])) rfl rfl (hb hby d4_83) _ ?_
          show Steps p.tables e below (T115.setTop (mkF m 84 #[.val (.ref a1), .val (.int (0 : Int32)), .val (.long q1), .second, .val (.long q2), .second, .val (.long q3), .second, .val (.int p4), .val (.int p5), .val (.long (own_exp (own_b q1 (0 : Int32)) (own_b q1 (4 : Int32)) (own_b q2 (0 : Int32)) (own_b q1 (5 : Int32)) (own_b q2 (4 : Int32)) (own_b q1 (6 : Int32)) (own_b q3 (0 : Int32)) (own_b q1 (7 : Int32)) (own_b q3 (4 : Int32)))), .second] [(.double (g 0))])) _
          refine XS.lload X115.here hx rfl (hb hby d4_84) rfl ?_
          show Steps p.tables e below (T115.setTop (mkF m 86 #[.val (.ref a1), .val (.int (0 : Int32)), .val (.long q1), .second, .val (.long q2), .second, .val (.long q3), .second, .val (.int p4), .val (.int p5), .val (.long (own_exp (own_b q1 (0 : Int32)) (own_b q1 (4 : Int32)) (own_b q2 (0 : Int32)) (own_b q1 (5 : Int32)) (own_b q2 (4 : Int32)) (own_b q1 (6 : Int32)) (own_b q3 (0 : Int32)) (own_b q1 (7 : Int32)) (own_b q3 (4 : Int32)))), .second] [(.long (own_exp (own_b q1 (0 : Int32)) (own_b q1 (4 : Int32)) (own_b q2 (0 : Int32)) (own_b q1 (5 : Int32)) (own_b q2 (4 : Int32)) (own_b q1 (6 : Int32)) (own_b q3 (0 : Int32)) (own_b q1 (7 : Int32)) (own_b q3 (4 : Int32)))), (.double (g 0))])) _
          refine XS.l2dS X115.here hx rfl (hb hby d4_86) rfl (v := (FP.l2d (own_exp (own_b q1 (0 : Int32)) (own_b q1 (4 : Int32)) (own_b q2 (0 : Int32)) (own_b q1 (5 : Int32)) (own_b q2 (4 : Int32)) (own_b q1 (6 : Int32)) (own_b q3 (0 : Int32)) (own_b q1 (7 : Int32)) (own_b q3 (4 : Int32))))) rfl ?_
          show Steps p.tables e below (T115.setTop (mkF m 87 #[.val (.ref a1), .val (.int (0 : Int32)), .val (.long q1), .second, .val (.long q2), .second, .val (.long q3), .second, .val (.int p4), .val (.int p5), .val (.long (own_exp (own_b q1 (0 : Int32)) (own_b q1 (4 : Int32)) (own_b q2 (0 : Int32)) (own_b q1 (5 : Int32)) (own_b q2 (4 : Int32)) (own_b q1 (6 : Int32)) (own_b q3 (0 : Int32)) (own_b q1 (7 : Int32)) (own_b q3 (4 : Int32)))), .second] [(.double (FP.l2d (own_exp (own_b q1 (0 : Int32)) (own_b q1 (4 : Int32)) (own_b q2 (0 : Int32)) (own_b q1 (5 : Int32)) (own_b q2 (4 : Int32)) (own_b q1 (6 : Int32)) (own_b q3 (0 : Int32)) (own_b q1 (7 : Int32)) (own_b q3 (4 : Int32))))), (.double (g 0))])) _
          refine XS.dcmpS X115.here hx rfl (hb hby d4_87) rfl (v := (0 : Int32)) (hin hA hB) ?_
          show Steps p.tables e below (T115.setTop (mkF m 88 #[.val (.ref a1), .val (.int (0 : Int32)), .val (.long q1), .second, .val (.long q2), .second, .val (.long q3), .second, .val (.int p4), .val (.int p5), .val (.long (own_exp (own_b q1 (0 : Int32)) (own_b q1 (4 : Int32)) (own_b q2 (0 : Int32)) (own_b q1 (5 : Int32)) (own_b q2 (4 : Int32)) (own_b q1 (6 : Int32)) (own_b q3 (0 : Int32)) (own_b q1 (7 : Int32)) (own_b q3 (4 : Int32)))), .second] [(.int (0 : Int32))])) _
          refine XS.ifNo X115.here hx rfl (hb hby d4_88) rfl ((if0 _ _).trans (teq ((by decide) : (0 : Int32) = (0 : Int32))).2) ?_
          show Steps p.tables e below (T115.setTop (mkF m 91 #[.val (.ref a1), .val (.int (0 : Int32)), .val (.long q1), .second, .val (.long q2), .second, .val (.long q3), .second, .val (.int p4), .val (.int p5), .val (.long (own_exp (own_b q1 (0 : Int32)) (own_b q1 (4 : Int32)) (own_b q2 (0 : Int32)) (own_b q1 (5 : Int32)) (own_b q2 (4 : Int32)) (own_b q1 (6 : Int32)) (own_b q3 (0 : Int32)) (own_b q1 (7 : Int32)) (own_b q3 (4 : Int32)))), .second] [])) _
          refine XS.iconst X115.here hx rfl (hb hby d4_91) ?_
          show Steps p.tables e below (T115.setTop (mkF m 92 #[.val (.ref a1), .val (.int (0 : Int32)), .val (.long q1), .second, .val (.long q2), .second, .val (.long q3), .second, .val (.int p4), .val (.int p5), .val (.long (own_exp (own_b q1 (0 : Int32)) (own_b q1 (4 : Int32)) (own_b q2 (0 : Int32)) (own_b q1 (5 : Int32)) (own_b q2 (4 : Int32)) (own_b q1 (6 : Int32)) (own_b q3 (0 : Int32)) (own_b q1 (7 : Int32)) (own_b q3 (4 : Int32)))), .second] [(.int (1 : Int32))])) _
          refine XS.goto X115.here hx rfl (pc0 := 92) (pc' := 96) rfl (hb hby d4_92) (by decide) (by decide) ?_
          exact kt)
      obtain ⟨fs, hr, hrun, hended, hW, hsame⟩ := X115.leave (v := some (.int (1 : Int32))) (fun h => by rw [Bd.returns] at h; cases h)
      refine ⟨_, _, pre119 _ ?_, hrun, hended, _, _, rfl, ?_, ⟨_, rfl⟩, hW, hsame.mono (by decide) (by decide)⟩
      · show Steps p.tables e below (T115.setTop (mkF m 96 #[.val (.ref a1), .val (.int (0 : Int32)), .val (.long q1), .second, .val (.long q2), .second, .val (.long q3), .second, .val (.int p4), .val (.int p5), .val (.long (own_exp (own_b q1 (0 : Int32)) (own_b q1 (4 : Int32)) (own_b q2 (0 : Int32)) (own_b q1 (5 : Int32)) (own_b q2 (4 : Int32)) (own_b q1 (6 : Int32)) (own_b q3 (0 : Int32)) (own_b q1 (7 : Int32)) (own_b q3 (4 : Int32)))), .second] [(.int (1 : Int32))])) _
        exact retN X115 hx (t := .boolean) Bd.returns (by simp) (hb hby d4_96) hr
      · show Qok0 Z a1 q1 q2 q3 p4 p5 g kk h0 n0 _ T115.heap _
        rw [e115]
        exact ⟨rfl, N115, rfl⟩
    · skip
      obtain ⟨cl120, Ar120, Q120, S120, M120, H120, G120⟩ := id P_V_a1
      have in121 : ¬ ((0 : Int32) < 0 ∨ cl120.slots.size ≤ ((0 : Int32)).toNatClampNeg) := inb_of S120 ⟨by decide, by decide⟩
      have at122 : cl120.slots[((0 : Int32)).toNatClampNeg]? = some (.double (g 0)) := H120 0 (by rw [S120]; decide)
      have pre123 : ∀ t_, Steps p.tables e below (T101.setTop (mkF m 96 #[.val (.ref a1), .val (.int (0 : Int32)), .val (.long q1), .second, .val (.long q2), .second, .val (.long q3), .second, .val (.int p4), .val (.int p5), .val (.long (own_b q1 (0 : Int32))), .second] [(.int (1 : Int32))])) t_ → Steps p.tables e below (s₁.setTop (entryFrame m #[(.ref a1), (.int (0 : Int32)), (.long q1), (.long q2), (.long q3), (.int p4), (.int p5)] 12)) t_ := fun t_ kt => pre107 t_ (by
          show Steps p.tables e below (T101.setTop (mkF m 16 #[.val (.ref a1), .val (.int (0 : Int32)), .val (.long q1), .second, .val (.long q2), .second, .val (.long q3), .second, .val (.int p4), .val (.int p5), .val (.long (own_b q1 (0 : Int32))), .second] [(.int p5), (.int (0 : Int32))])) _
          refine XS.icmpYes X101.here hx rfl (pc0 := 16) (pc' := 81) rfl (hb hby d4_16) rfl (flt (hB : ¬ ((0 : Int32) < p5))).2.1 (by decide) (by decide) ?_
          show Steps p.tables e below (T101.setTop (mkF m 81 #[.val (.ref a1), .val (.int (0 : Int32)), .val (.long q1), .second, .val (.long q2), .second, .val (.long q3), .second, .val (.int p4), .val (.int p5), .val (.long (own_b q1 (0 : Int32))), .second] [])) _
          refine XS.aloadN X101.here hx rfl (hb hby d4_81) rfl rfl ?_
          show Steps p.tables e below (T101.setTop (mkF m 82 #[.val (.ref a1), .val (.int (0 : Int32)), .val (.long q1), .second, .val (.long q2), .second, .val (.long q3), .second, .val (.int p4), .val (.int p5), .val (.long (own_b q1 (0 : Int32))), .second] [(.ref a1)])) _
          refine XS.iloadN X101.here hx rfl (hb hby d4_82) rfl ?_
          show Steps p.tables e below (T101.setTop (mkF m 83 #[.val (.ref a1), .val (.int (0 : Int32)), .val (.long q1), .second, .val (.long q2), .second, .val (.long q3), .second, .val (.int p4), .val (.int p5), .val (.long (own_b q1 (0 : Int32))), .second] [(.int (0 : Int32)), (.ref a1)])) _
          refine X101.daload hx (j := (0 : Int32)) (v := (.double (g 0))) (by rw [e101]; exact Ar120.1) (State.isArrayOf_alike hZ.alike Ar120.2.1) Ar120.2.2 in121 at122 (g := (mkF m 83 #[.val (.ref a1), .val (.int (0 : Int32)), .val (.long q1), .second, .val (.long q2), .second, .val (.long q3), .second, .val (.int p4), .val (.int p5), .val (.long (own_b q1 (0 : Int32))), .second] [(.int (0 : Int32)), (.ref a1)])) rfl rfl (hb hby d4_83) _ ?_
          show Steps p.tables e below (T101.setTop (mkF m 84 #[.val (.ref a1), .val (.int (0 : Int32)), .val (.long q1), .second, .val (.long q2), .second, .val (.long q3), .second, .val (.int p4), .val (.int p5), .val (.long (own_b q1 (0 : Int32))), .second] [(.double (g 0))])) _
          refine XS.lload X101.here hx rfl (hb hby d4_84) rfl ?_
          show Steps p.tables e below (T101.setTop (mkF m 86 #[.val (.ref a1), .val (.int (0 : Int32)), .val (.long q1), .second, .val (.long q2), .second, .val (.long q3), .second, .val (.int p4), .val (.int p5), .val (.long (own_b q1 (0 : Int32))), .second] [(.long (own_b q1 (0 : Int32))), (.double (g 0))])) _
          refine XS.l2dS X101.here hx rfl (hb hby d4_86) rfl (v := (FP.l2d (own_b q1 (0 : Int32)))) rfl ?_
          show Steps p.tables e below (T101.setTop (mkF m 87 #[.val (.ref a1), .val (.int (0 : Int32)), .val (.long q1), .second, .val (.long q2), .second, .val (.long q3), .second, .val (.int p4), .val (.int p5), .val (.long (own_b q1 (0 : Int32))), .second] [(.double (FP.l2d (own_b q1 (0 : Int32)))), (.double (g 0))])) _
          refine XS.dcmpS X101.here hx rfl (hb hby d4_87) rfl (v := (0 : Int32)) (hout (Or.inr hB)) ?_
          show Steps p.tables e below (T101.setTop (mkF m 88 #[.val (.ref a1), .val (.int (0 : Int32)), .val (.long q1), .second, .val (.long q2), .second, .val (.long q3), .second, .val (.int p4), .val (.int p5), .val (.long (own_b q1 (0 : Int32))), .second] [(.int (0 : Int32))])) _
          refine XS.ifNo X101.here hx rfl (hb hby d4_88) rfl ((if0 _ _).trans (teq ((by decide) : (0 : Int32) = (0 : Int32))).2) ?_
          show Steps p.tables e below (T101.setTop (mkF m 91 #[.val (.ref a1), .val (.int (0 : Int32)), .val (.long q1), .second, .val (.long q2), .second, .val (.long q3), .second, .val (.int p4), .val (.int p5), .val (.long (own_b q1 (0 : Int32))), .second] [])) _
          refine XS.iconst X101.here hx rfl (hb hby d4_91) ?_
          show Steps p.tables e below (T101.setTop (mkF m 92 #[.val (.ref a1), .val (.int (0 : Int32)), .val (.long q1), .second, .val (.long q2), .second, .val (.long q3), .second, .val (.int p4), .val (.int p5), .val (.long (own_b q1 (0 : Int32))), .second] [(.int (1 : Int32))])) _
          refine XS.goto X101.here hx rfl (pc0 := 92) (pc' := 96) rfl (hb hby d4_92) (by decide) (by decide) ?_
          exact kt)
      obtain ⟨fs, hr, hrun, hended, hW, hsame⟩ := X101.leave (v := some (.int (1 : Int32))) (fun h => by rw [Bd.returns] at h; cases h)
      refine ⟨_, _, pre123 _ ?_, hrun, hended, _, _, rfl, ?_, ⟨_, rfl⟩, hW, hsame.mono (by decide) (by decide)⟩
      · show Steps p.tables e below (T101.setTop (mkF m 96 #[.val (.ref a1), .val (.int (0 : Int32)), .val (.long q1), .second, .val (.long q2), .second, .val (.long q3), .second, .val (.int p4), .val (.int p5), .val (.long (own_b q1 (0 : Int32))), .second] [(.int (1 : Int32))])) _
        exact retN X101 hx (t := .boolean) Bd.returns (by simp) (hb hby d4_96) hr
      · show Qok0 Z a1 q1 q2 q3 p4 p5 g kk h0 n0 _ T101.heap _
        rw [e101]
        exact ⟨rfl, N101, rfl⟩
theorem ef_ok1 (m : MethodId) (a1 : Addr) (q1 : Int64) (q2 : Int64) (q3 : Int64) (p4 : Int32) (p5 : Int32) : entryFrame m #[(.ref a1), (.int (1 : Int32)), (.long q1), (.long q2), (.long q3), (.int p4), (.int p5)] 12 = mkF m 0 #[.val (.ref a1), .val (.int (1 : Int32)), .val (.long q1), .second, .val (.long q2), .second, .val (.long q3), .second, .val (.int p4), .val (.int p5), .unset, .unset] [] := by first | (simp [entryFrame, mkF, argsToLocals, Value.category]; done) | rfl
def Qok1 (Z : State) (a1 : Addr) (q1 : Int64) (q2 : Int64) (q3 : Int64) (p4 : Int32) (p5 : Int32) (g : Nat → UInt64) (kk : ClassId) (h0 : Heap) (n0 : Nat) (v : Option Value) (h : Heap) (L : List Loc) : Prop := v = some (.int (1 : Int32)) ∧ Fr n0 L ∧ h = h0
set_option maxRecDepth 65536 in
set_option maxHeartbeats 40000000 in
theorem rmok1 (l : Launch) (Z : State) (a0 : Array Value) (hw : ∀ d ∈ tables_1, d.before a0 Z = true) (ws : List Jvm.Cond) (a1 : Addr) (q1 : Int64) (q2 : Int64) (q3 : Int64) (p4 : Int32) (p5 : Int32) (g : Nat → UInt64) (kk : ClassId) (h0 : Heap) (n0 : Nat) (Z0 : n0 ≤ h0.size) (P_V_a1 : Arv Z h0 a1 kk .double (4 : Int32) (own_dv g) (.double (0 : UInt64))) (hin : ¬ ((1 : Int32) < p4) → (1 : Int32) < p5 → cmpValue (FP.dcmp (g 1) (FP.l2d (own_exp (own_b q1 (1 : Int32)) (own_b q1 (4 : Int32)) (own_b q2 (1 : Int32)) (own_b q1 (5 : Int32)) (own_b q2 (5 : Int32)) (own_b q1 (6 : Int32)) (own_b q3 (1 : Int32)) (own_b q1 (7 : Int32)) (own_b q3 (5 : Int32))))) .l = (0 : Int32)) (hout : ((1 : Int32) < p4 ∨ ¬ ((1 : Int32) < p5)) → cmpValue (FP.dcmp (g 1) (FP.l2d (own_b q1 (1 : Int32)))) .l = (0 : Int32)) :
    MetFree l (⟨"com/example/orthoform/kernel/LinearCombinationsAddProductsPinLaw", "ok", "([DIJJJII)Z"⟩ : MethodName) (head1 (Jvm.Cond.code (⟨"com/example/orthoform/kernel/LinearCombinationsAddProductsPinLaw", "ok", "([DIJJJII)Z"⟩ : MethodName) method_5_code 12 (some .boolean) :: ws) ({ frames := 1, cells := 0, slots := 0, locals := 18 } : Room)) (fun a U => a = #[(.ref a1), (.int (1 : Int32)), (.long q1), (.long q2), (.long q3), (.int p4), (.int p5)] ∧ Z.Warmed39 U.vm ∧ U.heap = h0) (fun _ _ _ _ _ => True) (fun _ U o U' => ∃ v L, o = .returned v ∧ Qok1 Z a1 q1 q2 q3 p4 p5 g kk h0 n0 v U'.heap L ∧ FrameEnd U o U' L ({ frames := 1, cells := 0, slots := 0, locals := 18 } : Room).cells ({ frames := 1, cells := 0, slots := 0, locals := 18 } : Room).slots) := by
  refine MetFree.of_bodySF (plainFor_of_name pn_com_example_orthoform_kernel_LinearCombinationsAddProductsPinLaw) hisR ?_
  intro p e s m args below meth c s₁ Bd hml0 hP hK
  obtain ⟨rfl, hZ, hh⟩ := hP
  have hx := Bd.exec
  have hby := Bd.bytes
  have hml : c.maxLocals = 12 := hml0
  have hown : s.vm.findClass "com/example/orthoform/kernel/LinearCombinationsAddProductsPinLaw" = some m.cls := findClass_of_methodNamed Bd.named
  have hnm := (name_of_methodNamed Bd.named Bd.method).1
  have X0 : Stand p l e ({ frames := 1, cells := 0, slots := 0, locals := 18 } : Room) s m #[(.ref a1), (.int (1 : Int32)), (.long q1), (.long q2), (.long q3), (.int p4), (.int p5)] below meth c s₁ [] 0 0 := Stand.of_body Bd
  have e0 : s₁.heap = h0 := by rw [← hh, Bd.state]; rfl
  have N0 := Fr.nil n0
  have pre0 : ∀ t_, Steps p.tables e below (s₁.setTop (mkF m 0 #[.val (.ref a1), .val (.int (1 : Int32)), .val (.long q1), .second, .val (.long q2), .second, .val (.long q3), .second, .val (.int p4), .val (.int p5), .unset, .unset] [])) t_ → Steps p.tables e below (s₁.setTop (entryFrame m #[(.ref a1), (.int (1 : Int32)), (.long q1), (.long q2), (.long q3), (.int p4), (.int p5)] 12)) t_ := fun t_ k => castTop (ef_ok1 m a1 q1 q2 q3 p4 p5) k
  obtain ⟨_, _, ⟨T101, L101, kk101, nn101⟩, -, X101, ⟨Lc101, hQ101, l101, y101, z101⟩, st101⟩ := Jvm.LawKit.callS X0 hx (y := (⟨"com/example/orthoform/kernel/LinearCombinationsAddProductsPinLaw", "b", "(JI)J"⟩ : MethodName)) hown (mvT hZ (hw _ (List.mem_of_getElem? (i := 5) rfl))) (mvT hZ (hw _ (List.mem_of_getElem? (i := 6) rfl))) (mvT hZ (hw _ (List.mem_of_getElem? (i := 2) rfl))) (mvT hZ (hw _ (List.mem_of_getElem? (i := 7) rfl))) (by decide) (backOf (W := 0) (rm2 l Z a0 hw [] q1 (1 : Int32) h0 n0 Z0 ) hZ (hw _ (List.mem_of_getElem? (i := 7) rfl)) (hw _ (List.mem_of_getElem? (i := 2) rfl)) (by decide) (by decide)) (g := (mkF m 2 #[.val (.ref a1), .val (.int (1 : Int32)), .val (.long q1), .second, .val (.long q2), .second, .val (.long q3), .second, .val (.int p4), .val (.int p5), .unset, .unset] [(.int (1 : Int32)), (.long q1)])) rfl (by rw [hml]; rfl) (argsL := [(.long q1), (.int (1 : Int32))]) (rest := []) (lenOf pd__28JI_29J rfl) rfl (by show 2 * 0 + _ ≤ _; exact Nat.le_of_eq rfl) (hb hby d4_2) (fun _ _ => ⟨rfl, e0, (by decide : 0 + 0 ≤ _), (by decide : 0 + 0 ≤ _)⟩)
  dsimp only [Pt.U, Pt.locs, Pt.cells, Pt.slots] at X101 l101 y101 z101 st101 hQ101
  subst l101 y101 z101
  obtain ⟨rfl, N101q, e101⟩ := hQ101
  have N101 := Fr.app N0 N101q
  have pre102 : ∀ t_, Steps p.tables e below (T101.setTop (mkF m 10 #[.val (.ref a1), .val (.int (1 : Int32)), .val (.long q1), .second, .val (.long q2), .second, .val (.long q3), .second, .val (.int p4), .val (.int p5), .val (.long (own_b q1 (1 : Int32))), .second] [(.int (1 : Int32)), (.int p4)])) t_ → Steps p.tables e below (s₁.setTop (entryFrame m #[(.ref a1), (.int (1 : Int32)), (.long q1), (.long q2), (.long q3), (.int p4), (.int p5)] 12)) t_ := fun t_ kt => pre0 t_ (by
      show Steps p.tables e below (s₁.setTop (mkF m 0 #[.val (.ref a1), .val (.int (1 : Int32)), .val (.long q1), .second, .val (.long q2), .second, .val (.long q3), .second, .val (.int p4), .val (.int p5), .unset, .unset] [])) _
      refine XS.lloadN X0.here hx rfl (hb hby d4_0) rfl ?_
      show Steps p.tables e below (s₁.setTop (mkF m 1 #[.val (.ref a1), .val (.int (1 : Int32)), .val (.long q1), .second, .val (.long q2), .second, .val (.long q3), .second, .val (.int p4), .val (.int p5), .unset, .unset] [(.long q1)])) _
      refine XS.iloadN X0.here hx rfl (hb hby d4_1) rfl ?_
      show Steps p.tables e below (s₁.setTop (mkF m 2 #[.val (.ref a1), .val (.int (1 : Int32)), .val (.long q1), .second, .val (.long q2), .second, .val (.long q3), .second, .val (.int p4), .val (.int p5), .unset, .unset] [(.int (1 : Int32)), (.long q1)])) _
      refine st101 _ ?_
      show Steps p.tables e below (T101.setTop (mkF m 5 #[.val (.ref a1), .val (.int (1 : Int32)), .val (.long q1), .second, .val (.long q2), .second, .val (.long q3), .second, .val (.int p4), .val (.int p5), .unset, .unset] [(.long (own_b q1 (1 : Int32)))])) _
      refine XS.lstore X101.here hx rfl (hb hby d4_5) rfl (l' := #[.val (.ref a1), .val (.int (1 : Int32)), .val (.long q1), .second, .val (.long q2), .second, .val (.long q3), .second, .val (.int p4), .val (.int p5), .val (.long (own_b q1 (1 : Int32))), .second]) rfl ?_
      show Steps p.tables e below (T101.setTop (mkF m 7 #[.val (.ref a1), .val (.int (1 : Int32)), .val (.long q1), .second, .val (.long q2), .second, .val (.long q3), .second, .val (.int p4), .val (.int p5), .val (.long (own_b q1 (1 : Int32))), .second] [])) _
      refine XS.iload X101.here hx rfl (hb hby d4_7) rfl ?_
      show Steps p.tables e below (T101.setTop (mkF m 9 #[.val (.ref a1), .val (.int (1 : Int32)), .val (.long q1), .second, .val (.long q2), .second, .val (.long q3), .second, .val (.int p4), .val (.int p5), .val (.long (own_b q1 (1 : Int32))), .second] [(.int p4)])) _
      refine XS.iloadN X101.here hx rfl (hb hby d4_9) rfl ?_
      exact kt)
  by_cases hA : (1 : Int32) < p4
  · skip
    obtain ⟨cl103, Ar103, Q103, S103, M103, H103, G103⟩ := id P_V_a1
    have in104 : ¬ ((1 : Int32) < 0 ∨ cl103.slots.size ≤ ((1 : Int32)).toNatClampNeg) := inb_of S103 ⟨by decide, by decide⟩
    have at105 : cl103.slots[((1 : Int32)).toNatClampNeg]? = some (.double (g 1)) := H103 1 (by rw [S103]; decide)
    have pre106 : ∀ t_, Steps p.tables e below (T101.setTop (mkF m 96 #[.val (.ref a1), .val (.int (1 : Int32)), .val (.long q1), .second, .val (.long q2), .second, .val (.long q3), .second, .val (.int p4), .val (.int p5), .val (.long (own_b q1 (1 : Int32))), .second] [(.int (1 : Int32))])) t_ → Steps p.tables e below (s₁.setTop (entryFrame m #[(.ref a1), (.int (1 : Int32)), (.long q1), (.long q2), (.long q3), (.int p4), (.int p5)] 12)) t_ := fun t_ kt => pre102 t_ (by
        show Steps p.tables e below (T101.setTop (mkF m 10 #[.val (.ref a1), .val (.int (1 : Int32)), .val (.long q1), .second, .val (.long q2), .second, .val (.long q3), .second, .val (.int p4), .val (.int p5), .val (.long (own_b q1 (1 : Int32))), .second] [(.int (1 : Int32)), (.int p4)])) _
        refine XS.icmpYes X101.here hx rfl (pc0 := 10) (pc' := 81) rfl (hb hby d4_10) rfl (tlt (hA : (1 : Int32) < p4)).2.2.1 (by decide) (by decide) ?_
        show Steps p.tables e below (T101.setTop (mkF m 81 #[.val (.ref a1), .val (.int (1 : Int32)), .val (.long q1), .second, .val (.long q2), .second, .val (.long q3), .second, .val (.int p4), .val (.int p5), .val (.long (own_b q1 (1 : Int32))), .second] [])) _
        refine XS.aloadN X101.here hx rfl (hb hby d4_81) rfl rfl ?_
        show Steps p.tables e below (T101.setTop (mkF m 82 #[.val (.ref a1), .val (.int (1 : Int32)), .val (.long q1), .second, .val (.long q2), .second, .val (.long q3), .second, .val (.int p4), .val (.int p5), .val (.long (own_b q1 (1 : Int32))), .second] [(.ref a1)])) _
        refine XS.iloadN X101.here hx rfl (hb hby d4_82) rfl ?_
        show Steps p.tables e below (T101.setTop (mkF m 83 #[.val (.ref a1), .val (.int (1 : Int32)), .val (.long q1), .second, .val (.long q2), .second, .val (.long q3), .second, .val (.int p4), .val (.int p5), .val (.long (own_b q1 (1 : Int32))), .second] [(.int (1 : Int32)), (.ref a1)])) _
        refine X101.daload hx (j := (1 : Int32)) (v := (.double (g 1))) (by rw [e101]; exact Ar103.1) (State.isArrayOf_alike hZ.alike Ar103.2.1) Ar103.2.2 in104 at105 (g := (mkF m 83 #[.val (.ref a1), .val (.int (1 : Int32)), .val (.long q1), .second, .val (.long q2), .second, .val (.long q3), .second, .val (.int p4), .val (.int p5), .val (.long (own_b q1 (1 : Int32))), .second] [(.int (1 : Int32)), (.ref a1)])) rfl rfl (hb hby d4_83) _ ?_
        show Steps p.tables e below (T101.setTop (mkF m 84 #[.val (.ref a1), .val (.int (1 : Int32)), .val (.long q1), .second, .val (.long q2), .second, .val (.long q3), .second, .val (.int p4), .val (.int p5), .val (.long (own_b q1 (1 : Int32))), .second] [(.double (g 1))])) _
        refine XS.lload X101.here hx rfl (hb hby d4_84) rfl ?_
        show Steps p.tables e below (T101.setTop (mkF m 86 #[.val (.ref a1), .val (.int (1 : Int32)), .val (.long q1), .second, .val (.long q2), .second, .val (.long q3), .second, .val (.int p4), .val (.int p5), .val (.long (own_b q1 (1 : Int32))), .second] [(.long (own_b q1 (1 : Int32))), (.double (g 1))])) _
        refine XS.l2dS X101.here hx rfl (hb hby d4_86) rfl (v := (FP.l2d (own_b q1 (1 : Int32)))) rfl ?_
        show Steps p.tables e below (T101.setTop (mkF m 87 #[.val (.ref a1), .val (.int (1 : Int32)), .val (.long q1), .second, .val (.long q2), .second, .val (.long q3), .second, .val (.int p4), .val (.int p5), .val (.long (own_b q1 (1 : Int32))), .second] [(.double (FP.l2d (own_b q1 (1 : Int32)))), (.double (g 1))])) _
        refine XS.dcmpS X101.here hx rfl (hb hby d4_87) rfl (v := (0 : Int32)) (hout (Or.inl hA)) ?_
        show Steps p.tables e below (T101.setTop (mkF m 88 #[.val (.ref a1), .val (.int (1 : Int32)), .val (.long q1), .second, .val (.long q2), .second, .val (.long q3), .second, .val (.int p4), .val (.int p5), .val (.long (own_b q1 (1 : Int32))), .second] [(.int (0 : Int32))])) _
        refine XS.ifNo X101.here hx rfl (hb hby d4_88) rfl ((if0 _ _).trans (teq ((by decide) : (0 : Int32) = (0 : Int32))).2) ?_
        show Steps p.tables e below (T101.setTop (mkF m 91 #[.val (.ref a1), .val (.int (1 : Int32)), .val (.long q1), .second, .val (.long q2), .second, .val (.long q3), .second, .val (.int p4), .val (.int p5), .val (.long (own_b q1 (1 : Int32))), .second] [])) _
        refine XS.iconst X101.here hx rfl (hb hby d4_91) ?_
        show Steps p.tables e below (T101.setTop (mkF m 92 #[.val (.ref a1), .val (.int (1 : Int32)), .val (.long q1), .second, .val (.long q2), .second, .val (.long q3), .second, .val (.int p4), .val (.int p5), .val (.long (own_b q1 (1 : Int32))), .second] [(.int (1 : Int32))])) _
        refine XS.goto X101.here hx rfl (pc0 := 92) (pc' := 96) rfl (hb hby d4_92) (by decide) (by decide) ?_
        exact kt)
    obtain ⟨fs, hr, hrun, hended, hW, hsame⟩ := X101.leave (v := some (.int (1 : Int32))) (fun h => by rw [Bd.returns] at h; cases h)
    refine ⟨_, _, pre106 _ ?_, hrun, hended, _, _, rfl, ?_, ⟨_, rfl⟩, hW, hsame.mono (by decide) (by decide)⟩
    · show Steps p.tables e below (T101.setTop (mkF m 96 #[.val (.ref a1), .val (.int (1 : Int32)), .val (.long q1), .second, .val (.long q2), .second, .val (.long q3), .second, .val (.int p4), .val (.int p5), .val (.long (own_b q1 (1 : Int32))), .second] [(.int (1 : Int32))])) _
      exact retN X101 hx (t := .boolean) Bd.returns (by simp) (hb hby d4_96) hr
    · show Qok1 Z a1 q1 q2 q3 p4 p5 g kk h0 n0 _ T101.heap _
      rw [e101]
      exact ⟨rfl, N101, rfl⟩
  · skip
    have pre107 : ∀ t_, Steps p.tables e below (T101.setTop (mkF m 16 #[.val (.ref a1), .val (.int (1 : Int32)), .val (.long q1), .second, .val (.long q2), .second, .val (.long q3), .second, .val (.int p4), .val (.int p5), .val (.long (own_b q1 (1 : Int32))), .second] [(.int p5), (.int (1 : Int32))])) t_ → Steps p.tables e below (s₁.setTop (entryFrame m #[(.ref a1), (.int (1 : Int32)), (.long q1), (.long q2), (.long q3), (.int p4), (.int p5)] 12)) t_ := fun t_ kt => pre102 t_ (by
        show Steps p.tables e below (T101.setTop (mkF m 10 #[.val (.ref a1), .val (.int (1 : Int32)), .val (.long q1), .second, .val (.long q2), .second, .val (.long q3), .second, .val (.int p4), .val (.int p5), .val (.long (own_b q1 (1 : Int32))), .second] [(.int (1 : Int32)), (.int p4)])) _
        refine XS.icmpNo X101.here hx rfl (hb hby d4_10) rfl (flt (hA : ¬ ((1 : Int32) < p4))).2.2.1 ?_
        show Steps p.tables e below (T101.setTop (mkF m 13 #[.val (.ref a1), .val (.int (1 : Int32)), .val (.long q1), .second, .val (.long q2), .second, .val (.long q3), .second, .val (.int p4), .val (.int p5), .val (.long (own_b q1 (1 : Int32))), .second] [])) _
        refine XS.iloadN X101.here hx rfl (hb hby d4_13) rfl ?_
        show Steps p.tables e below (T101.setTop (mkF m 14 #[.val (.ref a1), .val (.int (1 : Int32)), .val (.long q1), .second, .val (.long q2), .second, .val (.long q3), .second, .val (.int p4), .val (.int p5), .val (.long (own_b q1 (1 : Int32))), .second] [(.int (1 : Int32))])) _
        refine XS.iload X101.here hx rfl (hb hby d4_14) rfl ?_
        exact kt)
    by_cases hB : (1 : Int32) < p5
    · skip
      obtain ⟨_, _, ⟨T108, L108, kk108, nn108⟩, -, X108, ⟨Lc108, hQ108, l108, y108, z108⟩, st108⟩ := Jvm.LawKit.callS X101 hx (y := (⟨"com/example/orthoform/kernel/LinearCombinationsAddProductsPinLaw", "b", "(JI)J"⟩ : MethodName)) hown (mvT hZ (hw _ (List.mem_of_getElem? (i := 5) rfl))) (mvT hZ (hw _ (List.mem_of_getElem? (i := 6) rfl))) (mvT hZ (hw _ (List.mem_of_getElem? (i := 2) rfl))) (mvT hZ (hw _ (List.mem_of_getElem? (i := 7) rfl))) (by decide) (backOf (W := 2) (rm2 l Z a0 hw [] q1 (4 : Int32) h0 n0 Z0 ) hZ (hw _ (List.mem_of_getElem? (i := 7) rfl)) (hw _ (List.mem_of_getElem? (i := 2) rfl)) (by decide) (by decide)) (g := (mkF m 23 #[.val (.ref a1), .val (.int (1 : Int32)), .val (.long q1), .second, .val (.long q2), .second, .val (.long q3), .second, .val (.int p4), .val (.int p5), .val (.long (own_b q1 (1 : Int32))), .second] [(.int (4 : Int32)), (.long q1), (.long (own_b q1 (1 : Int32)))])) rfl (by rw [hml]; rfl) (argsL := [(.long q1), (.int (4 : Int32))]) (rest := [(.long (own_b q1 (1 : Int32)))]) (lenOf pd__28JI_29J rfl) rfl (by show 2 * 0 + _ ≤ _; exact Nat.le_of_eq rfl) (hb hby d4_23) (fun _ _ => ⟨rfl, e101, (by decide : 0 + 0 ≤ _), (by decide : 0 + 0 ≤ _)⟩)
      dsimp only [Pt.U, Pt.locs, Pt.cells, Pt.slots] at X108 l108 y108 z108 st108 hQ108
      subst l108 y108 z108
      obtain ⟨rfl, N108q, e108⟩ := hQ108
      have N108 := Fr.app N101 N108q
      obtain ⟨_, _, ⟨T109, L109, kk109, nn109⟩, -, X109, ⟨Lc109, hQ109, l109, y109, z109⟩, st109⟩ := Jvm.LawKit.callS X108 hx (y := (⟨"com/example/orthoform/kernel/LinearCombinationsAddProductsPinLaw", "b", "(JI)J"⟩ : MethodName)) hown (mvT hZ (hw _ (List.mem_of_getElem? (i := 5) rfl))) (mvT hZ (hw _ (List.mem_of_getElem? (i := 6) rfl))) (mvT hZ (hw _ (List.mem_of_getElem? (i := 2) rfl))) (mvT hZ (hw _ (List.mem_of_getElem? (i := 7) rfl))) (by decide) (backOf (W := 4) (rm2 l Z a0 hw [] q2 (1 : Int32) h0 n0 Z0 ) hZ (hw _ (List.mem_of_getElem? (i := 7) rfl)) (hw _ (List.mem_of_getElem? (i := 2) rfl)) (by decide) (by decide)) (g := (mkF m 29 #[.val (.ref a1), .val (.int (1 : Int32)), .val (.long q1), .second, .val (.long q2), .second, .val (.long q3), .second, .val (.int p4), .val (.int p5), .val (.long (own_b q1 (1 : Int32))), .second] [(.int (1 : Int32)), (.long q2), (.long (own_b q1 (4 : Int32))), (.long (own_b q1 (1 : Int32)))])) rfl (by rw [hml]; rfl) (argsL := [(.long q2), (.int (1 : Int32))]) (rest := [(.long (own_b q1 (4 : Int32))), (.long (own_b q1 (1 : Int32)))]) (lenOf pd__28JI_29J rfl) rfl (by show 2 * 0 + _ ≤ _; exact Nat.le_of_eq rfl) (hb hby d4_29) (fun _ _ => ⟨rfl, e108, (by decide : 0 + 0 ≤ _), (by decide : 0 + 0 ≤ _)⟩)
      dsimp only [Pt.U, Pt.locs, Pt.cells, Pt.slots] at X109 l109 y109 z109 st109 hQ109
      subst l109 y109 z109
      obtain ⟨rfl, N109q, e109⟩ := hQ109
      have N109 := Fr.app N108 N109q
      obtain ⟨_, _, ⟨T110, L110, kk110, nn110⟩, -, X110, ⟨Lc110, hQ110, l110, y110, z110⟩, st110⟩ := Jvm.LawKit.callS X109 hx (y := (⟨"com/example/orthoform/kernel/LinearCombinationsAddProductsPinLaw", "b", "(JI)J"⟩ : MethodName)) hown (mvT hZ (hw _ (List.mem_of_getElem? (i := 5) rfl))) (mvT hZ (hw _ (List.mem_of_getElem? (i := 6) rfl))) (mvT hZ (hw _ (List.mem_of_getElem? (i := 2) rfl))) (mvT hZ (hw _ (List.mem_of_getElem? (i := 7) rfl))) (by decide) (backOf (W := 2) (rm2 l Z a0 hw [] q1 (5 : Int32) h0 n0 Z0 ) hZ (hw _ (List.mem_of_getElem? (i := 7) rfl)) (hw _ (List.mem_of_getElem? (i := 2) rfl)) (by decide) (by decide)) (g := (mkF m 36 #[.val (.ref a1), .val (.int (1 : Int32)), .val (.long q1), .second, .val (.long q2), .second, .val (.long q3), .second, .val (.int p4), .val (.int p5), .val (.long (own_b q1 (1 : Int32))), .second] [(.int (5 : Int32)), (.long q1), (.long ((own_b q1 (1 : Int32)) + ((own_b q1 (4 : Int32)) * (own_b q2 (1 : Int32)))))])) rfl (by rw [hml]; rfl) (argsL := [(.long q1), (.int (5 : Int32))]) (rest := [(.long ((own_b q1 (1 : Int32)) + ((own_b q1 (4 : Int32)) * (own_b q2 (1 : Int32)))))]) (lenOf pd__28JI_29J rfl) rfl (by show 2 * 0 + _ ≤ _; exact Nat.le_of_eq rfl) (hb hby d4_36) (fun _ _ => ⟨rfl, e109, (by decide : 0 + 0 ≤ _), (by decide : 0 + 0 ≤ _)⟩)
      dsimp only [Pt.U, Pt.locs, Pt.cells, Pt.slots] at X110 l110 y110 z110 st110 hQ110
      subst l110 y110 z110
      obtain ⟨rfl, N110q, e110⟩ := hQ110
      have N110 := Fr.app N109 N110q
      obtain ⟨_, _, ⟨T111, L111, kk111, nn111⟩, -, X111, ⟨Lc111, hQ111, l111, y111, z111⟩, st111⟩ := Jvm.LawKit.callS X110 hx (y := (⟨"com/example/orthoform/kernel/LinearCombinationsAddProductsPinLaw", "b", "(JI)J"⟩ : MethodName)) hown (mvT hZ (hw _ (List.mem_of_getElem? (i := 5) rfl))) (mvT hZ (hw _ (List.mem_of_getElem? (i := 6) rfl))) (mvT hZ (hw _ (List.mem_of_getElem? (i := 2) rfl))) (mvT hZ (hw _ (List.mem_of_getElem? (i := 7) rfl))) (by decide) (backOf (W := 4) (rm2 l Z a0 hw [] q2 (5 : Int32) h0 n0 Z0 ) hZ (hw _ (List.mem_of_getElem? (i := 7) rfl)) (hw _ (List.mem_of_getElem? (i := 2) rfl)) (by decide) (by decide)) (g := (mkF m 44 #[.val (.ref a1), .val (.int (1 : Int32)), .val (.long q1), .second, .val (.long q2), .second, .val (.long q3), .second, .val (.int p4), .val (.int p5), .val (.long (own_b q1 (1 : Int32))), .second] [(.int (5 : Int32)), (.long q2), (.long (own_b q1 (5 : Int32))), (.long ((own_b q1 (1 : Int32)) + ((own_b q1 (4 : Int32)) * (own_b q2 (1 : Int32)))))])) rfl (by rw [hml]; rfl) (argsL := [(.long q2), (.int (5 : Int32))]) (rest := [(.long (own_b q1 (5 : Int32))), (.long ((own_b q1 (1 : Int32)) + ((own_b q1 (4 : Int32)) * (own_b q2 (1 : Int32)))))]) (lenOf pd__28JI_29J rfl) rfl (by show 2 * 0 + _ ≤ _; exact Nat.le_of_eq rfl) (hb hby d4_44) (fun _ _ => ⟨rfl, e110, (by decide : 0 + 0 ≤ _), (by decide : 0 + 0 ≤ _)⟩)
      dsimp only [Pt.U, Pt.locs, Pt.cells, Pt.slots] at X111 l111 y111 z111 st111 hQ111
      subst l111 y111 z111
      obtain ⟨rfl, N111q, e111⟩ := hQ111
      have N111 := Fr.app N110 N111q
      obtain ⟨_, _, ⟨T112, L112, kk112, nn112⟩, -, X112, ⟨Lc112, hQ112, l112, y112, z112⟩, st112⟩ := Jvm.LawKit.callS X111 hx (y := (⟨"com/example/orthoform/kernel/LinearCombinationsAddProductsPinLaw", "b", "(JI)J"⟩ : MethodName)) hown (mvT hZ (hw _ (List.mem_of_getElem? (i := 5) rfl))) (mvT hZ (hw _ (List.mem_of_getElem? (i := 6) rfl))) (mvT hZ (hw _ (List.mem_of_getElem? (i := 2) rfl))) (mvT hZ (hw _ (List.mem_of_getElem? (i := 7) rfl))) (by decide) (backOf (W := 2) (rm2 l Z a0 hw [] q1 (6 : Int32) h0 n0 Z0 ) hZ (hw _ (List.mem_of_getElem? (i := 7) rfl)) (hw _ (List.mem_of_getElem? (i := 2) rfl)) (by decide) (by decide)) (g := (mkF m 52 #[.val (.ref a1), .val (.int (1 : Int32)), .val (.long q1), .second, .val (.long q2), .second, .val (.long q3), .second, .val (.int p4), .val (.int p5), .val (.long (own_b q1 (1 : Int32))), .second] [(.int (6 : Int32)), (.long q1), (.long (((own_b q1 (1 : Int32)) + ((own_b q1 (4 : Int32)) * (own_b q2 (1 : Int32)))) + ((own_b q1 (5 : Int32)) * (own_b q2 (5 : Int32)))))])) rfl (by rw [hml]; rfl) (argsL := [(.long q1), (.int (6 : Int32))]) (rest := [(.long (((own_b q1 (1 : Int32)) + ((own_b q1 (4 : Int32)) * (own_b q2 (1 : Int32)))) + ((own_b q1 (5 : Int32)) * (own_b q2 (5 : Int32)))))]) (lenOf pd__28JI_29J rfl) rfl (by show 2 * 0 + _ ≤ _; exact Nat.le_of_eq rfl) (hb hby d4_52) (fun _ _ => ⟨rfl, e111, (by decide : 0 + 0 ≤ _), (by decide : 0 + 0 ≤ _)⟩)
      dsimp only [Pt.U, Pt.locs, Pt.cells, Pt.slots] at X112 l112 y112 z112 st112 hQ112
      subst l112 y112 z112
      obtain ⟨rfl, N112q, e112⟩ := hQ112
      have N112 := Fr.app N111 N112q
      obtain ⟨_, _, ⟨T113, L113, kk113, nn113⟩, -, X113, ⟨Lc113, hQ113, l113, y113, z113⟩, st113⟩ := Jvm.LawKit.callS X112 hx (y := (⟨"com/example/orthoform/kernel/LinearCombinationsAddProductsPinLaw", "b", "(JI)J"⟩ : MethodName)) hown (mvT hZ (hw _ (List.mem_of_getElem? (i := 5) rfl))) (mvT hZ (hw _ (List.mem_of_getElem? (i := 6) rfl))) (mvT hZ (hw _ (List.mem_of_getElem? (i := 2) rfl))) (mvT hZ (hw _ (List.mem_of_getElem? (i := 7) rfl))) (by decide) (backOf (W := 4) (rm2 l Z a0 hw [] q3 (1 : Int32) h0 n0 Z0 ) hZ (hw _ (List.mem_of_getElem? (i := 7) rfl)) (hw _ (List.mem_of_getElem? (i := 2) rfl)) (by decide) (by decide)) (g := (mkF m 58 #[.val (.ref a1), .val (.int (1 : Int32)), .val (.long q1), .second, .val (.long q2), .second, .val (.long q3), .second, .val (.int p4), .val (.int p5), .val (.long (own_b q1 (1 : Int32))), .second] [(.int (1 : Int32)), (.long q3), (.long (own_b q1 (6 : Int32))), (.long (((own_b q1 (1 : Int32)) + ((own_b q1 (4 : Int32)) * (own_b q2 (1 : Int32)))) + ((own_b q1 (5 : Int32)) * (own_b q2 (5 : Int32)))))])) rfl (by rw [hml]; rfl) (argsL := [(.long q3), (.int (1 : Int32))]) (rest := [(.long (own_b q1 (6 : Int32))), (.long (((own_b q1 (1 : Int32)) + ((own_b q1 (4 : Int32)) * (own_b q2 (1 : Int32)))) + ((own_b q1 (5 : Int32)) * (own_b q2 (5 : Int32)))))]) (lenOf pd__28JI_29J rfl) rfl (by show 2 * 0 + _ ≤ _; exact Nat.le_of_eq rfl) (hb hby d4_58) (fun _ _ => ⟨rfl, e112, (by decide : 0 + 0 ≤ _), (by decide : 0 + 0 ≤ _)⟩)
      dsimp only [Pt.U, Pt.locs, Pt.cells, Pt.slots] at X113 l113 y113 z113 st113 hQ113
      subst l113 y113 z113
      obtain ⟨rfl, N113q, e113⟩ := hQ113
      have N113 := Fr.app N112 N113q
      obtain ⟨_, _, ⟨T114, L114, kk114, nn114⟩, -, X114, ⟨Lc114, hQ114, l114, y114, z114⟩, st114⟩ := Jvm.LawKit.callS X113 hx (y := (⟨"com/example/orthoform/kernel/LinearCombinationsAddProductsPinLaw", "b", "(JI)J"⟩ : MethodName)) hown (mvT hZ (hw _ (List.mem_of_getElem? (i := 5) rfl))) (mvT hZ (hw _ (List.mem_of_getElem? (i := 6) rfl))) (mvT hZ (hw _ (List.mem_of_getElem? (i := 2) rfl))) (mvT hZ (hw _ (List.mem_of_getElem? (i := 7) rfl))) (by decide) (backOf (W := 2) (rm2 l Z a0 hw [] q1 (7 : Int32) h0 n0 Z0 ) hZ (hw _ (List.mem_of_getElem? (i := 7) rfl)) (hw _ (List.mem_of_getElem? (i := 2) rfl)) (by decide) (by decide)) (g := (mkF m 66 #[.val (.ref a1), .val (.int (1 : Int32)), .val (.long q1), .second, .val (.long q2), .second, .val (.long q3), .second, .val (.int p4), .val (.int p5), .val (.long (own_b q1 (1 : Int32))), .second] [(.int (7 : Int32)), (.long q1), (.long ((((own_b q1 (1 : Int32)) + ((own_b q1 (4 : Int32)) * (own_b q2 (1 : Int32)))) + ((own_b q1 (5 : Int32)) * (own_b q2 (5 : Int32)))) + ((own_b q1 (6 : Int32)) * (own_b q3 (1 : Int32)))))])) rfl (by rw [hml]; rfl) (argsL := [(.long q1), (.int (7 : Int32))]) (rest := [(.long ((((own_b q1 (1 : Int32)) + ((own_b q1 (4 : Int32)) * (own_b q2 (1 : Int32)))) + ((own_b q1 (5 : Int32)) * (own_b q2 (5 : Int32)))) + ((own_b q1 (6 : Int32)) * (own_b q3 (1 : Int32)))))]) (lenOf pd__28JI_29J rfl) rfl (by show 2 * 0 + _ ≤ _; exact Nat.le_of_eq rfl) (hb hby d4_66) (fun _ _ => ⟨rfl, e113, (by decide : 0 + 0 ≤ _), (by decide : 0 + 0 ≤ _)⟩)
      dsimp only [Pt.U, Pt.locs, Pt.cells, Pt.slots] at X114 l114 y114 z114 st114 hQ114
      subst l114 y114 z114
      obtain ⟨rfl, N114q, e114⟩ := hQ114
      have N114 := Fr.app N113 N114q
      obtain ⟨_, _, ⟨T115, L115, kk115, nn115⟩, -, X115, ⟨Lc115, hQ115, l115, y115, z115⟩, st115⟩ := Jvm.LawKit.callS X114 hx (y := (⟨"com/example/orthoform/kernel/LinearCombinationsAddProductsPinLaw", "b", "(JI)J"⟩ : MethodName)) hown (mvT hZ (hw _ (List.mem_of_getElem? (i := 5) rfl))) (mvT hZ (hw _ (List.mem_of_getElem? (i := 6) rfl))) (mvT hZ (hw _ (List.mem_of_getElem? (i := 2) rfl))) (mvT hZ (hw _ (List.mem_of_getElem? (i := 7) rfl))) (by decide) (backOf (W := 4) (rm2 l Z a0 hw [] q3 (5 : Int32) h0 n0 Z0 ) hZ (hw _ (List.mem_of_getElem? (i := 7) rfl)) (hw _ (List.mem_of_getElem? (i := 2) rfl)) (by decide) (by decide)) (g := (mkF m 74 #[.val (.ref a1), .val (.int (1 : Int32)), .val (.long q1), .second, .val (.long q2), .second, .val (.long q3), .second, .val (.int p4), .val (.int p5), .val (.long (own_b q1 (1 : Int32))), .second] [(.int (5 : Int32)), (.long q3), (.long (own_b q1 (7 : Int32))), (.long ((((own_b q1 (1 : Int32)) + ((own_b q1 (4 : Int32)) * (own_b q2 (1 : Int32)))) + ((own_b q1 (5 : Int32)) * (own_b q2 (5 : Int32)))) + ((own_b q1 (6 : Int32)) * (own_b q3 (1 : Int32)))))])) rfl (by rw [hml]; rfl) (argsL := [(.long q3), (.int (5 : Int32))]) (rest := [(.long (own_b q1 (7 : Int32))), (.long ((((own_b q1 (1 : Int32)) + ((own_b q1 (4 : Int32)) * (own_b q2 (1 : Int32)))) + ((own_b q1 (5 : Int32)) * (own_b q2 (5 : Int32)))) + ((own_b q1 (6 : Int32)) * (own_b q3 (1 : Int32)))))]) (lenOf pd__28JI_29J rfl) rfl (by show 2 * 0 + _ ≤ _; exact Nat.le_of_eq rfl) (hb hby d4_74) (fun _ _ => ⟨rfl, e114, (by decide : 0 + 0 ≤ _), (by decide : 0 + 0 ≤ _)⟩)
      dsimp only [Pt.U, Pt.locs, Pt.cells, Pt.slots] at X115 l115 y115 z115 st115 hQ115
      subst l115 y115 z115
      obtain ⟨rfl, N115q, e115⟩ := hQ115
      have N115 := Fr.app N114 N115q
      obtain ⟨cl116, Ar116, Q116, S116, M116, H116, G116⟩ := id P_V_a1
      have in117 : ¬ ((1 : Int32) < 0 ∨ cl116.slots.size ≤ ((1 : Int32)).toNatClampNeg) := inb_of S116 ⟨by decide, by decide⟩
      have at118 : cl116.slots[((1 : Int32)).toNatClampNeg]? = some (.double (g 1)) := H116 1 (by rw [S116]; decide)
      have pre119 : ∀ t_, Steps p.tables e below (T115.setTop (mkF m 96 #[.val (.ref a1), .val (.int (1 : Int32)), .val (.long q1), .second, .val (.long q2), .second, .val (.long q3), .second, .val (.int p4), .val (.int p5), .val (.long (own_exp (own_b q1 (1 : Int32)) (own_b q1 (4 : Int32)) (own_b q2 (1 : Int32)) (own_b q1 (5 : Int32)) (own_b q2 (5 : Int32)) (own_b q1 (6 : Int32)) (own_b q3 (1 : Int32)) (own_b q1 (7 : Int32)) (own_b q3 (5 : Int32)))), .second] [(.int (1 : Int32))])) t_ → Steps p.tables e below (s₁.setTop (entryFrame m #[(.ref a1), (.int (1 : Int32)), (.long q1), (.long q2), (.long q3), (.int p4), (.int p5)] 12)) t_ := fun t_ kt => pre107 t_ (by
          show Steps p.tables e below (T101.setTop (mkF m 16 #[.val (.ref a1), .val (.int (1 : Int32)), .val (.long q1), .second, .val (.long q2), .second, .val (.long q3), .second, .val (.int p4), .val (.int p5), .val (.long (own_b q1 (1 : Int32))), .second] [(.int p5), (.int (1 : Int32))])) _
          refine XS.icmpNo X101.here hx rfl (hb hby d4_16) rfl (tlt (hB : (1 : Int32) < p5)).2.1 ?_
          show Steps p.tables e below (T101.setTop (mkF m 19 #[.val (.ref a1), .val (.int (1 : Int32)), .val (.long q1), .second, .val (.long q2), .second, .val (.long q3), .second, .val (.int p4), .val (.int p5), .val (.long (own_b q1 (1 : Int32))), .second] [])) _
          refine XS.lload X101.here hx rfl (hb hby d4_19) rfl ?_
          show Steps p.tables e below (T101.setTop (mkF m 21 #[.val (.ref a1), .val (.int (1 : Int32)), .val (.long q1), .second, .val (.long q2), .second, .val (.long q3), .second, .val (.int p4), .val (.int p5), .val (.long (own_b q1 (1 : Int32))), .second] [(.long (own_b q1 (1 : Int32)))])) _
          refine XS.lloadN X101.here hx rfl (hb hby d4_21) rfl ?_
          show Steps p.tables e below (T101.setTop (mkF m 22 #[.val (.ref a1), .val (.int (1 : Int32)), .val (.long q1), .second, .val (.long q2), .second, .val (.long q3), .second, .val (.int p4), .val (.int p5), .val (.long (own_b q1 (1 : Int32))), .second] [(.long q1), (.long (own_b q1 (1 : Int32)))])) _
          refine XS.iconst X101.here hx rfl (hb hby d4_22) ?_
          show Steps p.tables e below (T101.setTop (mkF m 23 #[.val (.ref a1), .val (.int (1 : Int32)), .val (.long q1), .second, .val (.long q2), .second, .val (.long q3), .second, .val (.int p4), .val (.int p5), .val (.long (own_b q1 (1 : Int32))), .second] [(.int (4 : Int32)), (.long q1), (.long (own_b q1 (1 : Int32)))])) _
          refine st108 _ ?_
          show Steps p.tables e below (T108.setTop (mkF m 26 #[.val (.ref a1), .val (.int (1 : Int32)), .val (.long q1), .second, .val (.long q2), .second, .val (.long q3), .second, .val (.int p4), .val (.int p5), .val (.long (own_b q1 (1 : Int32))), .second] [(.long (own_b q1 (4 : Int32))), (.long (own_b q1 (1 : Int32)))])) _
          refine XS.lload X108.here hx rfl (hb hby d4_26) rfl ?_
          show Steps p.tables e below (T108.setTop (mkF m 28 #[.val (.ref a1), .val (.int (1 : Int32)), .val (.long q1), .second, .val (.long q2), .second, .val (.long q3), .second, .val (.int p4), .val (.int p5), .val (.long (own_b q1 (1 : Int32))), .second] [(.long q2), (.long (own_b q1 (4 : Int32))), (.long (own_b q1 (1 : Int32)))])) _
          refine XS.iloadN X108.here hx rfl (hb hby d4_28) rfl ?_
          show Steps p.tables e below (T108.setTop (mkF m 29 #[.val (.ref a1), .val (.int (1 : Int32)), .val (.long q1), .second, .val (.long q2), .second, .val (.long q3), .second, .val (.int p4), .val (.int p5), .val (.long (own_b q1 (1 : Int32))), .second] [(.int (1 : Int32)), (.long q2), (.long (own_b q1 (4 : Int32))), (.long (own_b q1 (1 : Int32)))])) _
          refine st109 _ ?_
          show Steps p.tables e below (T109.setTop (mkF m 32 #[.val (.ref a1), .val (.int (1 : Int32)), .val (.long q1), .second, .val (.long q2), .second, .val (.long q3), .second, .val (.int p4), .val (.int p5), .val (.long (own_b q1 (1 : Int32))), .second] [(.long (own_b q2 (1 : Int32))), (.long (own_b q1 (4 : Int32))), (.long (own_b q1 (1 : Int32)))])) _
          refine XS.lmul X109.here hx rfl (hb hby d4_32) rfl ?_
          show Steps p.tables e below (T109.setTop (mkF m 33 #[.val (.ref a1), .val (.int (1 : Int32)), .val (.long q1), .second, .val (.long q2), .second, .val (.long q3), .second, .val (.int p4), .val (.int p5), .val (.long (own_b q1 (1 : Int32))), .second] [(.long ((own_b q1 (4 : Int32)) * (own_b q2 (1 : Int32)))), (.long (own_b q1 (1 : Int32)))])) _
          refine XS.ladd X109.here hx rfl (hb hby d4_33) rfl ?_
          show Steps p.tables e below (T109.setTop (mkF m 34 #[.val (.ref a1), .val (.int (1 : Int32)), .val (.long q1), .second, .val (.long q2), .second, .val (.long q3), .second, .val (.int p4), .val (.int p5), .val (.long (own_b q1 (1 : Int32))), .second] [(.long ((own_b q1 (1 : Int32)) + ((own_b q1 (4 : Int32)) * (own_b q2 (1 : Int32)))))])) _
          refine XS.lloadN X109.here hx rfl (hb hby d4_34) rfl ?_
          show Steps p.tables e below (T109.setTop (mkF m 35 #[.val (.ref a1), .val (.int (1 : Int32)), .val (.long q1), .second, .val (.long q2), .second, .val (.long q3), .second, .val (.int p4), .val (.int p5), .val (.long (own_b q1 (1 : Int32))), .second] [(.long q1), (.long ((own_b q1 (1 : Int32)) + ((own_b q1 (4 : Int32)) * (own_b q2 (1 : Int32)))))])) _
          refine XS.iconst X109.here hx rfl (hb hby d4_35) ?_
          show Steps p.tables e below (T109.setTop (mkF m 36 #[.val (.ref a1), .val (.int (1 : Int32)), .val (.long q1), .second, .val (.long q2), .second, .val (.long q3), .second, .val (.int p4), .val (.int p5), .val (.long (own_b q1 (1 : Int32))), .second] [(.int (5 : Int32)), (.long q1), (.long ((own_b q1 (1 : Int32)) + ((own_b q1 (4 : Int32)) * (own_b q2 (1 : Int32)))))])) _
          refine st110 _ ?_
          show Steps p.tables e below (T110.setTop (mkF m 39 #[.val (.ref a1), .val (.int (1 : Int32)), .val (.long q1), .second, .val (.long q2), .second, .val (.long q3), .second, .val (.int p4), .val (.int p5), .val (.long (own_b q1 (1 : Int32))), .second] [(.long (own_b q1 (5 : Int32))), (.long ((own_b q1 (1 : Int32)) + ((own_b q1 (4 : Int32)) * (own_b q2 (1 : Int32)))))])) _
          refine XS.lload X110.here hx rfl (hb hby d4_39) rfl ?_
          show Steps p.tables e below (T110.setTop (mkF m 41 #[.val (.ref a1), .val (.int (1 : Int32)), .val (.long q1), .second, .val (.long q2), .second, .val (.long q3), .second, .val (.int p4), .val (.int p5), .val (.long (own_b q1 (1 : Int32))), .second] [(.long q2), (.long (own_b q1 (5 : Int32))), (.long ((own_b q1 (1 : Int32)) + ((own_b q1 (4 : Int32)) * (own_b q2 (1 : Int32)))))])) _
          refine XS.iconst X110.here hx rfl (hb hby d4_41) ?_
          show Steps p.tables e below (T110.setTop (mkF m 42 #[.val (.ref a1), .val (.int (1 : Int32)), .val (.long q1), .second, .val (.long q2), .second, .val (.long q3), .second, .val (.int p4), .val (.int p5), .val (.long (own_b q1 (1 : Int32))), .second] [(.int (4 : Int32)), (.long q2), (.long (own_b q1 (5 : Int32))), (.long ((own_b q1 (1 : Int32)) + ((own_b q1 (4 : Int32)) * (own_b q2 (1 : Int32)))))])) _
          refine XS.iloadN X110.here hx rfl (hb hby d4_42) rfl ?_
          show Steps p.tables e below (T110.setTop (mkF m 43 #[.val (.ref a1), .val (.int (1 : Int32)), .val (.long q1), .second, .val (.long q2), .second, .val (.long q3), .second, .val (.int p4), .val (.int p5), .val (.long (own_b q1 (1 : Int32))), .second] [(.int (1 : Int32)), (.int (4 : Int32)), (.long q2), (.long (own_b q1 (5 : Int32))), (.long ((own_b q1 (1 : Int32)) + ((own_b q1 (4 : Int32)) * (own_b q2 (1 : Int32)))))])) _
          refine XS.iadd X110.here hx rfl (hb hby d4_43) rfl ?_
          show Steps p.tables e below (T110.setTop (mkF m 44 #[.val (.ref a1), .val (.int (1 : Int32)), .val (.long q1), .second, .val (.long q2), .second, .val (.long q3), .second, .val (.int p4), .val (.int p5), .val (.long (own_b q1 (1 : Int32))), .second] [(.int (5 : Int32)), (.long q2), (.long (own_b q1 (5 : Int32))), (.long ((own_b q1 (1 : Int32)) + ((own_b q1 (4 : Int32)) * (own_b q2 (1 : Int32)))))])) _
          refine st111 _ ?_
          show Steps p.tables e below (T111.setTop (mkF m 47 #[.val (.ref a1), .val (.int (1 : Int32)), .val (.long q1), .second, .val (.long q2), .second, .val (.long q3), .second, .val (.int p4), .val (.int p5), .val (.long (own_b q1 (1 : Int32))), .second] [(.long (own_b q2 (5 : Int32))), (.long (own_b q1 (5 : Int32))), (.long ((own_b q1 (1 : Int32)) + ((own_b q1 (4 : Int32)) * (own_b q2 (1 : Int32)))))])) _
          refine XS.lmul X111.here hx rfl (hb hby d4_47) rfl ?_
          show Steps p.tables e below (T111.setTop (mkF m 48 #[.val (.ref a1), .val (.int (1 : Int32)), .val (.long q1), .second, .val (.long q2), .second, .val (.long q3), .second, .val (.int p4), .val (.int p5), .val (.long (own_b q1 (1 : Int32))), .second] [(.long ((own_b q1 (5 : Int32)) * (own_b q2 (5 : Int32)))), (.long ((own_b q1 (1 : Int32)) + ((own_b q1 (4 : Int32)) * (own_b q2 (1 : Int32)))))])) _
          refine XS.ladd X111.here hx rfl (hb hby d4_48) rfl ?_
          show Steps p.tables e below (T111.setTop (mkF m 49 #[.val (.ref a1), .val (.int (1 : Int32)), .val (.long q1), .second, .val (.long q2), .second, .val (.long q3), .second, .val (.int p4), .val (.int p5), .val (.long (own_b q1 (1 : Int32))), .second] [(.long (((own_b q1 (1 : Int32)) + ((own_b q1 (4 : Int32)) * (own_b q2 (1 : Int32)))) + ((own_b q1 (5 : Int32)) * (own_b q2 (5 : Int32)))))])) _
          refine XS.lloadN X111.here hx rfl (hb hby d4_49) rfl ?_
          show Steps p.tables e below (T111.setTop (mkF m 50 #[.val (.ref a1), .val (.int (1 : Int32)), .val (.long q1), .second, .val (.long q2), .second, .val (.long q3), .second, .val (.int p4), .val (.int p5), .val (.long (own_b q1 (1 : Int32))), .second] [(.long q1), (.long (((own_b q1 (1 : Int32)) + ((own_b q1 (4 : Int32)) * (own_b q2 (1 : Int32)))) + ((own_b q1 (5 : Int32)) * (own_b q2 (5 : Int32)))))])) _
          refine XS.bipush X111.here hx rfl (hb hby d4_50) ?_
          show Steps p.tables e below (T111.setTop (mkF m 52 #[.val (.ref a1), .val (.int (1 : Int32)), .val (.long q1), .second, .val (.long q2), .second, .val (.long q3), .second, .val (.int p4), .val (.int p5), .val (.long (own_b q1 (1 : Int32))), .second] [(.int (6 : Int32)), (.long q1), (.long (((own_b q1 (1 : Int32)) + ((own_b q1 (4 : Int32)) * (own_b q2 (1 : Int32)))) + ((own_b q1 (5 : Int32)) * (own_b q2 (5 : Int32)))))])) _
          refine st112 _ ?_
          show Steps p.tables e below (T112.setTop (mkF m 55 #[.val (.ref a1), .val (.int (1 : Int32)), .val (.long q1), .second, .val (.long q2), .second, .val (.long q3), .second, .val (.int p4), .val (.int p5), .val (.long (own_b q1 (1 : Int32))), .second] [(.long (own_b q1 (6 : Int32))), (.long (((own_b q1 (1 : Int32)) + ((own_b q1 (4 : Int32)) * (own_b q2 (1 : Int32)))) + ((own_b q1 (5 : Int32)) * (own_b q2 (5 : Int32)))))])) _
          refine XS.lload X112.here hx rfl (hb hby d4_55) rfl ?_
          show Steps p.tables e below (T112.setTop (mkF m 57 #[.val (.ref a1), .val (.int (1 : Int32)), .val (.long q1), .second, .val (.long q2), .second, .val (.long q3), .second, .val (.int p4), .val (.int p5), .val (.long (own_b q1 (1 : Int32))), .second] [(.long q3), (.long (own_b q1 (6 : Int32))), (.long (((own_b q1 (1 : Int32)) + ((own_b q1 (4 : Int32)) * (own_b q2 (1 : Int32)))) + ((own_b q1 (5 : Int32)) * (own_b q2 (5 : Int32)))))])) _
          refine XS.iloadN X112.here hx rfl (hb hby d4_57) rfl ?_
          show Steps p.tables e below (T112.setTop (mkF m 58 #[.val (.ref a1), .val (.int (1 : Int32)), .val (.long q1), .second, .val (.long q2), .second, .val (.long q3), .second, .val (.int p4), .val (.int p5), .val (.long (own_b q1 (1 : Int32))), .second] [(.int (1 : Int32)), (.long q3), (.long (own_b q1 (6 : Int32))), (.long (((own_b q1 (1 : Int32)) + ((own_b q1 (4 : Int32)) * (own_b q2 (1 : Int32)))) + ((own_b q1 (5 : Int32)) * (own_b q2 (5 : Int32)))))])) _
          refine st113 _ ?_
          show Steps p.tables e below (T113.setTop (mkF m 61 #[.val (.ref a1), .val (.int (1 : Int32)), .val (.long q1), .second, .val (.long q2), .second, .val (.long q3), .second, .val (.int p4), .val (.int p5), .val (.long (own_b q1 (1 : Int32))), .second] [(.long (own_b q3 (1 : Int32))), (.long (own_b q1 (6 : Int32))), (.long (((own_b q1 (1 : Int32)) + ((own_b q1 (4 : Int32)) * (own_b q2 (1 : Int32)))) + ((own_b q1 (5 : Int32)) * (own_b q2 (5 : Int32)))))])) _
          refine XS.lmul X113.here hx rfl (hb hby d4_61) rfl ?_
          show Steps p.tables e below (T113.setTop (mkF m 62 #[.val (.ref a1), .val (.int (1 : Int32)), .val (.long q1), .second, .val (.long q2), .second, .val (.long q3), .second, .val (.int p4), .val (.int p5), .val (.long (own_b q1 (1 : Int32))), .second] [(.long ((own_b q1 (6 : Int32)) * (own_b q3 (1 : Int32)))), (.long (((own_b q1 (1 : Int32)) + ((own_b q1 (4 : Int32)) * (own_b q2 (1 : Int32)))) + ((own_b q1 (5 : Int32)) * (own_b q2 (5 : Int32)))))])) _
          refine XS.ladd X113.here hx rfl (hb hby d4_62) rfl ?_
          show Steps p.tables e below (T113.setTop (mkF m 63 #[.val (.ref a1), .val (.int (1 : Int32)), .val (.long q1), .second, .val (.long q2), .second, .val (.long q3), .second, .val (.int p4), .val (.int p5), .val (.long (own_b q1 (1 : Int32))), .second] [(.long ((((own_b q1 (1 : Int32)) + ((own_b q1 (4 : Int32)) * (own_b q2 (1 : Int32)))) + ((own_b q1 (5 : Int32)) * (own_b q2 (5 : Int32)))) + ((own_b q1 (6 : Int32)) * (own_b q3 (1 : Int32)))))])) _
          refine XS.lloadN X113.here hx rfl (hb hby d4_63) rfl ?_
          show Steps p.tables e below (T113.setTop (mkF m 64 #[.val (.ref a1), .val (.int (1 : Int32)), .val (.long q1), .second, .val (.long q2), .second, .val (.long q3), .second, .val (.int p4), .val (.int p5), .val (.long (own_b q1 (1 : Int32))), .second] [(.long q1), (.long ((((own_b q1 (1 : Int32)) + ((own_b q1 (4 : Int32)) * (own_b q2 (1 : Int32)))) + ((own_b q1 (5 : Int32)) * (own_b q2 (5 : Int32)))) + ((own_b q1 (6 : Int32)) * (own_b q3 (1 : Int32)))))])) _
          refine XS.bipush X113.here hx rfl (hb hby d4_64) ?_
          show Steps p.tables e below (T113.setTop (mkF m 66 #[.val (.ref a1), .val (.int (1 : Int32)), .val (.long q1), .second, .val (.long q2), .second, .val (.long q3), .second, .val (.int p4), .val (.int p5), .val (.long (own_b q1 (1 : Int32))), .second] [(.int (7 : Int32)), (.long q1), (.long ((((own_b q1 (1 : Int32)) + ((own_b q1 (4 : Int32)) * (own_b q2 (1 : Int32)))) + ((own_b q1 (5 : Int32)) * (own_b q2 (5 : Int32)))) + ((own_b q1 (6 : Int32)) * (own_b q3 (1 : Int32)))))])) _
          refine st114 _ ?_
          show Steps p.tables e below (T114.setTop (mkF m 69 #[.val (.ref a1), .val (.int (1 : Int32)), .val (.long q1), .second, .val (.long q2), .second, .val (.long q3), .second, .val (.int p4), .val (.int p5), .val (.long (own_b q1 (1 : Int32))), .second] [(.long (own_b q1 (7 : Int32))), (.long ((((own_b q1 (1 : Int32)) + ((own_b q1 (4 : Int32)) * (own_b q2 (1 : Int32)))) + ((own_b q1 (5 : Int32)) * (own_b q2 (5 : Int32)))) + ((own_b q1 (6 : Int32)) * (own_b q3 (1 : Int32)))))])) _
          refine XS.lload X114.here hx rfl (hb hby d4_69) rfl ?_
          show Steps p.tables e below (T114.setTop (mkF m 71 #[.val (.ref a1), .val (.int (1 : Int32)), .val (.long q1), .second, .val (.long q2), .second, .val (.long q3), .second, .val (.int p4), .val (.int p5), .val (.long (own_b q1 (1 : Int32))), .second] [(.long q3), (.long (own_b q1 (7 : Int32))), (.long ((((own_b q1 (1 : Int32)) + ((own_b q1 (4 : Int32)) * (own_b q2 (1 : Int32)))) + ((own_b q1 (5 : Int32)) * (own_b q2 (5 : Int32)))) + ((own_b q1 (6 : Int32)) * (own_b q3 (1 : Int32)))))])) _
          refine XS.iconst X114.here hx rfl (hb hby d4_71) ?_
          show Steps p.tables e below (T114.setTop (mkF m 72 #[.val (.ref a1), .val (.int (1 : Int32)), .val (.long q1), .second, .val (.long q2), .second, .val (.long q3), .second, .val (.int p4), .val (.int p5), .val (.long (own_b q1 (1 : Int32))), .second] [(.int (4 : Int32)), (.long q3), (.long (own_b q1 (7 : Int32))), (.long ((((own_b q1 (1 : Int32)) + ((own_b q1 (4 : Int32)) * (own_b q2 (1 : Int32)))) + ((own_b q1 (5 : Int32)) * (own_b q2 (5 : Int32)))) + ((own_b q1 (6 : Int32)) * (own_b q3 (1 : Int32)))))])) _
          refine XS.iloadN X114.here hx rfl (hb hby d4_72) rfl ?_
          show Steps p.tables e below (T114.setTop (mkF m 73 #[.val (.ref a1), .val (.int (1 : Int32)), .val (.long q1), .second, .val (.long q2), .second, .val (.long q3), .second, .val (.int p4), .val (.int p5), .val (.long (own_b q1 (1 : Int32))), .second] [(.int (1 : Int32)), (.int (4 : Int32)), (.long q3), (.long (own_b q1 (7 : Int32))), (.long ((((own_b q1 (1 : Int32)) + ((own_b q1 (4 : Int32)) * (own_b q2 (1 : Int32)))) + ((own_b q1 (5 : Int32)) * (own_b q2 (5 : Int32)))) + ((own_b q1 (6 : Int32)) * (own_b q3 (1 : Int32)))))])) _
          refine XS.iadd X114.here hx rfl (hb hby d4_73) rfl ?_
          show Steps p.tables e below (T114.setTop (mkF m 74 #[.val (.ref a1), .val (.int (1 : Int32)), .val (.long q1), .second, .val (.long q2), .second, .val (.long q3), .second, .val (.int p4), .val (.int p5), .val (.long (own_b q1 (1 : Int32))), .second] [(.int (5 : Int32)), (.long q3), (.long (own_b q1 (7 : Int32))), (.long ((((own_b q1 (1 : Int32)) + ((own_b q1 (4 : Int32)) * (own_b q2 (1 : Int32)))) + ((own_b q1 (5 : Int32)) * (own_b q2 (5 : Int32)))) + ((own_b q1 (6 : Int32)) * (own_b q3 (1 : Int32)))))])) _
          refine st115 _ ?_
          show Steps p.tables e below (T115.setTop (mkF m 77 #[.val (.ref a1), .val (.int (1 : Int32)), .val (.long q1), .second, .val (.long q2), .second, .val (.long q3), .second, .val (.int p4), .val (.int p5), .val (.long (own_b q1 (1 : Int32))), .second] [(.long (own_b q3 (5 : Int32))), (.long (own_b q1 (7 : Int32))), (.long ((((own_b q1 (1 : Int32)) + ((own_b q1 (4 : Int32)) * (own_b q2 (1 : Int32)))) + ((own_b q1 (5 : Int32)) * (own_b q2 (5 : Int32)))) + ((own_b q1 (6 : Int32)) * (own_b q3 (1 : Int32)))))])) _
          refine XS.lmul X115.here hx rfl (hb hby d4_77) rfl ?_
          show Steps p.tables e below (T115.setTop (mkF m 78 #[.val (.ref a1), .val (.int (1 : Int32)), .val (.long q1), .second, .val (.long q2), .second, .val (.long q3), .second, .val (.int p4), .val (.int p5), .val (.long (own_b q1 (1 : Int32))), .second] [(.long ((own_b q1 (7 : Int32)) * (own_b q3 (5 : Int32)))), (.long ((((own_b q1 (1 : Int32)) + ((own_b q1 (4 : Int32)) * (own_b q2 (1 : Int32)))) + ((own_b q1 (5 : Int32)) * (own_b q2 (5 : Int32)))) + ((own_b q1 (6 : Int32)) * (own_b q3 (1 : Int32)))))])) _
          refine XS.ladd X115.here hx rfl (hb hby d4_78) rfl ?_
          show Steps p.tables e below (T115.setTop (mkF m 79 #[.val (.ref a1), .val (.int (1 : Int32)), .val (.long q1), .second, .val (.long q2), .second, .val (.long q3), .second, .val (.int p4), .val (.int p5), .val (.long (own_b q1 (1 : Int32))), .second] [(.long (((((own_b q1 (1 : Int32)) + ((own_b q1 (4 : Int32)) * (own_b q2 (1 : Int32)))) + ((own_b q1 (5 : Int32)) * (own_b q2 (5 : Int32)))) + ((own_b q1 (6 : Int32)) * (own_b q3 (1 : Int32)))) + ((own_b q1 (7 : Int32)) * (own_b q3 (5 : Int32)))))])) _
          refine XS.lstore X115.here hx rfl (hb hby d4_79) rfl (l' := #[.val (.ref a1), .val (.int (1 : Int32)), .val (.long q1), .second, .val (.long q2), .second, .val (.long q3), .second, .val (.int p4), .val (.int p5), .val (.long (own_exp (own_b q1 (1 : Int32)) (own_b q1 (4 : Int32)) (own_b q2 (1 : Int32)) (own_b q1 (5 : Int32)) (own_b q2 (5 : Int32)) (own_b q1 (6 : Int32)) (own_b q3 (1 : Int32)) (own_b q1 (7 : Int32)) (own_b q3 (5 : Int32)))), .second]) rfl ?_
          show Steps p.tables e below (T115.setTop (mkF m 81 #[.val (.ref a1), .val (.int (1 : Int32)), .val (.long q1), .second, .val (.long q2), .second, .val (.long q3), .second, .val (.int p4), .val (.int p5), .val (.long (own_exp (own_b q1 (1 : Int32)) (own_b q1 (4 : Int32)) (own_b q2 (1 : Int32)) (own_b q1 (5 : Int32)) (own_b q2 (5 : Int32)) (own_b q1 (6 : Int32)) (own_b q3 (1 : Int32)) (own_b q1 (7 : Int32)) (own_b q3 (5 : Int32)))), .second] [])) _
          refine XS.aloadN X115.here hx rfl (hb hby d4_81) rfl rfl ?_
          show Steps p.tables e below (T115.setTop (mkF m 82 #[.val (.ref a1), .val (.int (1 : Int32)), .val (.long q1), .second, .val (.long q2), .second, .val (.long q3), .second, .val (.int p4), .val (.int p5), .val (.long (own_exp (own_b q1 (1 : Int32)) (own_b q1 (4 : Int32)) (own_b q2 (1 : Int32)) (own_b q1 (5 : Int32)) (own_b q2 (5 : Int32)) (own_b q1 (6 : Int32)) (own_b q3 (1 : Int32)) (own_b q1 (7 : Int32)) (own_b q3 (5 : Int32)))), .second] [(.ref a1)])) _
          refine XS.iloadN X115.here hx rfl (hb hby d4_82) rfl ?_
          show Steps p.tables e below (T115.setTop (mkF m 83 #[.val (.ref a1), .val (.int (1 : Int32)), .val (.long q1), .second, .val (.long q2), .second, .val (.long q3), .second, .val (.int p4), .val (.int p5), .val (.long (own_exp (own_b q1 (1 : Int32)) (own_b q1 (4 : Int32)) (own_b q2 (1 : Int32)) (own_b q1 (5 : Int32)) (own_b q2 (5 : Int32)) (own_b q1 (6 : Int32)) (own_b q3 (1 : Int32)) (own_b q1 (7 : Int32)) (own_b q3 (5 : Int32)))), .second] [(.int (1 : Int32)), (.ref a1)])) _
          refine X115.daload hx (j := (1 : Int32)) (v := (.double (g 1))) (by rw [e115]; exact Ar116.1) (State.isArrayOf_alike hZ.alike Ar116.2.1) Ar116.2.2 in117 at118 (g := (mkF m 83 #[.val (.ref a1), .val (.int (1 : Int32)), .val (.long q1), .second, .val (.long q2), .second, .val (.long q3), .second, .val (.int p4), .val (.int p5), .val (.long (own_exp (own_b q1 (1 : Int32)) (own_b q1 (4 : Int32)) (own_b q2 (1 : Int32)) (own_b q1 (5 : Int32)) (own_b q2 (5 : Int32)) (own_b q1 (6 : Int32)) (own_b q3 (1 : Int32)) (own_b q1 (7 : Int32)) (own_b q3 (5 : Int32)))), .second] [(.int (1 : Int32)), (.ref a1)])) rfl rfl (hb hby d4_83) _ ?_
          show Steps p.tables e below (T115.setTop (mkF m 84 #[.val (.ref a1), .val (.int (1 : Int32)), .val (.long q1), .second, .val (.long q2), .second, .val (.long q3), .second, .val (.int p4), .val (.int p5), .val (.long (own_exp (own_b q1 (1 : Int32)) (own_b q1 (4 : Int32)) (own_b q2 (1 : Int32)) (own_b q1 (5 : Int32)) (own_b q2 (5 : Int32)) (own_b q1 (6 : Int32)) (own_b q3 (1 : Int32)) (own_b q1 (7 : Int32)) (own_b q3 (5 : Int32)))), .second] [(.double (g 1))])) _
          refine XS.lload X115.here hx rfl (hb hby d4_84) rfl ?_
          show Steps p.tables e below (T115.setTop (mkF m 86 #[.val (.ref a1), .val (.int (1 : Int32)), .val (.long q1), .second, .val (.long q2), .second, .val (.long q3), .second, .val (.int p4), .val (.int p5), .val (.long (own_exp (own_b q1 (1 : Int32)) (own_b q1 (4 : Int32)) (own_b q2 (1 : Int32)) (own_b q1 (5 : Int32)) (own_b q2 (5 : Int32)) (own_b q1 (6 : Int32)) (own_b q3 (1 : Int32)) (own_b q1 (7 : Int32)) (own_b q3 (5 : Int32)))), .second] [(.long (own_exp (own_b q1 (1 : Int32)) (own_b q1 (4 : Int32)) (own_b q2 (1 : Int32)) (own_b q1 (5 : Int32)) (own_b q2 (5 : Int32)) (own_b q1 (6 : Int32)) (own_b q3 (1 : Int32)) (own_b q1 (7 : Int32)) (own_b q3 (5 : Int32)))), (.double (g 1))])) _
          refine XS.l2dS X115.here hx rfl (hb hby d4_86) rfl (v := (FP.l2d (own_exp (own_b q1 (1 : Int32)) (own_b q1 (4 : Int32)) (own_b q2 (1 : Int32)) (own_b q1 (5 : Int32)) (own_b q2 (5 : Int32)) (own_b q1 (6 : Int32)) (own_b q3 (1 : Int32)) (own_b q1 (7 : Int32)) (own_b q3 (5 : Int32))))) rfl ?_
          show Steps p.tables e below (T115.setTop (mkF m 87 #[.val (.ref a1), .val (.int (1 : Int32)), .val (.long q1), .second, .val (.long q2), .second, .val (.long q3), .second, .val (.int p4), .val (.int p5), .val (.long (own_exp (own_b q1 (1 : Int32)) (own_b q1 (4 : Int32)) (own_b q2 (1 : Int32)) (own_b q1 (5 : Int32)) (own_b q2 (5 : Int32)) (own_b q1 (6 : Int32)) (own_b q3 (1 : Int32)) (own_b q1 (7 : Int32)) (own_b q3 (5 : Int32)))), .second] [(.double (FP.l2d (own_exp (own_b q1 (1 : Int32)) (own_b q1 (4 : Int32)) (own_b q2 (1 : Int32)) (own_b q1 (5 : Int32)) (own_b q2 (5 : Int32)) (own_b q1 (6 : Int32)) (own_b q3 (1 : Int32)) (own_b q1 (7 : Int32)) (own_b q3 (5 : Int32))))), (.double (g 1))])) _
          refine XS.dcmpS X115.here hx rfl (hb hby d4_87) rfl (v := (0 : Int32)) (hin hA hB) ?_
          show Steps p.tables e below (T115.setTop (mkF m 88 #[.val (.ref a1), .val (.int (1 : Int32)), .val (.long q1), .second, .val (.long q2), .second, .val (.long q3), .second, .val (.int p4), .val (.int p5), .val (.long (own_exp (own_b q1 (1 : Int32)) (own_b q1 (4 : Int32)) (own_b q2 (1 : Int32)) (own_b q1 (5 : Int32)) (own_b q2 (5 : Int32)) (own_b q1 (6 : Int32)) (own_b q3 (1 : Int32)) (own_b q1 (7 : Int32)) (own_b q3 (5 : Int32)))), .second] [(.int (0 : Int32))])) _
          refine XS.ifNo X115.here hx rfl (hb hby d4_88) rfl ((if0 _ _).trans (teq ((by decide) : (0 : Int32) = (0 : Int32))).2) ?_
          show Steps p.tables e below (T115.setTop (mkF m 91 #[.val (.ref a1), .val (.int (1 : Int32)), .val (.long q1), .second, .val (.long q2), .second, .val (.long q3), .second, .val (.int p4), .val (.int p5), .val (.long (own_exp (own_b q1 (1 : Int32)) (own_b q1 (4 : Int32)) (own_b q2 (1 : Int32)) (own_b q1 (5 : Int32)) (own_b q2 (5 : Int32)) (own_b q1 (6 : Int32)) (own_b q3 (1 : Int32)) (own_b q1 (7 : Int32)) (own_b q3 (5 : Int32)))), .second] [])) _
          refine XS.iconst X115.here hx rfl (hb hby d4_91) ?_
          show Steps p.tables e below (T115.setTop (mkF m 92 #[.val (.ref a1), .val (.int (1 : Int32)), .val (.long q1), .second, .val (.long q2), .second, .val (.long q3), .second, .val (.int p4), .val (.int p5), .val (.long (own_exp (own_b q1 (1 : Int32)) (own_b q1 (4 : Int32)) (own_b q2 (1 : Int32)) (own_b q1 (5 : Int32)) (own_b q2 (5 : Int32)) (own_b q1 (6 : Int32)) (own_b q3 (1 : Int32)) (own_b q1 (7 : Int32)) (own_b q3 (5 : Int32)))), .second] [(.int (1 : Int32))])) _
          refine XS.goto X115.here hx rfl (pc0 := 92) (pc' := 96) rfl (hb hby d4_92) (by decide) (by decide) ?_
          exact kt)
      obtain ⟨fs, hr, hrun, hended, hW, hsame⟩ := X115.leave (v := some (.int (1 : Int32))) (fun h => by rw [Bd.returns] at h; cases h)
      refine ⟨_, _, pre119 _ ?_, hrun, hended, _, _, rfl, ?_, ⟨_, rfl⟩, hW, hsame.mono (by decide) (by decide)⟩
      · show Steps p.tables e below (T115.setTop (mkF m 96 #[.val (.ref a1), .val (.int (1 : Int32)), .val (.long q1), .second, .val (.long q2), .second, .val (.long q3), .second, .val (.int p4), .val (.int p5), .val (.long (own_exp (own_b q1 (1 : Int32)) (own_b q1 (4 : Int32)) (own_b q2 (1 : Int32)) (own_b q1 (5 : Int32)) (own_b q2 (5 : Int32)) (own_b q1 (6 : Int32)) (own_b q3 (1 : Int32)) (own_b q1 (7 : Int32)) (own_b q3 (5 : Int32)))), .second] [(.int (1 : Int32))])) _
        exact retN X115 hx (t := .boolean) Bd.returns (by simp) (hb hby d4_96) hr
      · show Qok1 Z a1 q1 q2 q3 p4 p5 g kk h0 n0 _ T115.heap _
        rw [e115]
        exact ⟨rfl, N115, rfl⟩
    · skip
      obtain ⟨cl120, Ar120, Q120, S120, M120, H120, G120⟩ := id P_V_a1
      have in121 : ¬ ((1 : Int32) < 0 ∨ cl120.slots.size ≤ ((1 : Int32)).toNatClampNeg) := inb_of S120 ⟨by decide, by decide⟩
      have at122 : cl120.slots[((1 : Int32)).toNatClampNeg]? = some (.double (g 1)) := H120 1 (by rw [S120]; decide)
      have pre123 : ∀ t_, Steps p.tables e below (T101.setTop (mkF m 96 #[.val (.ref a1), .val (.int (1 : Int32)), .val (.long q1), .second, .val (.long q2), .second, .val (.long q3), .second, .val (.int p4), .val (.int p5), .val (.long (own_b q1 (1 : Int32))), .second] [(.int (1 : Int32))])) t_ → Steps p.tables e below (s₁.setTop (entryFrame m #[(.ref a1), (.int (1 : Int32)), (.long q1), (.long q2), (.long q3), (.int p4), (.int p5)] 12)) t_ := fun t_ kt => pre107 t_ (by
          show Steps p.tables e below (T101.setTop (mkF m 16 #[.val (.ref a1), .val (.int (1 : Int32)), .val (.long q1), .second, .val (.long q2), .second, .val (.long q3), .second, .val (.int p4), .val (.int p5), .val (.long (own_b q1 (1 : Int32))), .second] [(.int p5), (.int (1 : Int32))])) _
          refine XS.icmpYes X101.here hx rfl (pc0 := 16) (pc' := 81) rfl (hb hby d4_16) rfl (flt (hB : ¬ ((1 : Int32) < p5))).2.1 (by decide) (by decide) ?_
          show Steps p.tables e below (T101.setTop (mkF m 81 #[.val (.ref a1), .val (.int (1 : Int32)), .val (.long q1), .second, .val (.long q2), .second, .val (.long q3), .second, .val (.int p4), .val (.int p5), .val (.long (own_b q1 (1 : Int32))), .second] [])) _
          refine XS.aloadN X101.here hx rfl (hb hby d4_81) rfl rfl ?_
          show Steps p.tables e below (T101.setTop (mkF m 82 #[.val (.ref a1), .val (.int (1 : Int32)), .val (.long q1), .second, .val (.long q2), .second, .val (.long q3), .second, .val (.int p4), .val (.int p5), .val (.long (own_b q1 (1 : Int32))), .second] [(.ref a1)])) _
          refine XS.iloadN X101.here hx rfl (hb hby d4_82) rfl ?_
          show Steps p.tables e below (T101.setTop (mkF m 83 #[.val (.ref a1), .val (.int (1 : Int32)), .val (.long q1), .second, .val (.long q2), .second, .val (.long q3), .second, .val (.int p4), .val (.int p5), .val (.long (own_b q1 (1 : Int32))), .second] [(.int (1 : Int32)), (.ref a1)])) _
          refine X101.daload hx (j := (1 : Int32)) (v := (.double (g 1))) (by rw [e101]; exact Ar120.1) (State.isArrayOf_alike hZ.alike Ar120.2.1) Ar120.2.2 in121 at122 (g := (mkF m 83 #[.val (.ref a1), .val (.int (1 : Int32)), .val (.long q1), .second, .val (.long q2), .second, .val (.long q3), .second, .val (.int p4), .val (.int p5), .val (.long (own_b q1 (1 : Int32))), .second] [(.int (1 : Int32)), (.ref a1)])) rfl rfl (hb hby d4_83) _ ?_
          show Steps p.tables e below (T101.setTop (mkF m 84 #[.val (.ref a1), .val (.int (1 : Int32)), .val (.long q1), .second, .val (.long q2), .second, .val (.long q3), .second, .val (.int p4), .val (.int p5), .val (.long (own_b q1 (1 : Int32))), .second] [(.double (g 1))])) _
          refine XS.lload X101.here hx rfl (hb hby d4_84) rfl ?_
          show Steps p.tables e below (T101.setTop (mkF m 86 #[.val (.ref a1), .val (.int (1 : Int32)), .val (.long q1), .second, .val (.long q2), .second, .val (.long q3), .second, .val (.int p4), .val (.int p5), .val (.long (own_b q1 (1 : Int32))), .second] [(.long (own_b q1 (1 : Int32))), (.double (g 1))])) _
          refine XS.l2dS X101.here hx rfl (hb hby d4_86) rfl (v := (FP.l2d (own_b q1 (1 : Int32)))) rfl ?_
          show Steps p.tables e below (T101.setTop (mkF m 87 #[.val (.ref a1), .val (.int (1 : Int32)), .val (.long q1), .second, .val (.long q2), .second, .val (.long q3), .second, .val (.int p4), .val (.int p5), .val (.long (own_b q1 (1 : Int32))), .second] [(.double (FP.l2d (own_b q1 (1 : Int32)))), (.double (g 1))])) _
          refine XS.dcmpS X101.here hx rfl (hb hby d4_87) rfl (v := (0 : Int32)) (hout (Or.inr hB)) ?_
          show Steps p.tables e below (T101.setTop (mkF m 88 #[.val (.ref a1), .val (.int (1 : Int32)), .val (.long q1), .second, .val (.long q2), .second, .val (.long q3), .second, .val (.int p4), .val (.int p5), .val (.long (own_b q1 (1 : Int32))), .second] [(.int (0 : Int32))])) _
          refine XS.ifNo X101.here hx rfl (hb hby d4_88) rfl ((if0 _ _).trans (teq ((by decide) : (0 : Int32) = (0 : Int32))).2) ?_
          show Steps p.tables e below (T101.setTop (mkF m 91 #[.val (.ref a1), .val (.int (1 : Int32)), .val (.long q1), .second, .val (.long q2), .second, .val (.long q3), .second, .val (.int p4), .val (.int p5), .val (.long (own_b q1 (1 : Int32))), .second] [])) _
          refine XS.iconst X101.here hx rfl (hb hby d4_91) ?_
          show Steps p.tables e below (T101.setTop (mkF m 92 #[.val (.ref a1), .val (.int (1 : Int32)), .val (.long q1), .second, .val (.long q2), .second, .val (.long q3), .second, .val (.int p4), .val (.int p5), .val (.long (own_b q1 (1 : Int32))), .second] [(.int (1 : Int32))])) _
          refine XS.goto X101.here hx rfl (pc0 := 92) (pc' := 96) rfl (hb hby d4_92) (by decide) (by decide) ?_
          exact kt)
      obtain ⟨fs, hr, hrun, hended, hW, hsame⟩ := X101.leave (v := some (.int (1 : Int32))) (fun h => by rw [Bd.returns] at h; cases h)
      refine ⟨_, _, pre123 _ ?_, hrun, hended, _, _, rfl, ?_, ⟨_, rfl⟩, hW, hsame.mono (by decide) (by decide)⟩
      · show Steps p.tables e below (T101.setTop (mkF m 96 #[.val (.ref a1), .val (.int (1 : Int32)), .val (.long q1), .second, .val (.long q2), .second, .val (.long q3), .second, .val (.int p4), .val (.int p5), .val (.long (own_b q1 (1 : Int32))), .second] [(.int (1 : Int32))])) _
        exact retN X101 hx (t := .boolean) Bd.returns (by simp) (hb hby d4_96) hr
      · show Qok1 Z a1 q1 q2 q3 p4 p5 g kk h0 n0 _ T101.heap _
        rw [e101]
        exact ⟨rfl, N101, rfl⟩
theorem ef_ok2 (m : MethodId) (a1 : Addr) (q1 : Int64) (q2 : Int64) (q3 : Int64) (p4 : Int32) (p5 : Int32) : entryFrame m #[(.ref a1), (.int (2 : Int32)), (.long q1), (.long q2), (.long q3), (.int p4), (.int p5)] 12 = mkF m 0 #[.val (.ref a1), .val (.int (2 : Int32)), .val (.long q1), .second, .val (.long q2), .second, .val (.long q3), .second, .val (.int p4), .val (.int p5), .unset, .unset] [] := by first | (simp [entryFrame, mkF, argsToLocals, Value.category]; done) | rfl
def Qok2 (Z : State) (a1 : Addr) (q1 : Int64) (q2 : Int64) (q3 : Int64) (p4 : Int32) (p5 : Int32) (g : Nat → UInt64) (kk : ClassId) (h0 : Heap) (n0 : Nat) (v : Option Value) (h : Heap) (L : List Loc) : Prop := v = some (.int (1 : Int32)) ∧ Fr n0 L ∧ h = h0
set_option maxRecDepth 65536 in
set_option maxHeartbeats 40000000 in
theorem rmok2 (l : Launch) (Z : State) (a0 : Array Value) (hw : ∀ d ∈ tables_1, d.before a0 Z = true) (ws : List Jvm.Cond) (a1 : Addr) (q1 : Int64) (q2 : Int64) (q3 : Int64) (p4 : Int32) (p5 : Int32) (g : Nat → UInt64) (kk : ClassId) (h0 : Heap) (n0 : Nat) (Z0 : n0 ≤ h0.size) (P_V_a1 : Arv Z h0 a1 kk .double (4 : Int32) (own_dv g) (.double (0 : UInt64))) (hin : ¬ ((2 : Int32) < p4) → (2 : Int32) < p5 → cmpValue (FP.dcmp (g 2) (FP.l2d (own_exp (own_b q1 (2 : Int32)) (own_b q1 (4 : Int32)) (own_b q2 (2 : Int32)) (own_b q1 (5 : Int32)) (own_b q2 (6 : Int32)) (own_b q1 (6 : Int32)) (own_b q3 (2 : Int32)) (own_b q1 (7 : Int32)) (own_b q3 (6 : Int32))))) .l = (0 : Int32)) (hout : ((2 : Int32) < p4 ∨ ¬ ((2 : Int32) < p5)) → cmpValue (FP.dcmp (g 2) (FP.l2d (own_b q1 (2 : Int32)))) .l = (0 : Int32)) :
    MetFree l (⟨"com/example/orthoform/kernel/LinearCombinationsAddProductsPinLaw", "ok", "([DIJJJII)Z"⟩ : MethodName) (head1 (Jvm.Cond.code (⟨"com/example/orthoform/kernel/LinearCombinationsAddProductsPinLaw", "ok", "([DIJJJII)Z"⟩ : MethodName) method_5_code 12 (some .boolean) :: ws) ({ frames := 1, cells := 0, slots := 0, locals := 18 } : Room)) (fun a U => a = #[(.ref a1), (.int (2 : Int32)), (.long q1), (.long q2), (.long q3), (.int p4), (.int p5)] ∧ Z.Warmed39 U.vm ∧ U.heap = h0) (fun _ _ _ _ _ => True) (fun _ U o U' => ∃ v L, o = .returned v ∧ Qok2 Z a1 q1 q2 q3 p4 p5 g kk h0 n0 v U'.heap L ∧ FrameEnd U o U' L ({ frames := 1, cells := 0, slots := 0, locals := 18 } : Room).cells ({ frames := 1, cells := 0, slots := 0, locals := 18 } : Room).slots) := by
  refine MetFree.of_bodySF (plainFor_of_name pn_com_example_orthoform_kernel_LinearCombinationsAddProductsPinLaw) hisR ?_
  intro p e s m args below meth c s₁ Bd hml0 hP hK
  obtain ⟨rfl, hZ, hh⟩ := hP
  have hx := Bd.exec
  have hby := Bd.bytes
  have hml : c.maxLocals = 12 := hml0
  have hown : s.vm.findClass "com/example/orthoform/kernel/LinearCombinationsAddProductsPinLaw" = some m.cls := findClass_of_methodNamed Bd.named
  have hnm := (name_of_methodNamed Bd.named Bd.method).1
  have X0 : Stand p l e ({ frames := 1, cells := 0, slots := 0, locals := 18 } : Room) s m #[(.ref a1), (.int (2 : Int32)), (.long q1), (.long q2), (.long q3), (.int p4), (.int p5)] below meth c s₁ [] 0 0 := Stand.of_body Bd
  have e0 : s₁.heap = h0 := by rw [← hh, Bd.state]; rfl
  have N0 := Fr.nil n0
  have pre0 : ∀ t_, Steps p.tables e below (s₁.setTop (mkF m 0 #[.val (.ref a1), .val (.int (2 : Int32)), .val (.long q1), .second, .val (.long q2), .second, .val (.long q3), .second, .val (.int p4), .val (.int p5), .unset, .unset] [])) t_ → Steps p.tables e below (s₁.setTop (entryFrame m #[(.ref a1), (.int (2 : Int32)), (.long q1), (.long q2), (.long q3), (.int p4), (.int p5)] 12)) t_ := fun t_ k => castTop (ef_ok2 m a1 q1 q2 q3 p4 p5) k
  obtain ⟨_, _, ⟨T101, L101, kk101, nn101⟩, -, X101, ⟨Lc101, hQ101, l101, y101, z101⟩, st101⟩ := Jvm.LawKit.callS X0 hx (y := (⟨"com/example/orthoform/kernel/LinearCombinationsAddProductsPinLaw", "b", "(JI)J"⟩ : MethodName)) hown (mvT hZ (hw _ (List.mem_of_getElem? (i := 5) rfl))) (mvT hZ (hw _ (List.mem_of_getElem? (i := 6) rfl))) (mvT hZ (hw _ (List.mem_of_getElem? (i := 2) rfl))) (mvT hZ (hw _ (List.mem_of_getElem? (i := 7) rfl))) (by decide) (backOf (W := 0) (rm2 l Z a0 hw [] q1 (2 : Int32) h0 n0 Z0 ) hZ (hw _ (List.mem_of_getElem? (i := 7) rfl)) (hw _ (List.mem_of_getElem? (i := 2) rfl)) (by decide) (by decide)) (g := (mkF m 2 #[.val (.ref a1), .val (.int (2 : Int32)), .val (.long q1), .second, .val (.long q2), .second, .val (.long q3), .second, .val (.int p4), .val (.int p5), .unset, .unset] [(.int (2 : Int32)), (.long q1)])) rfl (by rw [hml]; rfl) (argsL := [(.long q1), (.int (2 : Int32))]) (rest := []) (lenOf pd__28JI_29J rfl) rfl (by show 2 * 0 + _ ≤ _; exact Nat.le_of_eq rfl) (hb hby d4_2) (fun _ _ => ⟨rfl, e0, (by decide : 0 + 0 ≤ _), (by decide : 0 + 0 ≤ _)⟩)
  dsimp only [Pt.U, Pt.locs, Pt.cells, Pt.slots] at X101 l101 y101 z101 st101 hQ101
  subst l101 y101 z101
  obtain ⟨rfl, N101q, e101⟩ := hQ101
  have N101 := Fr.app N0 N101q
  have pre102 : ∀ t_, Steps p.tables e below (T101.setTop (mkF m 10 #[.val (.ref a1), .val (.int (2 : Int32)), .val (.long q1), .second, .val (.long q2), .second, .val (.long q3), .second, .val (.int p4), .val (.int p5), .val (.long (own_b q1 (2 : Int32))), .second] [(.int (2 : Int32)), (.int p4)])) t_ → Steps p.tables e below (s₁.setTop (entryFrame m #[(.ref a1), (.int (2 : Int32)), (.long q1), (.long q2), (.long q3), (.int p4), (.int p5)] 12)) t_ := fun t_ kt => pre0 t_ (by
      show Steps p.tables e below (s₁.setTop (mkF m 0 #[.val (.ref a1), .val (.int (2 : Int32)), .val (.long q1), .second, .val (.long q2), .second, .val (.long q3), .second, .val (.int p4), .val (.int p5), .unset, .unset] [])) _
      refine XS.lloadN X0.here hx rfl (hb hby d4_0) rfl ?_
      show Steps p.tables e below (s₁.setTop (mkF m 1 #[.val (.ref a1), .val (.int (2 : Int32)), .val (.long q1), .second, .val (.long q2), .second, .val (.long q3), .second, .val (.int p4), .val (.int p5), .unset, .unset] [(.long q1)])) _
      refine XS.iloadN X0.here hx rfl (hb hby d4_1) rfl ?_
      show Steps p.tables e below (s₁.setTop (mkF m 2 #[.val (.ref a1), .val (.int (2 : Int32)), .val (.long q1), .second, .val (.long q2), .second, .val (.long q3), .second, .val (.int p4), .val (.int p5), .unset, .unset] [(.int (2 : Int32)), (.long q1)])) _
      refine st101 _ ?_
      show Steps p.tables e below (T101.setTop (mkF m 5 #[.val (.ref a1), .val (.int (2 : Int32)), .val (.long q1), .second, .val (.long q2), .second, .val (.long q3), .second, .val (.int p4), .val (.int p5), .unset, .unset] [(.long (own_b q1 (2 : Int32)))])) _
      refine XS.lstore X101.here hx rfl (hb hby d4_5) rfl (l' := #[.val (.ref a1), .val (.int (2 : Int32)), .val (.long q1), .second, .val (.long q2), .second, .val (.long q3), .second, .val (.int p4), .val (.int p5), .val (.long (own_b q1 (2 : Int32))), .second]) rfl ?_
      show Steps p.tables e below (T101.setTop (mkF m 7 #[.val (.ref a1), .val (.int (2 : Int32)), .val (.long q1), .second, .val (.long q2), .second, .val (.long q3), .second, .val (.int p4), .val (.int p5), .val (.long (own_b q1 (2 : Int32))), .second] [])) _
      refine XS.iload X101.here hx rfl (hb hby d4_7) rfl ?_
      show Steps p.tables e below (T101.setTop (mkF m 9 #[.val (.ref a1), .val (.int (2 : Int32)), .val (.long q1), .second, .val (.long q2), .second, .val (.long q3), .second, .val (.int p4), .val (.int p5), .val (.long (own_b q1 (2 : Int32))), .second] [(.int p4)])) _
      refine XS.iloadN X101.here hx rfl (hb hby d4_9) rfl ?_
      exact kt)
  by_cases hA : (2 : Int32) < p4
  · skip
    obtain ⟨cl103, Ar103, Q103, S103, M103, H103, G103⟩ := id P_V_a1
    have in104 : ¬ ((2 : Int32) < 0 ∨ cl103.slots.size ≤ ((2 : Int32)).toNatClampNeg) := inb_of S103 ⟨by decide, by decide⟩
    have at105 : cl103.slots[((2 : Int32)).toNatClampNeg]? = some (.double (g 2)) := H103 2 (by rw [S103]; decide)
    have pre106 : ∀ t_, Steps p.tables e below (T101.setTop (mkF m 96 #[.val (.ref a1), .val (.int (2 : Int32)), .val (.long q1), .second, .val (.long q2), .second, .val (.long q3), .second, .val (.int p4), .val (.int p5), .val (.long (own_b q1 (2 : Int32))), .second] [(.int (1 : Int32))])) t_ → Steps p.tables e below (s₁.setTop (entryFrame m #[(.ref a1), (.int (2 : Int32)), (.long q1), (.long q2), (.long q3), (.int p4), (.int p5)] 12)) t_ := fun t_ kt => pre102 t_ (by
        show Steps p.tables e below (T101.setTop (mkF m 10 #[.val (.ref a1), .val (.int (2 : Int32)), .val (.long q1), .second, .val (.long q2), .second, .val (.long q3), .second, .val (.int p4), .val (.int p5), .val (.long (own_b q1 (2 : Int32))), .second] [(.int (2 : Int32)), (.int p4)])) _
        refine XS.icmpYes X101.here hx rfl (pc0 := 10) (pc' := 81) rfl (hb hby d4_10) rfl (tlt (hA : (2 : Int32) < p4)).2.2.1 (by decide) (by decide) ?_
        show Steps p.tables e below (T101.setTop (mkF m 81 #[.val (.ref a1), .val (.int (2 : Int32)), .val (.long q1), .second, .val (.long q2), .second, .val (.long q3), .second, .val (.int p4), .val (.int p5), .val (.long (own_b q1 (2 : Int32))), .second] [])) _
        refine XS.aloadN X101.here hx rfl (hb hby d4_81) rfl rfl ?_
        show Steps p.tables e below (T101.setTop (mkF m 82 #[.val (.ref a1), .val (.int (2 : Int32)), .val (.long q1), .second, .val (.long q2), .second, .val (.long q3), .second, .val (.int p4), .val (.int p5), .val (.long (own_b q1 (2 : Int32))), .second] [(.ref a1)])) _
        refine XS.iloadN X101.here hx rfl (hb hby d4_82) rfl ?_
        show Steps p.tables e below (T101.setTop (mkF m 83 #[.val (.ref a1), .val (.int (2 : Int32)), .val (.long q1), .second, .val (.long q2), .second, .val (.long q3), .second, .val (.int p4), .val (.int p5), .val (.long (own_b q1 (2 : Int32))), .second] [(.int (2 : Int32)), (.ref a1)])) _
        refine X101.daload hx (j := (2 : Int32)) (v := (.double (g 2))) (by rw [e101]; exact Ar103.1) (State.isArrayOf_alike hZ.alike Ar103.2.1) Ar103.2.2 in104 at105 (g := (mkF m 83 #[.val (.ref a1), .val (.int (2 : Int32)), .val (.long q1), .second, .val (.long q2), .second, .val (.long q3), .second, .val (.int p4), .val (.int p5), .val (.long (own_b q1 (2 : Int32))), .second] [(.int (2 : Int32)), (.ref a1)])) rfl rfl (hb hby d4_83) _ ?_
        show Steps p.tables e below (T101.setTop (mkF m 84 #[.val (.ref a1), .val (.int (2 : Int32)), .val (.long q1), .second, .val (.long q2), .second, .val (.long q3), .second, .val (.int p4), .val (.int p5), .val (.long (own_b q1 (2 : Int32))), .second] [(.double (g 2))])) _
        refine XS.lload X101.here hx rfl (hb hby d4_84) rfl ?_
        show Steps p.tables e below (T101.setTop (mkF m 86 #[.val (.ref a1), .val (.int (2 : Int32)), .val (.long q1), .second, .val (.long q2), .second, .val (.long q3), .second, .val (.int p4), .val (.int p5), .val (.long (own_b q1 (2 : Int32))), .second] [(.long (own_b q1 (2 : Int32))), (.double (g 2))])) _
        refine XS.l2dS X101.here hx rfl (hb hby d4_86) rfl (v := (FP.l2d (own_b q1 (2 : Int32)))) rfl ?_
        show Steps p.tables e below (T101.setTop (mkF m 87 #[.val (.ref a1), .val (.int (2 : Int32)), .val (.long q1), .second, .val (.long q2), .second, .val (.long q3), .second, .val (.int p4), .val (.int p5), .val (.long (own_b q1 (2 : Int32))), .second] [(.double (FP.l2d (own_b q1 (2 : Int32)))), (.double (g 2))])) _
        refine XS.dcmpS X101.here hx rfl (hb hby d4_87) rfl (v := (0 : Int32)) (hout (Or.inl hA)) ?_
        show Steps p.tables e below (T101.setTop (mkF m 88 #[.val (.ref a1), .val (.int (2 : Int32)), .val (.long q1), .second, .val (.long q2), .second, .val (.long q3), .second, .val (.int p4), .val (.int p5), .val (.long (own_b q1 (2 : Int32))), .second] [(.int (0 : Int32))])) _
        refine XS.ifNo X101.here hx rfl (hb hby d4_88) rfl ((if0 _ _).trans (teq ((by decide) : (0 : Int32) = (0 : Int32))).2) ?_
        show Steps p.tables e below (T101.setTop (mkF m 91 #[.val (.ref a1), .val (.int (2 : Int32)), .val (.long q1), .second, .val (.long q2), .second, .val (.long q3), .second, .val (.int p4), .val (.int p5), .val (.long (own_b q1 (2 : Int32))), .second] [])) _
        refine XS.iconst X101.here hx rfl (hb hby d4_91) ?_
        show Steps p.tables e below (T101.setTop (mkF m 92 #[.val (.ref a1), .val (.int (2 : Int32)), .val (.long q1), .second, .val (.long q2), .second, .val (.long q3), .second, .val (.int p4), .val (.int p5), .val (.long (own_b q1 (2 : Int32))), .second] [(.int (1 : Int32))])) _
        refine XS.goto X101.here hx rfl (pc0 := 92) (pc' := 96) rfl (hb hby d4_92) (by decide) (by decide) ?_
        exact kt)
    obtain ⟨fs, hr, hrun, hended, hW, hsame⟩ := X101.leave (v := some (.int (1 : Int32))) (fun h => by rw [Bd.returns] at h; cases h)
    refine ⟨_, _, pre106 _ ?_, hrun, hended, _, _, rfl, ?_, ⟨_, rfl⟩, hW, hsame.mono (by decide) (by decide)⟩
    · show Steps p.tables e below (T101.setTop (mkF m 96 #[.val (.ref a1), .val (.int (2 : Int32)), .val (.long q1), .second, .val (.long q2), .second, .val (.long q3), .second, .val (.int p4), .val (.int p5), .val (.long (own_b q1 (2 : Int32))), .second] [(.int (1 : Int32))])) _
      exact retN X101 hx (t := .boolean) Bd.returns (by simp) (hb hby d4_96) hr
    · show Qok2 Z a1 q1 q2 q3 p4 p5 g kk h0 n0 _ T101.heap _
      rw [e101]
      exact ⟨rfl, N101, rfl⟩
  · skip
    have pre107 : ∀ t_, Steps p.tables e below (T101.setTop (mkF m 16 #[.val (.ref a1), .val (.int (2 : Int32)), .val (.long q1), .second, .val (.long q2), .second, .val (.long q3), .second, .val (.int p4), .val (.int p5), .val (.long (own_b q1 (2 : Int32))), .second] [(.int p5), (.int (2 : Int32))])) t_ → Steps p.tables e below (s₁.setTop (entryFrame m #[(.ref a1), (.int (2 : Int32)), (.long q1), (.long q2), (.long q3), (.int p4), (.int p5)] 12)) t_ := fun t_ kt => pre102 t_ (by
        show Steps p.tables e below (T101.setTop (mkF m 10 #[.val (.ref a1), .val (.int (2 : Int32)), .val (.long q1), .second, .val (.long q2), .second, .val (.long q3), .second, .val (.int p4), .val (.int p5), .val (.long (own_b q1 (2 : Int32))), .second] [(.int (2 : Int32)), (.int p4)])) _
        refine XS.icmpNo X101.here hx rfl (hb hby d4_10) rfl (flt (hA : ¬ ((2 : Int32) < p4))).2.2.1 ?_
        show Steps p.tables e below (T101.setTop (mkF m 13 #[.val (.ref a1), .val (.int (2 : Int32)), .val (.long q1), .second, .val (.long q2), .second, .val (.long q3), .second, .val (.int p4), .val (.int p5), .val (.long (own_b q1 (2 : Int32))), .second] [])) _
        refine XS.iloadN X101.here hx rfl (hb hby d4_13) rfl ?_
        show Steps p.tables e below (T101.setTop (mkF m 14 #[.val (.ref a1), .val (.int (2 : Int32)), .val (.long q1), .second, .val (.long q2), .second, .val (.long q3), .second, .val (.int p4), .val (.int p5), .val (.long (own_b q1 (2 : Int32))), .second] [(.int (2 : Int32))])) _
        refine XS.iload X101.here hx rfl (hb hby d4_14) rfl ?_
        exact kt)
    by_cases hB : (2 : Int32) < p5
    · skip
      obtain ⟨_, _, ⟨T108, L108, kk108, nn108⟩, -, X108, ⟨Lc108, hQ108, l108, y108, z108⟩, st108⟩ := Jvm.LawKit.callS X101 hx (y := (⟨"com/example/orthoform/kernel/LinearCombinationsAddProductsPinLaw", "b", "(JI)J"⟩ : MethodName)) hown (mvT hZ (hw _ (List.mem_of_getElem? (i := 5) rfl))) (mvT hZ (hw _ (List.mem_of_getElem? (i := 6) rfl))) (mvT hZ (hw _ (List.mem_of_getElem? (i := 2) rfl))) (mvT hZ (hw _ (List.mem_of_getElem? (i := 7) rfl))) (by decide) (backOf (W := 2) (rm2 l Z a0 hw [] q1 (4 : Int32) h0 n0 Z0 ) hZ (hw _ (List.mem_of_getElem? (i := 7) rfl)) (hw _ (List.mem_of_getElem? (i := 2) rfl)) (by decide) (by decide)) (g := (mkF m 23 #[.val (.ref a1), .val (.int (2 : Int32)), .val (.long q1), .second, .val (.long q2), .second, .val (.long q3), .second, .val (.int p4), .val (.int p5), .val (.long (own_b q1 (2 : Int32))), .second] [(.int (4 : Int32)), (.long q1), (.long (own_b q1 (2 : Int32)))])) rfl (by rw [hml]; rfl) (argsL := [(.long q1), (.int (4 : Int32))]) (rest := [(.long (own_b q1 (2 : Int32)))]) (lenOf pd__28JI_29J rfl) rfl (by show 2 * 0 + _ ≤ _; exact Nat.le_of_eq rfl) (hb hby d4_23) (fun _ _ => ⟨rfl, e101, (by decide : 0 + 0 ≤ _), (by decide : 0 + 0 ≤ _)⟩)
      dsimp only [Pt.U, Pt.locs, Pt.cells, Pt.slots] at X108 l108 y108 z108 st108 hQ108
      subst l108 y108 z108
      obtain ⟨rfl, N108q, e108⟩ := hQ108
      have N108 := Fr.app N101 N108q
      obtain ⟨_, _, ⟨T109, L109, kk109, nn109⟩, -, X109, ⟨Lc109, hQ109, l109, y109, z109⟩, st109⟩ := Jvm.LawKit.callS X108 hx (y := (⟨"com/example/orthoform/kernel/LinearCombinationsAddProductsPinLaw", "b", "(JI)J"⟩ : MethodName)) hown (mvT hZ (hw _ (List.mem_of_getElem? (i := 5) rfl))) (mvT hZ (hw _ (List.mem_of_getElem? (i := 6) rfl))) (mvT hZ (hw _ (List.mem_of_getElem? (i := 2) rfl))) (mvT hZ (hw _ (List.mem_of_getElem? (i := 7) rfl))) (by decide) (backOf (W := 4) (rm2 l Z a0 hw [] q2 (2 : Int32) h0 n0 Z0 ) hZ (hw _ (List.mem_of_getElem? (i := 7) rfl)) (hw _ (List.mem_of_getElem? (i := 2) rfl)) (by decide) (by decide)) (g := (mkF m 29 #[.val (.ref a1), .val (.int (2 : Int32)), .val (.long q1), .second, .val (.long q2), .second, .val (.long q3), .second, .val (.int p4), .val (.int p5), .val (.long (own_b q1 (2 : Int32))), .second] [(.int (2 : Int32)), (.long q2), (.long (own_b q1 (4 : Int32))), (.long (own_b q1 (2 : Int32)))])) rfl (by rw [hml]; rfl) (argsL := [(.long q2), (.int (2 : Int32))]) (rest := [(.long (own_b q1 (4 : Int32))), (.long (own_b q1 (2 : Int32)))]) (lenOf pd__28JI_29J rfl) rfl (by show 2 * 0 + _ ≤ _; exact Nat.le_of_eq rfl) (hb hby d4_29) (fun _ _ => ⟨rfl, e108, (by decide : 0 + 0 ≤ _), (by decide : 0 + 0 ≤ _)⟩)
      dsimp only [Pt.U, Pt.locs, Pt.cells, Pt.slots] at X109 l109 y109 z109 st109 hQ109
      subst l109 y109 z109
      obtain ⟨rfl, N109q, e109⟩ := hQ109
      have N109 := Fr.app N108 N109q
      obtain ⟨_, _, ⟨T110, L110, kk110, nn110⟩, -, X110, ⟨Lc110, hQ110, l110, y110, z110⟩, st110⟩ := Jvm.LawKit.callS X109 hx (y := (⟨"com/example/orthoform/kernel/LinearCombinationsAddProductsPinLaw", "b", "(JI)J"⟩ : MethodName)) hown (mvT hZ (hw _ (List.mem_of_getElem? (i := 5) rfl))) (mvT hZ (hw _ (List.mem_of_getElem? (i := 6) rfl))) (mvT hZ (hw _ (List.mem_of_getElem? (i := 2) rfl))) (mvT hZ (hw _ (List.mem_of_getElem? (i := 7) rfl))) (by decide) (backOf (W := 2) (rm2 l Z a0 hw [] q1 (5 : Int32) h0 n0 Z0 ) hZ (hw _ (List.mem_of_getElem? (i := 7) rfl)) (hw _ (List.mem_of_getElem? (i := 2) rfl)) (by decide) (by decide)) (g := (mkF m 36 #[.val (.ref a1), .val (.int (2 : Int32)), .val (.long q1), .second, .val (.long q2), .second, .val (.long q3), .second, .val (.int p4), .val (.int p5), .val (.long (own_b q1 (2 : Int32))), .second] [(.int (5 : Int32)), (.long q1), (.long ((own_b q1 (2 : Int32)) + ((own_b q1 (4 : Int32)) * (own_b q2 (2 : Int32)))))])) rfl (by rw [hml]; rfl) (argsL := [(.long q1), (.int (5 : Int32))]) (rest := [(.long ((own_b q1 (2 : Int32)) + ((own_b q1 (4 : Int32)) * (own_b q2 (2 : Int32)))))]) (lenOf pd__28JI_29J rfl) rfl (by show 2 * 0 + _ ≤ _; exact Nat.le_of_eq rfl) (hb hby d4_36) (fun _ _ => ⟨rfl, e109, (by decide : 0 + 0 ≤ _), (by decide : 0 + 0 ≤ _)⟩)
      dsimp only [Pt.U, Pt.locs, Pt.cells, Pt.slots] at X110 l110 y110 z110 st110 hQ110
      subst l110 y110 z110
      obtain ⟨rfl, N110q, e110⟩ := hQ110
      have N110 := Fr.app N109 N110q
      obtain ⟨_, _, ⟨T111, L111, kk111, nn111⟩, -, X111, ⟨Lc111, hQ111, l111, y111, z111⟩, st111⟩ := Jvm.LawKit.callS X110 hx (y := (⟨"com/example/orthoform/kernel/LinearCombinationsAddProductsPinLaw", "b", "(JI)J"⟩ : MethodName)) hown (mvT hZ (hw _ (List.mem_of_getElem? (i := 5) rfl))) (mvT hZ (hw _ (List.mem_of_getElem? (i := 6) rfl))) (mvT hZ (hw _ (List.mem_of_getElem? (i := 2) rfl))) (mvT hZ (hw _ (List.mem_of_getElem? (i := 7) rfl))) (by decide) (backOf (W := 4) (rm2 l Z a0 hw [] q2 (6 : Int32) h0 n0 Z0 ) hZ (hw _ (List.mem_of_getElem? (i := 7) rfl)) (hw _ (List.mem_of_getElem? (i := 2) rfl)) (by decide) (by decide)) (g := (mkF m 44 #[.val (.ref a1), .val (.int (2 : Int32)), .val (.long q1), .second, .val (.long q2), .second, .val (.long q3), .second, .val (.int p4), .val (.int p5), .val (.long (own_b q1 (2 : Int32))), .second] [(.int (6 : Int32)), (.long q2), (.long (own_b q1 (5 : Int32))), (.long ((own_b q1 (2 : Int32)) + ((own_b q1 (4 : Int32)) * (own_b q2 (2 : Int32)))))])) rfl (by rw [hml]; rfl) (argsL := [(.long q2), (.int (6 : Int32))]) (rest := [(.long (own_b q1 (5 : Int32))), (.long ((own_b q1 (2 : Int32)) + ((own_b q1 (4 : Int32)) * (own_b q2 (2 : Int32)))))]) (lenOf pd__28JI_29J rfl) rfl (by show 2 * 0 + _ ≤ _; exact Nat.le_of_eq rfl) (hb hby d4_44) (fun _ _ => ⟨rfl, e110, (by decide : 0 + 0 ≤ _), (by decide : 0 + 0 ≤ _)⟩)
      dsimp only [Pt.U, Pt.locs, Pt.cells, Pt.slots] at X111 l111 y111 z111 st111 hQ111
      subst l111 y111 z111
      obtain ⟨rfl, N111q, e111⟩ := hQ111
      have N111 := Fr.app N110 N111q
      obtain ⟨_, _, ⟨T112, L112, kk112, nn112⟩, -, X112, ⟨Lc112, hQ112, l112, y112, z112⟩, st112⟩ := Jvm.LawKit.callS X111 hx (y := (⟨"com/example/orthoform/kernel/LinearCombinationsAddProductsPinLaw", "b", "(JI)J"⟩ : MethodName)) hown (mvT hZ (hw _ (List.mem_of_getElem? (i := 5) rfl))) (mvT hZ (hw _ (List.mem_of_getElem? (i := 6) rfl))) (mvT hZ (hw _ (List.mem_of_getElem? (i := 2) rfl))) (mvT hZ (hw _ (List.mem_of_getElem? (i := 7) rfl))) (by decide) (backOf (W := 2) (rm2 l Z a0 hw [] q1 (6 : Int32) h0 n0 Z0 ) hZ (hw _ (List.mem_of_getElem? (i := 7) rfl)) (hw _ (List.mem_of_getElem? (i := 2) rfl)) (by decide) (by decide)) (g := (mkF m 52 #[.val (.ref a1), .val (.int (2 : Int32)), .val (.long q1), .second, .val (.long q2), .second, .val (.long q3), .second, .val (.int p4), .val (.int p5), .val (.long (own_b q1 (2 : Int32))), .second] [(.int (6 : Int32)), (.long q1), (.long (((own_b q1 (2 : Int32)) + ((own_b q1 (4 : Int32)) * (own_b q2 (2 : Int32)))) + ((own_b q1 (5 : Int32)) * (own_b q2 (6 : Int32)))))])) rfl (by rw [hml]; rfl) (argsL := [(.long q1), (.int (6 : Int32))]) (rest := [(.long (((own_b q1 (2 : Int32)) + ((own_b q1 (4 : Int32)) * (own_b q2 (2 : Int32)))) + ((own_b q1 (5 : Int32)) * (own_b q2 (6 : Int32)))))]) (lenOf pd__28JI_29J rfl) rfl (by show 2 * 0 + _ ≤ _; exact Nat.le_of_eq rfl) (hb hby d4_52) (fun _ _ => ⟨rfl, e111, (by decide : 0 + 0 ≤ _), (by decide : 0 + 0 ≤ _)⟩)
      dsimp only [Pt.U, Pt.locs, Pt.cells, Pt.slots] at X112 l112 y112 z112 st112 hQ112
      subst l112 y112 z112
      obtain ⟨rfl, N112q, e112⟩ := hQ112
      have N112 := Fr.app N111 N112q
      obtain ⟨_, _, ⟨T113, L113, kk113, nn113⟩, -, X113, ⟨Lc113, hQ113, l113, y113, z113⟩, st113⟩ := Jvm.LawKit.callS X112 hx (y := (⟨"com/example/orthoform/kernel/LinearCombinationsAddProductsPinLaw", "b", "(JI)J"⟩ : MethodName)) hown (mvT hZ (hw _ (List.mem_of_getElem? (i := 5) rfl))) (mvT hZ (hw _ (List.mem_of_getElem? (i := 6) rfl))) (mvT hZ (hw _ (List.mem_of_getElem? (i := 2) rfl))) (mvT hZ (hw _ (List.mem_of_getElem? (i := 7) rfl))) (by decide) (backOf (W := 4) (rm2 l Z a0 hw [] q3 (2 : Int32) h0 n0 Z0 ) hZ (hw _ (List.mem_of_getElem? (i := 7) rfl)) (hw _ (List.mem_of_getElem? (i := 2) rfl)) (by decide) (by decide)) (g := (mkF m 58 #[.val (.ref a1), .val (.int (2 : Int32)), .val (.long q1), .second, .val (.long q2), .second, .val (.long q3), .second, .val (.int p4), .val (.int p5), .val (.long (own_b q1 (2 : Int32))), .second] [(.int (2 : Int32)), (.long q3), (.long (own_b q1 (6 : Int32))), (.long (((own_b q1 (2 : Int32)) + ((own_b q1 (4 : Int32)) * (own_b q2 (2 : Int32)))) + ((own_b q1 (5 : Int32)) * (own_b q2 (6 : Int32)))))])) rfl (by rw [hml]; rfl) (argsL := [(.long q3), (.int (2 : Int32))]) (rest := [(.long (own_b q1 (6 : Int32))), (.long (((own_b q1 (2 : Int32)) + ((own_b q1 (4 : Int32)) * (own_b q2 (2 : Int32)))) + ((own_b q1 (5 : Int32)) * (own_b q2 (6 : Int32)))))]) (lenOf pd__28JI_29J rfl) rfl (by show 2 * 0 + _ ≤ _; exact Nat.le_of_eq rfl) (hb hby d4_58) (fun _ _ => ⟨rfl, e112, (by decide : 0 + 0 ≤ _), (by decide : 0 + 0 ≤ _)⟩)
      dsimp only [Pt.U, Pt.locs, Pt.cells, Pt.slots] at X113 l113 y113 z113 st113 hQ113
      subst l113 y113 z113
      obtain ⟨rfl, N113q, e113⟩ := hQ113
      have N113 := Fr.app N112 N113q
      obtain ⟨_, _, ⟨T114, L114, kk114, nn114⟩, -, X114, ⟨Lc114, hQ114, l114, y114, z114⟩, st114⟩ := Jvm.LawKit.callS X113 hx (y := (⟨"com/example/orthoform/kernel/LinearCombinationsAddProductsPinLaw", "b", "(JI)J"⟩ : MethodName)) hown (mvT hZ (hw _ (List.mem_of_getElem? (i := 5) rfl))) (mvT hZ (hw _ (List.mem_of_getElem? (i := 6) rfl))) (mvT hZ (hw _ (List.mem_of_getElem? (i := 2) rfl))) (mvT hZ (hw _ (List.mem_of_getElem? (i := 7) rfl))) (by decide) (backOf (W := 2) (rm2 l Z a0 hw [] q1 (7 : Int32) h0 n0 Z0 ) hZ (hw _ (List.mem_of_getElem? (i := 7) rfl)) (hw _ (List.mem_of_getElem? (i := 2) rfl)) (by decide) (by decide)) (g := (mkF m 66 #[.val (.ref a1), .val (.int (2 : Int32)), .val (.long q1), .second, .val (.long q2), .second, .val (.long q3), .second, .val (.int p4), .val (.int p5), .val (.long (own_b q1 (2 : Int32))), .second] [(.int (7 : Int32)), (.long q1), (.long ((((own_b q1 (2 : Int32)) + ((own_b q1 (4 : Int32)) * (own_b q2 (2 : Int32)))) + ((own_b q1 (5 : Int32)) * (own_b q2 (6 : Int32)))) + ((own_b q1 (6 : Int32)) * (own_b q3 (2 : Int32)))))])) rfl (by rw [hml]; rfl) (argsL := [(.long q1), (.int (7 : Int32))]) (rest := [(.long ((((own_b q1 (2 : Int32)) + ((own_b q1 (4 : Int32)) * (own_b q2 (2 : Int32)))) + ((own_b q1 (5 : Int32)) * (own_b q2 (6 : Int32)))) + ((own_b q1 (6 : Int32)) * (own_b q3 (2 : Int32)))))]) (lenOf pd__28JI_29J rfl) rfl (by show 2 * 0 + _ ≤ _; exact Nat.le_of_eq rfl) (hb hby d4_66) (fun _ _ => ⟨rfl, e113, (by decide : 0 + 0 ≤ _), (by decide : 0 + 0 ≤ _)⟩)
      dsimp only [Pt.U, Pt.locs, Pt.cells, Pt.slots] at X114 l114 y114 z114 st114 hQ114
      subst l114 y114 z114
      obtain ⟨rfl, N114q, e114⟩ := hQ114
      have N114 := Fr.app N113 N114q
      obtain ⟨_, _, ⟨T115, L115, kk115, nn115⟩, -, X115, ⟨Lc115, hQ115, l115, y115, z115⟩, st115⟩ := Jvm.LawKit.callS X114 hx (y := (⟨"com/example/orthoform/kernel/LinearCombinationsAddProductsPinLaw", "b", "(JI)J"⟩ : MethodName)) hown (mvT hZ (hw _ (List.mem_of_getElem? (i := 5) rfl))) (mvT hZ (hw _ (List.mem_of_getElem? (i := 6) rfl))) (mvT hZ (hw _ (List.mem_of_getElem? (i := 2) rfl))) (mvT hZ (hw _ (List.mem_of_getElem? (i := 7) rfl))) (by decide) (backOf (W := 4) (rm2 l Z a0 hw [] q3 (6 : Int32) h0 n0 Z0 ) hZ (hw _ (List.mem_of_getElem? (i := 7) rfl)) (hw _ (List.mem_of_getElem? (i := 2) rfl)) (by decide) (by decide)) (g := (mkF m 74 #[.val (.ref a1), .val (.int (2 : Int32)), .val (.long q1), .second, .val (.long q2), .second, .val (.long q3), .second, .val (.int p4), .val (.int p5), .val (.long (own_b q1 (2 : Int32))), .second] [(.int (6 : Int32)), (.long q3), (.long (own_b q1 (7 : Int32))), (.long ((((own_b q1 (2 : Int32)) + ((own_b q1 (4 : Int32)) * (own_b q2 (2 : Int32)))) + ((own_b q1 (5 : Int32)) * (own_b q2 (6 : Int32)))) + ((own_b q1 (6 : Int32)) * (own_b q3 (2 : Int32)))))])) rfl (by rw [hml]; rfl) (argsL := [(.long q3), (.int (6 : Int32))]) (rest := [(.long (own_b q1 (7 : Int32))), (.long ((((own_b q1 (2 : Int32)) + ((own_b q1 (4 : Int32)) * (own_b q2 (2 : Int32)))) + ((own_b q1 (5 : Int32)) * (own_b q2 (6 : Int32)))) + ((own_b q1 (6 : Int32)) * (own_b q3 (2 : Int32)))))]) (lenOf pd__28JI_29J rfl) rfl (by show 2 * 0 + _ ≤ _; exact Nat.le_of_eq rfl) (hb hby d4_74) (fun _ _ => ⟨rfl, e114, (by decide : 0 + 0 ≤ _), (by decide : 0 + 0 ≤ _)⟩)
      dsimp only [Pt.U, Pt.locs, Pt.cells, Pt.slots] at X115 l115 y115 z115 st115 hQ115
      subst l115 y115 z115
      obtain ⟨rfl, N115q, e115⟩ := hQ115
      have N115 := Fr.app N114 N115q
      obtain ⟨cl116, Ar116, Q116, S116, M116, H116, G116⟩ := id P_V_a1
      have in117 : ¬ ((2 : Int32) < 0 ∨ cl116.slots.size ≤ ((2 : Int32)).toNatClampNeg) := inb_of S116 ⟨by decide, by decide⟩
      have at118 : cl116.slots[((2 : Int32)).toNatClampNeg]? = some (.double (g 2)) := H116 2 (by rw [S116]; decide)
      have pre119 : ∀ t_, Steps p.tables e below (T115.setTop (mkF m 96 #[.val (.ref a1), .val (.int (2 : Int32)), .val (.long q1), .second, .val (.long q2), .second, .val (.long q3), .second, .val (.int p4), .val (.int p5), .val (.long (own_exp (own_b q1 (2 : Int32)) (own_b q1 (4 : Int32)) (own_b q2 (2 : Int32)) (own_b q1 (5 : Int32)) (own_b q2 (6 : Int32)) (own_b q1 (6 : Int32)) (own_b q3 (2 : Int32)) (own_b q1 (7 : Int32)) (own_b q3 (6 : Int32)))), .second] [(.int (1 : Int32))])) t_ → Steps p.tables e below (s₁.setTop (entryFrame m #[(.ref a1), (.int (2 : Int32)), (.long q1), (.long q2), (.long q3), (.int p4), (.int p5)] 12)) t_ := fun t_ kt => pre107 t_ (by
          show Steps p.tables e below (T101.setTop (mkF m 16 #[.val (.ref a1), .val (.int (2 : Int32)), .val (.long q1), .second, .val (.long q2), .second, .val (.long q3), .second, .val (.int p4), .val (.int p5), .val (.long (own_b q1 (2 : Int32))), .second] [(.int p5), (.int (2 : Int32))])) _
          refine XS.icmpNo X101.here hx rfl (hb hby d4_16) rfl (tlt (hB : (2 : Int32) < p5)).2.1 ?_
          show Steps p.tables e below (T101.setTop (mkF m 19 #[.val (.ref a1), .val (.int (2 : Int32)), .val (.long q1), .second, .val (.long q2), .second, .val (.long q3), .second, .val (.int p4), .val (.int p5), .val (.long (own_b q1 (2 : Int32))), .second] [])) _
          refine XS.lload X101.here hx rfl (hb hby d4_19) rfl ?_
          show Steps p.tables e below (T101.setTop (mkF m 21 #[.val (.ref a1), .val (.int (2 : Int32)), .val (.long q1), .second, .val (.long q2), .second, .val (.long q3), .second, .val (.int p4), .val (.int p5), .val (.long (own_b q1 (2 : Int32))), .second] [(.long (own_b q1 (2 : Int32)))])) _
          refine XS.lloadN X101.here hx rfl (hb hby d4_21) rfl ?_
          show Steps p.tables e below (T101.setTop (mkF m 22 #[.val (.ref a1), .val (.int (2 : Int32)), .val (.long q1), .second, .val (.long q2), .second, .val (.long q3), .second, .val (.int p4), .val (.int p5), .val (.long (own_b q1 (2 : Int32))), .second] [(.long q1), (.long (own_b q1 (2 : Int32)))])) _
          refine XS.iconst X101.here hx rfl (hb hby d4_22) ?_
          show Steps p.tables e below (T101.setTop (mkF m 23 #[.val (.ref a1), .val (.int (2 : Int32)), .val (.long q1), .second, .val (.long q2), .second, .val (.long q3), .second, .val (.int p4), .val (.int p5), .val (.long (own_b q1 (2 : Int32))), .second] [(.int (4 : Int32)), (.long q1), (.long (own_b q1 (2 : Int32)))])) _
          refine st108 _ ?_
          show Steps p.tables e below (T108.setTop (mkF m 26 #[.val (.ref a1), .val (.int (2 : Int32)), .val (.long q1), .second, .val (.long q2), .second, .val (.long q3), .second, .val (.int p4), .val (.int p5), .val (.long (own_b q1 (2 : Int32))), .second] [(.long (own_b q1 (4 : Int32))), (.long (own_b q1 (2 : Int32)))])) _
          refine XS.lload X108.here hx rfl (hb hby d4_26) rfl ?_
          show Steps p.tables e below (T108.setTop (mkF m 28 #[.val (.ref a1), .val (.int (2 : Int32)), .val (.long q1), .second, .val (.long q2), .second, .val (.long q3), .second, .val (.int p4), .val (.int p5), .val (.long (own_b q1 (2 : Int32))), .second] [(.long q2), (.long (own_b q1 (4 : Int32))), (.long (own_b q1 (2 : Int32)))])) _
          refine XS.iloadN X108.here hx rfl (hb hby d4_28) rfl ?_
          show Steps p.tables e below (T108.setTop (mkF m 29 #[.val (.ref a1), .val (.int (2 : Int32)), .val (.long q1), .second, .val (.long q2), .second, .val (.long q3), .second, .val (.int p4), .val (.int p5), .val (.long (own_b q1 (2 : Int32))), .second] [(.int (2 : Int32)), (.long q2), (.long (own_b q1 (4 : Int32))), (.long (own_b q1 (2 : Int32)))])) _
          refine st109 _ ?_
          show Steps p.tables e below (T109.setTop (mkF m 32 #[.val (.ref a1), .val (.int (2 : Int32)), .val (.long q1), .second, .val (.long q2), .second, .val (.long q3), .second, .val (.int p4), .val (.int p5), .val (.long (own_b q1 (2 : Int32))), .second] [(.long (own_b q2 (2 : Int32))), (.long (own_b q1 (4 : Int32))), (.long (own_b q1 (2 : Int32)))])) _
          refine XS.lmul X109.here hx rfl (hb hby d4_32) rfl ?_
          show Steps p.tables e below (T109.setTop (mkF m 33 #[.val (.ref a1), .val (.int (2 : Int32)), .val (.long q1), .second, .val (.long q2), .second, .val (.long q3), .second, .val (.int p4), .val (.int p5), .val (.long (own_b q1 (2 : Int32))), .second] [(.long ((own_b q1 (4 : Int32)) * (own_b q2 (2 : Int32)))), (.long (own_b q1 (2 : Int32)))])) _
          refine XS.ladd X109.here hx rfl (hb hby d4_33) rfl ?_
          show Steps p.tables e below (T109.setTop (mkF m 34 #[.val (.ref a1), .val (.int (2 : Int32)), .val (.long q1), .second, .val (.long q2), .second, .val (.long q3), .second, .val (.int p4), .val (.int p5), .val (.long (own_b q1 (2 : Int32))), .second] [(.long ((own_b q1 (2 : Int32)) + ((own_b q1 (4 : Int32)) * (own_b q2 (2 : Int32)))))])) _
          refine XS.lloadN X109.here hx rfl (hb hby d4_34) rfl ?_
          show Steps p.tables e below (T109.setTop (mkF m 35 #[.val (.ref a1), .val (.int (2 : Int32)), .val (.long q1), .second, .val (.long q2), .second, .val (.long q3), .second, .val (.int p4), .val (.int p5), .val (.long (own_b q1 (2 : Int32))), .second] [(.long q1), (.long ((own_b q1 (2 : Int32)) + ((own_b q1 (4 : Int32)) * (own_b q2 (2 : Int32)))))])) _
          refine XS.iconst X109.here hx rfl (hb hby d4_35) ?_
          show Steps p.tables e below (T109.setTop (mkF m 36 #[.val (.ref a1), .val (.int (2 : Int32)), .val (.long q1), .second, .val (.long q2), .second, .val (.long q3), .second, .val (.int p4), .val (.int p5), .val (.long (own_b q1 (2 : Int32))), .second] [(.int (5 : Int32)), (.long q1), (.long ((own_b q1 (2 : Int32)) + ((own_b q1 (4 : Int32)) * (own_b q2 (2 : Int32)))))])) _
          refine st110 _ ?_
          show Steps p.tables e below (T110.setTop (mkF m 39 #[.val (.ref a1), .val (.int (2 : Int32)), .val (.long q1), .second, .val (.long q2), .second, .val (.long q3), .second, .val (.int p4), .val (.int p5), .val (.long (own_b q1 (2 : Int32))), .second] [(.long (own_b q1 (5 : Int32))), (.long ((own_b q1 (2 : Int32)) + ((own_b q1 (4 : Int32)) * (own_b q2 (2 : Int32)))))])) _
          refine XS.lload X110.here hx rfl (hb hby d4_39) rfl ?_
          show Steps p.tables e below (T110.setTop (mkF m 41 #[.val (.ref a1), .val (.int (2 : Int32)), .val (.long q1), .second, .val (.long q2), .second, .val (.long q3), .second, .val (.int p4), .val (.int p5), .val (.long (own_b q1 (2 : Int32))), .second] [(.long q2), (.long (own_b q1 (5 : Int32))), (.long ((own_b q1 (2 : Int32)) + ((own_b q1 (4 : Int32)) * (own_b q2 (2 : Int32)))))])) _
          refine XS.iconst X110.here hx rfl (hb hby d4_41) ?_
          show Steps p.tables e below (T110.setTop (mkF m 42 #[.val (.ref a1), .val (.int (2 : Int32)), .val (.long q1), .second, .val (.long q2), .second, .val (.long q3), .second, .val (.int p4), .val (.int p5), .val (.long (own_b q1 (2 : Int32))), .second] [(.int (4 : Int32)), (.long q2), (.long (own_b q1 (5 : Int32))), (.long ((own_b q1 (2 : Int32)) + ((own_b q1 (4 : Int32)) * (own_b q2 (2 : Int32)))))])) _
          refine XS.iloadN X110.here hx rfl (hb hby d4_42) rfl ?_
          show Steps p.tables e below (T110.setTop (mkF m 43 #[.val (.ref a1), .val (.int (2 : Int32)), .val (.long q1), .second, .val (.long q2), .second, .val (.long q3), .second, .val (.int p4), .val (.int p5), .val (.long (own_b q1 (2 : Int32))), .second] [(.int (2 : Int32)), (.int (4 : Int32)), (.long q2), (.long (own_b q1 (5 : Int32))), (.long ((own_b q1 (2 : Int32)) + ((own_b q1 (4 : Int32)) * (own_b q2 (2 : Int32)))))])) _
          refine XS.iadd X110.here hx rfl (hb hby d4_43) rfl ?_
          show Steps p.tables e below (T110.setTop (mkF m 44 #[.val (.ref a1), .val (.int (2 : Int32)), .val (.long q1), .second, .val (.long q2), .second, .val (.long q3), .second, .val (.int p4), .val (.int p5), .val (.long (own_b q1 (2 : Int32))), .second] [(.int (6 : Int32)), (.long q2), (.long (own_b q1 (5 : Int32))), (.long ((own_b q1 (2 : Int32)) + ((own_b q1 (4 : Int32)) * (own_b q2 (2 : Int32)))))])) _
          refine st111 _ ?_
          show Steps p.tables e below (T111.setTop (mkF m 47 #[.val (.ref a1), .val (.int (2 : Int32)), .val (.long q1), .second, .val (.long q2), .second, .val (.long q3), .second, .val (.int p4), .val (.int p5), .val (.long (own_b q1 (2 : Int32))), .second] [(.long (own_b q2 (6 : Int32))), (.long (own_b q1 (5 : Int32))), (.long ((own_b q1 (2 : Int32)) + ((own_b q1 (4 : Int32)) * (own_b q2 (2 : Int32)))))])) _
          refine XS.lmul X111.here hx rfl (hb hby d4_47) rfl ?_
          show Steps p.tables e below (T111.setTop (mkF m 48 #[.val (.ref a1), .val (.int (2 : Int32)), .val (.long q1), .second, .val (.long q2), .second, .val (.long q3), .second, .val (.int p4), .val (.int p5), .val (.long (own_b q1 (2 : Int32))), .second] [(.long ((own_b q1 (5 : Int32)) * (own_b q2 (6 : Int32)))), (.long ((own_b q1 (2 : Int32)) + ((own_b q1 (4 : Int32)) * (own_b q2 (2 : Int32)))))])) _
          refine XS.ladd X111.here hx rfl (hb hby d4_48) rfl ?_
          show Steps p.tables e below (T111.setTop (mkF m 49 #[.val (.ref a1), .val (.int (2 : Int32)), .val (.long q1), .second, .val (.long q2), .second, .val (.long q3), .second, .val (.int p4), .val (.int p5), .val (.long (own_b q1 (2 : Int32))), .second] [(.long (((own_b q1 (2 : Int32)) + ((own_b q1 (4 : Int32)) * (own_b q2 (2 : Int32)))) + ((own_b q1 (5 : Int32)) * (own_b q2 (6 : Int32)))))])) _
          refine XS.lloadN X111.here hx rfl (hb hby d4_49) rfl ?_
          show Steps p.tables e below (T111.setTop (mkF m 50 #[.val (.ref a1), .val (.int (2 : Int32)), .val (.long q1), .second, .val (.long q2), .second, .val (.long q3), .second, .val (.int p4), .val (.int p5), .val (.long (own_b q1 (2 : Int32))), .second] [(.long q1), (.long (((own_b q1 (2 : Int32)) + ((own_b q1 (4 : Int32)) * (own_b q2 (2 : Int32)))) + ((own_b q1 (5 : Int32)) * (own_b q2 (6 : Int32)))))])) _
          refine XS.bipush X111.here hx rfl (hb hby d4_50) ?_
          show Steps p.tables e below (T111.setTop (mkF m 52 #[.val (.ref a1), .val (.int (2 : Int32)), .val (.long q1), .second, .val (.long q2), .second, .val (.long q3), .second, .val (.int p4), .val (.int p5), .val (.long (own_b q1 (2 : Int32))), .second] [(.int (6 : Int32)), (.long q1), (.long (((own_b q1 (2 : Int32)) + ((own_b q1 (4 : Int32)) * (own_b q2 (2 : Int32)))) + ((own_b q1 (5 : Int32)) * (own_b q2 (6 : Int32)))))])) _
          refine st112 _ ?_
          show Steps p.tables e below (T112.setTop (mkF m 55 #[.val (.ref a1), .val (.int (2 : Int32)), .val (.long q1), .second, .val (.long q2), .second, .val (.long q3), .second, .val (.int p4), .val (.int p5), .val (.long (own_b q1 (2 : Int32))), .second] [(.long (own_b q1 (6 : Int32))), (.long (((own_b q1 (2 : Int32)) + ((own_b q1 (4 : Int32)) * (own_b q2 (2 : Int32)))) + ((own_b q1 (5 : Int32)) * (own_b q2 (6 : Int32)))))])) _
          refine XS.lload X112.here hx rfl (hb hby d4_55) rfl ?_
          show Steps p.tables e below (T112.setTop (mkF m 57 #[.val (.ref a1), .val (.int (2 : Int32)), .val (.long q1), .second, .val (.long q2), .second, .val (.long q3), .second, .val (.int p4), .val (.int p5), .val (.long (own_b q1 (2 : Int32))), .second] [(.long q3), (.long (own_b q1 (6 : Int32))), (.long (((own_b q1 (2 : Int32)) + ((own_b q1 (4 : Int32)) * (own_b q2 (2 : Int32)))) + ((own_b q1 (5 : Int32)) * (own_b q2 (6 : Int32)))))])) _
          refine XS.iloadN X112.here hx rfl (hb hby d4_57) rfl ?_
          show Steps p.tables e below (T112.setTop (mkF m 58 #[.val (.ref a1), .val (.int (2 : Int32)), .val (.long q1), .second, .val (.long q2), .second, .val (.long q3), .second, .val (.int p4), .val (.int p5), .val (.long (own_b q1 (2 : Int32))), .second] [(.int (2 : Int32)), (.long q3), (.long (own_b q1 (6 : Int32))), (.long (((own_b q1 (2 : Int32)) + ((own_b q1 (4 : Int32)) * (own_b q2 (2 : Int32)))) + ((own_b q1 (5 : Int32)) * (own_b q2 (6 : Int32)))))])) _
          refine st113 _ ?_
          show Steps p.tables e below (T113.setTop (mkF m 61 #[.val (.ref a1), .val (.int (2 : Int32)), .val (.long q1), .second, .val (.long q2), .second, .val (.long q3), .second, .val (.int p4), .val (.int p5), .val (.long (own_b q1 (2 : Int32))), .second] [(.long (own_b q3 (2 : Int32))), (.long (own_b q1 (6 : Int32))), (.long (((own_b q1 (2 : Int32)) + ((own_b q1 (4 : Int32)) * (own_b q2 (2 : Int32)))) + ((own_b q1 (5 : Int32)) * (own_b q2 (6 : Int32)))))])) _
          refine XS.lmul X113.here hx rfl (hb hby d4_61) rfl ?_
          show Steps p.tables e below (T113.setTop (mkF m 62 #[.val (.ref a1), .val (.int (2 : Int32)), .val (.long q1), .second, .val (.long q2), .second, .val (.long q3), .second, .val (.int p4), .val (.int p5), .val (.long (own_b q1 (2 : Int32))), .second] [(.long ((own_b q1 (6 : Int32)) * (own_b q3 (2 : Int32)))), (.long (((own_b q1 (2 : Int32)) + ((own_b q1 (4 : Int32)) * (own_b q2 (2 : Int32)))) + ((own_b q1 (5 : Int32)) * (own_b q2 (6 : Int32)))))])) _
          refine XS.ladd X113.here hx rfl (hb hby d4_62) rfl ?_
          show Steps p.tables e below (T113.setTop (mkF m 63 #[.val (.ref a1), .val (.int (2 : Int32)), .val (.long q1), .second, .val (.long q2), .second, .val (.long q3), .second, .val (.int p4), .val (.int p5), .val (.long (own_b q1 (2 : Int32))), .second] [(.long ((((own_b q1 (2 : Int32)) + ((own_b q1 (4 : Int32)) * (own_b q2 (2 : Int32)))) + ((own_b q1 (5 : Int32)) * (own_b q2 (6 : Int32)))) + ((own_b q1 (6 : Int32)) * (own_b q3 (2 : Int32)))))])) _
          refine XS.lloadN X113.here hx rfl (hb hby d4_63) rfl ?_
          show Steps p.tables e below (T113.setTop (mkF m 64 #[.val (.ref a1), .val (.int (2 : Int32)), .val (.long q1), .second, .val (.long q2), .second, .val (.long q3), .second, .val (.int p4), .val (.int p5), .val (.long (own_b q1 (2 : Int32))), .second] [(.long q1), (.long ((((own_b q1 (2 : Int32)) + ((own_b q1 (4 : Int32)) * (own_b q2 (2 : Int32)))) + ((own_b q1 (5 : Int32)) * (own_b q2 (6 : Int32)))) + ((own_b q1 (6 : Int32)) * (own_b q3 (2 : Int32)))))])) _
          refine XS.bipush X113.here hx rfl (hb hby d4_64) ?_
          show Steps p.tables e below (T113.setTop (mkF m 66 #[.val (.ref a1), .val (.int (2 : Int32)), .val (.long q1), .second, .val (.long q2), .second, .val (.long q3), .second, .val (.int p4), .val (.int p5), .val (.long (own_b q1 (2 : Int32))), .second] [(.int (7 : Int32)), (.long q1), (.long ((((own_b q1 (2 : Int32)) + ((own_b q1 (4 : Int32)) * (own_b q2 (2 : Int32)))) + ((own_b q1 (5 : Int32)) * (own_b q2 (6 : Int32)))) + ((own_b q1 (6 : Int32)) * (own_b q3 (2 : Int32)))))])) _
          refine st114 _ ?_
          show Steps p.tables e below (T114.setTop (mkF m 69 #[.val (.ref a1), .val (.int (2 : Int32)), .val (.long q1), .second, .val (.long q2), .second, .val (.long q3), .second, .val (.int p4), .val (.int p5), .val (.long (own_b q1 (2 : Int32))), .second] [(.long (own_b q1 (7 : Int32))), (.long ((((own_b q1 (2 : Int32)) + ((own_b q1 (4 : Int32)) * (own_b q2 (2 : Int32)))) + ((own_b q1 (5 : Int32)) * (own_b q2 (6 : Int32)))) + ((own_b q1 (6 : Int32)) * (own_b q3 (2 : Int32)))))])) _
          refine XS.lload X114.here hx rfl (hb hby d4_69) rfl ?_
          show Steps p.tables e below (T114.setTop (mkF m 71 #[.val (.ref a1), .val (.int (2 : Int32)), .val (.long q1), .second, .val (.long q2), .second, .val (.long q3), .second, .val (.int p4), .val (.int p5), .val (.long (own_b q1 (2 : Int32))), .second] [(.long q3), (.long (own_b q1 (7 : Int32))), (.long ((((own_b q1 (2 : Int32)) + ((own_b q1 (4 : Int32)) * (own_b q2 (2 : Int32)))) + ((own_b q1 (5 : Int32)) * (own_b q2 (6 : Int32)))) + ((own_b q1 (6 : Int32)) * (own_b q3 (2 : Int32)))))])) _
          refine XS.iconst X114.here hx rfl (hb hby d4_71) ?_
          show Steps p.tables e below (T114.setTop (mkF m 72 #[.val (.ref a1), .val (.int (2 : Int32)), .val (.long q1), .second, .val (.long q2), .second, .val (.long q3), .second, .val (.int p4), .val (.int p5), .val (.long (own_b q1 (2 : Int32))), .second] [(.int (4 : Int32)), (.long q3), (.long (own_b q1 (7 : Int32))), (.long ((((own_b q1 (2 : Int32)) + ((own_b q1 (4 : Int32)) * (own_b q2 (2 : Int32)))) + ((own_b q1 (5 : Int32)) * (own_b q2 (6 : Int32)))) + ((own_b q1 (6 : Int32)) * (own_b q3 (2 : Int32)))))])) _
          refine XS.iloadN X114.here hx rfl (hb hby d4_72) rfl ?_
          show Steps p.tables e below (T114.setTop (mkF m 73 #[.val (.ref a1), .val (.int (2 : Int32)), .val (.long q1), .second, .val (.long q2), .second, .val (.long q3), .second, .val (.int p4), .val (.int p5), .val (.long (own_b q1 (2 : Int32))), .second] [(.int (2 : Int32)), (.int (4 : Int32)), (.long q3), (.long (own_b q1 (7 : Int32))), (.long ((((own_b q1 (2 : Int32)) + ((own_b q1 (4 : Int32)) * (own_b q2 (2 : Int32)))) + ((own_b q1 (5 : Int32)) * (own_b q2 (6 : Int32)))) + ((own_b q1 (6 : Int32)) * (own_b q3 (2 : Int32)))))])) _
          refine XS.iadd X114.here hx rfl (hb hby d4_73) rfl ?_
          show Steps p.tables e below (T114.setTop (mkF m 74 #[.val (.ref a1), .val (.int (2 : Int32)), .val (.long q1), .second, .val (.long q2), .second, .val (.long q3), .second, .val (.int p4), .val (.int p5), .val (.long (own_b q1 (2 : Int32))), .second] [(.int (6 : Int32)), (.long q3), (.long (own_b q1 (7 : Int32))), (.long ((((own_b q1 (2 : Int32)) + ((own_b q1 (4 : Int32)) * (own_b q2 (2 : Int32)))) + ((own_b q1 (5 : Int32)) * (own_b q2 (6 : Int32)))) + ((own_b q1 (6 : Int32)) * (own_b q3 (2 : Int32)))))])) _
          refine st115 _ ?_
          show Steps p.tables e below (T115.setTop (mkF m 77 #[.val (.ref a1), .val (.int (2 : Int32)), .val (.long q1), .second, .val (.long q2), .second, .val (.long q3), .second, .val (.int p4), .val (.int p5), .val (.long (own_b q1 (2 : Int32))), .second] [(.long (own_b q3 (6 : Int32))), (.long (own_b q1 (7 : Int32))), (.long ((((own_b q1 (2 : Int32)) + ((own_b q1 (4 : Int32)) * (own_b q2 (2 : Int32)))) + ((own_b q1 (5 : Int32)) * (own_b q2 (6 : Int32)))) + ((own_b q1 (6 : Int32)) * (own_b q3 (2 : Int32)))))])) _
          refine XS.lmul X115.here hx rfl (hb hby d4_77) rfl ?_
          show Steps p.tables e below (T115.setTop (mkF m 78 #[.val (.ref a1), .val (.int (2 : Int32)), .val (.long q1), .second, .val (.long q2), .second, .val (.long q3), .second, .val (.int p4), .val (.int p5), .val (.long (own_b q1 (2 : Int32))), .second] [(.long ((own_b q1 (7 : Int32)) * (own_b q3 (6 : Int32)))), (.long ((((own_b q1 (2 : Int32)) + ((own_b q1 (4 : Int32)) * (own_b q2 (2 : Int32)))) + ((own_b q1 (5 : Int32)) * (own_b q2 (6 : Int32)))) + ((own_b q1 (6 : Int32)) * (own_b q3 (2 : Int32)))))])) _
          refine XS.ladd X115.here hx rfl (hb hby d4_78) rfl ?_
          show Steps p.tables e below (T115.setTop (mkF m 79 #[.val (.ref a1), .val (.int (2 : Int32)), .val (.long q1), .second, .val (.long q2), .second, .val (.long q3), .second, .val (.int p4), .val (.int p5), .val (.long (own_b q1 (2 : Int32))), .second] [(.long (((((own_b q1 (2 : Int32)) + ((own_b q1 (4 : Int32)) * (own_b q2 (2 : Int32)))) + ((own_b q1 (5 : Int32)) * (own_b q2 (6 : Int32)))) + ((own_b q1 (6 : Int32)) * (own_b q3 (2 : Int32)))) + ((own_b q1 (7 : Int32)) * (own_b q3 (6 : Int32)))))])) _
          refine XS.lstore X115.here hx rfl (hb hby d4_79) rfl (l' := #[.val (.ref a1), .val (.int (2 : Int32)), .val (.long q1), .second, .val (.long q2), .second, .val (.long q3), .second, .val (.int p4), .val (.int p5), .val (.long (own_exp (own_b q1 (2 : Int32)) (own_b q1 (4 : Int32)) (own_b q2 (2 : Int32)) (own_b q1 (5 : Int32)) (own_b q2 (6 : Int32)) (own_b q1 (6 : Int32)) (own_b q3 (2 : Int32)) (own_b q1 (7 : Int32)) (own_b q3 (6 : Int32)))), .second]) rfl ?_
          show Steps p.tables e below (T115.setTop (mkF m 81 #[.val (.ref a1), .val (.int (2 : Int32)), .val (.long q1), .second, .val (.long q2), .second, .val (.long q3), .second, .val (.int p4), .val (.int p5), .val (.long (own_exp (own_b q1 (2 : Int32)) (own_b q1 (4 : Int32)) (own_b q2 (2 : Int32)) (own_b q1 (5 : Int32)) (own_b q2 (6 : Int32)) (own_b q1 (6 : Int32)) (own_b q3 (2 : Int32)) (own_b q1 (7 : Int32)) (own_b q3 (6 : Int32)))), .second] [])) _
          refine XS.aloadN X115.here hx rfl (hb hby d4_81) rfl rfl ?_
          show Steps p.tables e below (T115.setTop (mkF m 82 #[.val (.ref a1), .val (.int (2 : Int32)), .val (.long q1), .second, .val (.long q2), .second, .val (.long q3), .second, .val (.int p4), .val (.int p5), .val (.long (own_exp (own_b q1 (2 : Int32)) (own_b q1 (4 : Int32)) (own_b q2 (2 : Int32)) (own_b q1 (5 : Int32)) (own_b q2 (6 : Int32)) (own_b q1 (6 : Int32)) (own_b q3 (2 : Int32)) (own_b q1 (7 : Int32)) (own_b q3 (6 : Int32)))), .second] [(.ref a1)])) _
          refine XS.iloadN X115.here hx rfl (hb hby d4_82) rfl ?_
          show Steps p.tables e below (T115.setTop (mkF m 83 #[.val (.ref a1), .val (.int (2 : Int32)), .val (.long q1), .second, .val (.long q2), .second, .val (.long q3), .second, .val (.int p4), .val (.int p5), .val (.long (own_exp (own_b q1 (2 : Int32)) (own_b q1 (4 : Int32)) (own_b q2 (2 : Int32)) (own_b q1 (5 : Int32)) (own_b q2 (6 : Int32)) (own_b q1 (6 : Int32)) (own_b q3 (2 : Int32)) (own_b q1 (7 : Int32)) (own_b q3 (6 : Int32)))), .second] [(.int (2 : Int32)), (.ref a1)])) _
          refine X115.daload hx (j := (2 : Int32)) (v := (.double (g 2))) (by rw [e115]; exact Ar116.1) (State.isArrayOf_alike hZ.alike Ar116.2.1) Ar116.2.2 in117 at118 (g := (mkF m 83 #[.val (.ref a1), .val (.int (2 : Int32)), .val (.long q1), .second, .val (.long q2), .second, .val (.long q3), .second, .val (.int p4), .val (.int p5), .val (.long (own_exp (own_b q1 (2 : Int32)) (own_b q1 (4 : Int32)) (own_b q2 (2 : Int32)) (own_b q1 (5 : Int32)) (own_b q2 (6 : Int32)) (own_b q1 (6 : Int32)) (own_b q3 (2 : Int32)) (own_b q1 (7 : Int32)) (own_b q3 (6 : Int32)))), .second] [(.int (2 : Int32)), (.ref a1)])) rfl rfl (hb hby d4_83) _ ?_
          show Steps p.tables e below (T115.setTop (mkF m 84 #[.val (.ref a1), .val (.int (2 : Int32)), .val (.long q1), .second, .val (.long q2), .second, .val (.long q3), .second, .val (.int p4), .val (.int p5), .val (.long (own_exp (own_b q1 (2 : Int32)) (own_b q1 (4 : Int32)) (own_b q2 (2 : Int32)) (own_b q1 (5 : Int32)) (own_b q2 (6 : Int32)) (own_b q1 (6 : Int32)) (own_b q3 (2 : Int32)) (own_b q1 (7 : Int32)) (own_b q3 (6 : Int32)))), .second] [(.double (g 2))])) _
          refine XS.lload X115.here hx rfl (hb hby d4_84) rfl ?_
          show Steps p.tables e below (T115.setTop (mkF m 86 #[.val (.ref a1), .val (.int (2 : Int32)), .val (.long q1), .second, .val (.long q2), .second, .val (.long q3), .second, .val (.int p4), .val (.int p5), .val (.long (own_exp (own_b q1 (2 : Int32)) (own_b q1 (4 : Int32)) (own_b q2 (2 : Int32)) (own_b q1 (5 : Int32)) (own_b q2 (6 : Int32)) (own_b q1 (6 : Int32)) (own_b q3 (2 : Int32)) (own_b q1 (7 : Int32)) (own_b q3 (6 : Int32)))), .second] [(.long (own_exp (own_b q1 (2 : Int32)) (own_b q1 (4 : Int32)) (own_b q2 (2 : Int32)) (own_b q1 (5 : Int32)) (own_b q2 (6 : Int32)) (own_b q1 (6 : Int32)) (own_b q3 (2 : Int32)) (own_b q1 (7 : Int32)) (own_b q3 (6 : Int32)))), (.double (g 2))])) _
          refine XS.l2dS X115.here hx rfl (hb hby d4_86) rfl (v := (FP.l2d (own_exp (own_b q1 (2 : Int32)) (own_b q1 (4 : Int32)) (own_b q2 (2 : Int32)) (own_b q1 (5 : Int32)) (own_b q2 (6 : Int32)) (own_b q1 (6 : Int32)) (own_b q3 (2 : Int32)) (own_b q1 (7 : Int32)) (own_b q3 (6 : Int32))))) rfl ?_
          show Steps p.tables e below (T115.setTop (mkF m 87 #[.val (.ref a1), .val (.int (2 : Int32)), .val (.long q1), .second, .val (.long q2), .second, .val (.long q3), .second, .val (.int p4), .val (.int p5), .val (.long (own_exp (own_b q1 (2 : Int32)) (own_b q1 (4 : Int32)) (own_b q2 (2 : Int32)) (own_b q1 (5 : Int32)) (own_b q2 (6 : Int32)) (own_b q1 (6 : Int32)) (own_b q3 (2 : Int32)) (own_b q1 (7 : Int32)) (own_b q3 (6 : Int32)))), .second] [(.double (FP.l2d (own_exp (own_b q1 (2 : Int32)) (own_b q1 (4 : Int32)) (own_b q2 (2 : Int32)) (own_b q1 (5 : Int32)) (own_b q2 (6 : Int32)) (own_b q1 (6 : Int32)) (own_b q3 (2 : Int32)) (own_b q1 (7 : Int32)) (own_b q3 (6 : Int32))))), (.double (g 2))])) _
          refine XS.dcmpS X115.here hx rfl (hb hby d4_87) rfl (v := (0 : Int32)) (hin hA hB) ?_
          show Steps p.tables e below (T115.setTop (mkF m 88 #[.val (.ref a1), .val (.int (2 : Int32)), .val (.long q1), .second, .val (.long q2), .second, .val (.long q3), .second, .val (.int p4), .val (.int p5), .val (.long (own_exp (own_b q1 (2 : Int32)) (own_b q1 (4 : Int32)) (own_b q2 (2 : Int32)) (own_b q1 (5 : Int32)) (own_b q2 (6 : Int32)) (own_b q1 (6 : Int32)) (own_b q3 (2 : Int32)) (own_b q1 (7 : Int32)) (own_b q3 (6 : Int32)))), .second] [(.int (0 : Int32))])) _
          refine XS.ifNo X115.here hx rfl (hb hby d4_88) rfl ((if0 _ _).trans (teq ((by decide) : (0 : Int32) = (0 : Int32))).2) ?_
          show Steps p.tables e below (T115.setTop (mkF m 91 #[.val (.ref a1), .val (.int (2 : Int32)), .val (.long q1), .second, .val (.long q2), .second, .val (.long q3), .second, .val (.int p4), .val (.int p5), .val (.long (own_exp (own_b q1 (2 : Int32)) (own_b q1 (4 : Int32)) (own_b q2 (2 : Int32)) (own_b q1 (5 : Int32)) (own_b q2 (6 : Int32)) (own_b q1 (6 : Int32)) (own_b q3 (2 : Int32)) (own_b q1 (7 : Int32)) (own_b q3 (6 : Int32)))), .second] [])) _
          refine XS.iconst X115.here hx rfl (hb hby d4_91) ?_
          show Steps p.tables e below (T115.setTop (mkF m 92 #[.val (.ref a1), .val (.int (2 : Int32)), .val (.long q1), .second, .val (.long q2), .second, .val (.long q3), .second, .val (.int p4), .val (.int p5), .val (.long (own_exp (own_b q1 (2 : Int32)) (own_b q1 (4 : Int32)) (own_b q2 (2 : Int32)) (own_b q1 (5 : Int32)) (own_b q2 (6 : Int32)) (own_b q1 (6 : Int32)) (own_b q3 (2 : Int32)) (own_b q1 (7 : Int32)) (own_b q3 (6 : Int32)))), .second] [(.int (1 : Int32))])) _
          refine XS.goto X115.here hx rfl (pc0 := 92) (pc' := 96) rfl (hb hby d4_92) (by decide) (by decide) ?_
          exact kt)
      obtain ⟨fs, hr, hrun, hended, hW, hsame⟩ := X115.leave (v := some (.int (1 : Int32))) (fun h => by rw [Bd.returns] at h; cases h)
      refine ⟨_, _, pre119 _ ?_, hrun, hended, _, _, rfl, ?_, ⟨_, rfl⟩, hW, hsame.mono (by decide) (by decide)⟩
      · show Steps p.tables e below (T115.setTop (mkF m 96 #[.val (.ref a1), .val (.int (2 : Int32)), .val (.long q1), .second, .val (.long q2), .second, .val (.long q3), .second, .val (.int p4), .val (.int p5), .val (.long (own_exp (own_b q1 (2 : Int32)) (own_b q1 (4 : Int32)) (own_b q2 (2 : Int32)) (own_b q1 (5 : Int32)) (own_b q2 (6 : Int32)) (own_b q1 (6 : Int32)) (own_b q3 (2 : Int32)) (own_b q1 (7 : Int32)) (own_b q3 (6 : Int32)))), .second] [(.int (1 : Int32))])) _
        exact retN X115 hx (t := .boolean) Bd.returns (by simp) (hb hby d4_96) hr
      · show Qok2 Z a1 q1 q2 q3 p4 p5 g kk h0 n0 _ T115.heap _
        rw [e115]
        exact ⟨rfl, N115, rfl⟩
    · skip
      obtain ⟨cl120, Ar120, Q120, S120, M120, H120, G120⟩ := id P_V_a1
      have in121 : ¬ ((2 : Int32) < 0 ∨ cl120.slots.size ≤ ((2 : Int32)).toNatClampNeg) := inb_of S120 ⟨by decide, by decide⟩
      have at122 : cl120.slots[((2 : Int32)).toNatClampNeg]? = some (.double (g 2)) := H120 2 (by rw [S120]; decide)
      have pre123 : ∀ t_, Steps p.tables e below (T101.setTop (mkF m 96 #[.val (.ref a1), .val (.int (2 : Int32)), .val (.long q1), .second, .val (.long q2), .second, .val (.long q3), .second, .val (.int p4), .val (.int p5), .val (.long (own_b q1 (2 : Int32))), .second] [(.int (1 : Int32))])) t_ → Steps p.tables e below (s₁.setTop (entryFrame m #[(.ref a1), (.int (2 : Int32)), (.long q1), (.long q2), (.long q3), (.int p4), (.int p5)] 12)) t_ := fun t_ kt => pre107 t_ (by
          show Steps p.tables e below (T101.setTop (mkF m 16 #[.val (.ref a1), .val (.int (2 : Int32)), .val (.long q1), .second, .val (.long q2), .second, .val (.long q3), .second, .val (.int p4), .val (.int p5), .val (.long (own_b q1 (2 : Int32))), .second] [(.int p5), (.int (2 : Int32))])) _
          refine XS.icmpYes X101.here hx rfl (pc0 := 16) (pc' := 81) rfl (hb hby d4_16) rfl (flt (hB : ¬ ((2 : Int32) < p5))).2.1 (by decide) (by decide) ?_
          show Steps p.tables e below (T101.setTop (mkF m 81 #[.val (.ref a1), .val (.int (2 : Int32)), .val (.long q1), .second, .val (.long q2), .second, .val (.long q3), .second, .val (.int p4), .val (.int p5), .val (.long (own_b q1 (2 : Int32))), .second] [])) _
          refine XS.aloadN X101.here hx rfl (hb hby d4_81) rfl rfl ?_
          show Steps p.tables e below (T101.setTop (mkF m 82 #[.val (.ref a1), .val (.int (2 : Int32)), .val (.long q1), .second, .val (.long q2), .second, .val (.long q3), .second, .val (.int p4), .val (.int p5), .val (.long (own_b q1 (2 : Int32))), .second] [(.ref a1)])) _
          refine XS.iloadN X101.here hx rfl (hb hby d4_82) rfl ?_
          show Steps p.tables e below (T101.setTop (mkF m 83 #[.val (.ref a1), .val (.int (2 : Int32)), .val (.long q1), .second, .val (.long q2), .second, .val (.long q3), .second, .val (.int p4), .val (.int p5), .val (.long (own_b q1 (2 : Int32))), .second] [(.int (2 : Int32)), (.ref a1)])) _
          refine X101.daload hx (j := (2 : Int32)) (v := (.double (g 2))) (by rw [e101]; exact Ar120.1) (State.isArrayOf_alike hZ.alike Ar120.2.1) Ar120.2.2 in121 at122 (g := (mkF m 83 #[.val (.ref a1), .val (.int (2 : Int32)), .val (.long q1), .second, .val (.long q2), .second, .val (.long q3), .second, .val (.int p4), .val (.int p5), .val (.long (own_b q1 (2 : Int32))), .second] [(.int (2 : Int32)), (.ref a1)])) rfl rfl (hb hby d4_83) _ ?_
          show Steps p.tables e below (T101.setTop (mkF m 84 #[.val (.ref a1), .val (.int (2 : Int32)), .val (.long q1), .second, .val (.long q2), .second, .val (.long q3), .second, .val (.int p4), .val (.int p5), .val (.long (own_b q1 (2 : Int32))), .second] [(.double (g 2))])) _
          refine XS.lload X101.here hx rfl (hb hby d4_84) rfl ?_
          show Steps p.tables e below (T101.setTop (mkF m 86 #[.val (.ref a1), .val (.int (2 : Int32)), .val (.long q1), .second, .val (.long q2), .second, .val (.long q3), .second, .val (.int p4), .val (.int p5), .val (.long (own_b q1 (2 : Int32))), .second] [(.long (own_b q1 (2 : Int32))), (.double (g 2))])) _
          refine XS.l2dS X101.here hx rfl (hb hby d4_86) rfl (v := (FP.l2d (own_b q1 (2 : Int32)))) rfl ?_
          show Steps p.tables e below (T101.setTop (mkF m 87 #[.val (.ref a1), .val (.int (2 : Int32)), .val (.long q1), .second, .val (.long q2), .second, .val (.long q3), .second, .val (.int p4), .val (.int p5), .val (.long (own_b q1 (2 : Int32))), .second] [(.double (FP.l2d (own_b q1 (2 : Int32)))), (.double (g 2))])) _
          refine XS.dcmpS X101.here hx rfl (hb hby d4_87) rfl (v := (0 : Int32)) (hout (Or.inr hB)) ?_
          show Steps p.tables e below (T101.setTop (mkF m 88 #[.val (.ref a1), .val (.int (2 : Int32)), .val (.long q1), .second, .val (.long q2), .second, .val (.long q3), .second, .val (.int p4), .val (.int p5), .val (.long (own_b q1 (2 : Int32))), .second] [(.int (0 : Int32))])) _
          refine XS.ifNo X101.here hx rfl (hb hby d4_88) rfl ((if0 _ _).trans (teq ((by decide) : (0 : Int32) = (0 : Int32))).2) ?_
          show Steps p.tables e below (T101.setTop (mkF m 91 #[.val (.ref a1), .val (.int (2 : Int32)), .val (.long q1), .second, .val (.long q2), .second, .val (.long q3), .second, .val (.int p4), .val (.int p5), .val (.long (own_b q1 (2 : Int32))), .second] [])) _
          refine XS.iconst X101.here hx rfl (hb hby d4_91) ?_
          show Steps p.tables e below (T101.setTop (mkF m 92 #[.val (.ref a1), .val (.int (2 : Int32)), .val (.long q1), .second, .val (.long q2), .second, .val (.long q3), .second, .val (.int p4), .val (.int p5), .val (.long (own_b q1 (2 : Int32))), .second] [(.int (1 : Int32))])) _
          refine XS.goto X101.here hx rfl (pc0 := 92) (pc' := 96) rfl (hb hby d4_92) (by decide) (by decide) ?_
          exact kt)
      obtain ⟨fs, hr, hrun, hended, hW, hsame⟩ := X101.leave (v := some (.int (1 : Int32))) (fun h => by rw [Bd.returns] at h; cases h)
      refine ⟨_, _, pre123 _ ?_, hrun, hended, _, _, rfl, ?_, ⟨_, rfl⟩, hW, hsame.mono (by decide) (by decide)⟩
      · show Steps p.tables e below (T101.setTop (mkF m 96 #[.val (.ref a1), .val (.int (2 : Int32)), .val (.long q1), .second, .val (.long q2), .second, .val (.long q3), .second, .val (.int p4), .val (.int p5), .val (.long (own_b q1 (2 : Int32))), .second] [(.int (1 : Int32))])) _
        exact retN X101 hx (t := .boolean) Bd.returns (by simp) (hb hby d4_96) hr
      · show Qok2 Z a1 q1 q2 q3 p4 p5 g kk h0 n0 _ T101.heap _
        rw [e101]
        exact ⟨rfl, N101, rfl⟩
theorem ef_ok3 (m : MethodId) (a1 : Addr) (q1 : Int64) (q2 : Int64) (q3 : Int64) (p4 : Int32) (p5 : Int32) : entryFrame m #[(.ref a1), (.int (3 : Int32)), (.long q1), (.long q2), (.long q3), (.int p4), (.int p5)] 12 = mkF m 0 #[.val (.ref a1), .val (.int (3 : Int32)), .val (.long q1), .second, .val (.long q2), .second, .val (.long q3), .second, .val (.int p4), .val (.int p5), .unset, .unset] [] := by first | (simp [entryFrame, mkF, argsToLocals, Value.category]; done) | rfl
def Qok3 (Z : State) (a1 : Addr) (q1 : Int64) (q2 : Int64) (q3 : Int64) (p4 : Int32) (p5 : Int32) (g : Nat → UInt64) (kk : ClassId) (h0 : Heap) (n0 : Nat) (v : Option Value) (h : Heap) (L : List Loc) : Prop := v = some (.int (1 : Int32)) ∧ Fr n0 L ∧ h = h0
set_option maxRecDepth 65536 in
set_option maxHeartbeats 40000000 in
theorem rmok3 (l : Launch) (Z : State) (a0 : Array Value) (hw : ∀ d ∈ tables_1, d.before a0 Z = true) (ws : List Jvm.Cond) (a1 : Addr) (q1 : Int64) (q2 : Int64) (q3 : Int64) (p4 : Int32) (p5 : Int32) (g : Nat → UInt64) (kk : ClassId) (h0 : Heap) (n0 : Nat) (Z0 : n0 ≤ h0.size) (P_V_a1 : Arv Z h0 a1 kk .double (4 : Int32) (own_dv g) (.double (0 : UInt64))) (hin : ¬ ((3 : Int32) < p4) → (3 : Int32) < p5 → cmpValue (FP.dcmp (g 3) (FP.l2d (own_exp (own_b q1 (3 : Int32)) (own_b q1 (4 : Int32)) (own_b q2 (3 : Int32)) (own_b q1 (5 : Int32)) (own_b q2 (7 : Int32)) (own_b q1 (6 : Int32)) (own_b q3 (3 : Int32)) (own_b q1 (7 : Int32)) (own_b q3 (7 : Int32))))) .l = (0 : Int32)) (hout : ((3 : Int32) < p4 ∨ ¬ ((3 : Int32) < p5)) → cmpValue (FP.dcmp (g 3) (FP.l2d (own_b q1 (3 : Int32)))) .l = (0 : Int32)) :
    MetFree l (⟨"com/example/orthoform/kernel/LinearCombinationsAddProductsPinLaw", "ok", "([DIJJJII)Z"⟩ : MethodName) (head1 (Jvm.Cond.code (⟨"com/example/orthoform/kernel/LinearCombinationsAddProductsPinLaw", "ok", "([DIJJJII)Z"⟩ : MethodName) method_5_code 12 (some .boolean) :: ws) ({ frames := 1, cells := 0, slots := 0, locals := 18 } : Room)) (fun a U => a = #[(.ref a1), (.int (3 : Int32)), (.long q1), (.long q2), (.long q3), (.int p4), (.int p5)] ∧ Z.Warmed39 U.vm ∧ U.heap = h0) (fun _ _ _ _ _ => True) (fun _ U o U' => ∃ v L, o = .returned v ∧ Qok3 Z a1 q1 q2 q3 p4 p5 g kk h0 n0 v U'.heap L ∧ FrameEnd U o U' L ({ frames := 1, cells := 0, slots := 0, locals := 18 } : Room).cells ({ frames := 1, cells := 0, slots := 0, locals := 18 } : Room).slots) := by
  refine MetFree.of_bodySF (plainFor_of_name pn_com_example_orthoform_kernel_LinearCombinationsAddProductsPinLaw) hisR ?_
  intro p e s m args below meth c s₁ Bd hml0 hP hK
  obtain ⟨rfl, hZ, hh⟩ := hP
  have hx := Bd.exec
  have hby := Bd.bytes
  have hml : c.maxLocals = 12 := hml0
  have hown : s.vm.findClass "com/example/orthoform/kernel/LinearCombinationsAddProductsPinLaw" = some m.cls := findClass_of_methodNamed Bd.named
  have hnm := (name_of_methodNamed Bd.named Bd.method).1
  have X0 : Stand p l e ({ frames := 1, cells := 0, slots := 0, locals := 18 } : Room) s m #[(.ref a1), (.int (3 : Int32)), (.long q1), (.long q2), (.long q3), (.int p4), (.int p5)] below meth c s₁ [] 0 0 := Stand.of_body Bd
  have e0 : s₁.heap = h0 := by rw [← hh, Bd.state]; rfl
  have N0 := Fr.nil n0
  have pre0 : ∀ t_, Steps p.tables e below (s₁.setTop (mkF m 0 #[.val (.ref a1), .val (.int (3 : Int32)), .val (.long q1), .second, .val (.long q2), .second, .val (.long q3), .second, .val (.int p4), .val (.int p5), .unset, .unset] [])) t_ → Steps p.tables e below (s₁.setTop (entryFrame m #[(.ref a1), (.int (3 : Int32)), (.long q1), (.long q2), (.long q3), (.int p4), (.int p5)] 12)) t_ := fun t_ k => castTop (ef_ok3 m a1 q1 q2 q3 p4 p5) k
  obtain ⟨_, _, ⟨T101, L101, kk101, nn101⟩, -, X101, ⟨Lc101, hQ101, l101, y101, z101⟩, st101⟩ := Jvm.LawKit.callS X0 hx (y := (⟨"com/example/orthoform/kernel/LinearCombinationsAddProductsPinLaw", "b", "(JI)J"⟩ : MethodName)) hown (mvT hZ (hw _ (List.mem_of_getElem? (i := 5) rfl))) (mvT hZ (hw _ (List.mem_of_getElem? (i := 6) rfl))) (mvT hZ (hw _ (List.mem_of_getElem? (i := 2) rfl))) (mvT hZ (hw _ (List.mem_of_getElem? (i := 7) rfl))) (by decide) (backOf (W := 0) (rm2 l Z a0 hw [] q1 (3 : Int32) h0 n0 Z0 ) hZ (hw _ (List.mem_of_getElem? (i := 7) rfl)) (hw _ (List.mem_of_getElem? (i := 2) rfl)) (by decide) (by decide)) (g := (mkF m 2 #[.val (.ref a1), .val (.int (3 : Int32)), .val (.long q1), .second, .val (.long q2), .second, .val (.long q3), .second, .val (.int p4), .val (.int p5), .unset, .unset] [(.int (3 : Int32)), (.long q1)])) rfl (by rw [hml]; rfl) (argsL := [(.long q1), (.int (3 : Int32))]) (rest := []) (lenOf pd__28JI_29J rfl) rfl (by show 2 * 0 + _ ≤ _; exact Nat.le_of_eq rfl) (hb hby d4_2) (fun _ _ => ⟨rfl, e0, (by decide : 0 + 0 ≤ _), (by decide : 0 + 0 ≤ _)⟩)
  dsimp only [Pt.U, Pt.locs, Pt.cells, Pt.slots] at X101 l101 y101 z101 st101 hQ101
  subst l101 y101 z101
  obtain ⟨rfl, N101q, e101⟩ := hQ101
  have N101 := Fr.app N0 N101q
  have pre102 : ∀ t_, Steps p.tables e below (T101.setTop (mkF m 10 #[.val (.ref a1), .val (.int (3 : Int32)), .val (.long q1), .second, .val (.long q2), .second, .val (.long q3), .second, .val (.int p4), .val (.int p5), .val (.long (own_b q1 (3 : Int32))), .second] [(.int (3 : Int32)), (.int p4)])) t_ → Steps p.tables e below (s₁.setTop (entryFrame m #[(.ref a1), (.int (3 : Int32)), (.long q1), (.long q2), (.long q3), (.int p4), (.int p5)] 12)) t_ := fun t_ kt => pre0 t_ (by
      show Steps p.tables e below (s₁.setTop (mkF m 0 #[.val (.ref a1), .val (.int (3 : Int32)), .val (.long q1), .second, .val (.long q2), .second, .val (.long q3), .second, .val (.int p4), .val (.int p5), .unset, .unset] [])) _
      refine XS.lloadN X0.here hx rfl (hb hby d4_0) rfl ?_
      show Steps p.tables e below (s₁.setTop (mkF m 1 #[.val (.ref a1), .val (.int (3 : Int32)), .val (.long q1), .second, .val (.long q2), .second, .val (.long q3), .second, .val (.int p4), .val (.int p5), .unset, .unset] [(.long q1)])) _
      refine XS.iloadN X0.here hx rfl (hb hby d4_1) rfl ?_
      show Steps p.tables e below (s₁.setTop (mkF m 2 #[.val (.ref a1), .val (.int (3 : Int32)), .val (.long q1), .second, .val (.long q2), .second, .val (.long q3), .second, .val (.int p4), .val (.int p5), .unset, .unset] [(.int (3 : Int32)), (.long q1)])) _
      refine st101 _ ?_
      show Steps p.tables e below (T101.setTop (mkF m 5 #[.val (.ref a1), .val (.int (3 : Int32)), .val (.long q1), .second, .val (.long q2), .second, .val (.long q3), .second, .val (.int p4), .val (.int p5), .unset, .unset] [(.long (own_b q1 (3 : Int32)))])) _
      refine XS.lstore X101.here hx rfl (hb hby d4_5) rfl (l' := #[.val (.ref a1), .val (.int (3 : Int32)), .val (.long q1), .second, .val (.long q2), .second, .val (.long q3), .second, .val (.int p4), .val (.int p5), .val (.long (own_b q1 (3 : Int32))), .second]) rfl ?_
      show Steps p.tables e below (T101.setTop (mkF m 7 #[.val (.ref a1), .val (.int (3 : Int32)), .val (.long q1), .second, .val (.long q2), .second, .val (.long q3), .second, .val (.int p4), .val (.int p5), .val (.long (own_b q1 (3 : Int32))), .second] [])) _
      refine XS.iload X101.here hx rfl (hb hby d4_7) rfl ?_
      show Steps p.tables e below (T101.setTop (mkF m 9 #[.val (.ref a1), .val (.int (3 : Int32)), .val (.long q1), .second, .val (.long q2), .second, .val (.long q3), .second, .val (.int p4), .val (.int p5), .val (.long (own_b q1 (3 : Int32))), .second] [(.int p4)])) _
      refine XS.iloadN X101.here hx rfl (hb hby d4_9) rfl ?_
      exact kt)
  by_cases hA : (3 : Int32) < p4
  · skip
    obtain ⟨cl103, Ar103, Q103, S103, M103, H103, G103⟩ := id P_V_a1
    have in104 : ¬ ((3 : Int32) < 0 ∨ cl103.slots.size ≤ ((3 : Int32)).toNatClampNeg) := inb_of S103 ⟨by decide, by decide⟩
    have at105 : cl103.slots[((3 : Int32)).toNatClampNeg]? = some (.double (g 3)) := H103 3 (by rw [S103]; decide)
    have pre106 : ∀ t_, Steps p.tables e below (T101.setTop (mkF m 96 #[.val (.ref a1), .val (.int (3 : Int32)), .val (.long q1), .second, .val (.long q2), .second, .val (.long q3), .second, .val (.int p4), .val (.int p5), .val (.long (own_b q1 (3 : Int32))), .second] [(.int (1 : Int32))])) t_ → Steps p.tables e below (s₁.setTop (entryFrame m #[(.ref a1), (.int (3 : Int32)), (.long q1), (.long q2), (.long q3), (.int p4), (.int p5)] 12)) t_ := fun t_ kt => pre102 t_ (by
        show Steps p.tables e below (T101.setTop (mkF m 10 #[.val (.ref a1), .val (.int (3 : Int32)), .val (.long q1), .second, .val (.long q2), .second, .val (.long q3), .second, .val (.int p4), .val (.int p5), .val (.long (own_b q1 (3 : Int32))), .second] [(.int (3 : Int32)), (.int p4)])) _
        refine XS.icmpYes X101.here hx rfl (pc0 := 10) (pc' := 81) rfl (hb hby d4_10) rfl (tlt (hA : (3 : Int32) < p4)).2.2.1 (by decide) (by decide) ?_
        show Steps p.tables e below (T101.setTop (mkF m 81 #[.val (.ref a1), .val (.int (3 : Int32)), .val (.long q1), .second, .val (.long q2), .second, .val (.long q3), .second, .val (.int p4), .val (.int p5), .val (.long (own_b q1 (3 : Int32))), .second] [])) _
        refine XS.aloadN X101.here hx rfl (hb hby d4_81) rfl rfl ?_
        show Steps p.tables e below (T101.setTop (mkF m 82 #[.val (.ref a1), .val (.int (3 : Int32)), .val (.long q1), .second, .val (.long q2), .second, .val (.long q3), .second, .val (.int p4), .val (.int p5), .val (.long (own_b q1 (3 : Int32))), .second] [(.ref a1)])) _
        refine XS.iloadN X101.here hx rfl (hb hby d4_82) rfl ?_
        show Steps p.tables e below (T101.setTop (mkF m 83 #[.val (.ref a1), .val (.int (3 : Int32)), .val (.long q1), .second, .val (.long q2), .second, .val (.long q3), .second, .val (.int p4), .val (.int p5), .val (.long (own_b q1 (3 : Int32))), .second] [(.int (3 : Int32)), (.ref a1)])) _
        refine X101.daload hx (j := (3 : Int32)) (v := (.double (g 3))) (by rw [e101]; exact Ar103.1) (State.isArrayOf_alike hZ.alike Ar103.2.1) Ar103.2.2 in104 at105 (g := (mkF m 83 #[.val (.ref a1), .val (.int (3 : Int32)), .val (.long q1), .second, .val (.long q2), .second, .val (.long q3), .second, .val (.int p4), .val (.int p5), .val (.long (own_b q1 (3 : Int32))), .second] [(.int (3 : Int32)), (.ref a1)])) rfl rfl (hb hby d4_83) _ ?_
        show Steps p.tables e below (T101.setTop (mkF m 84 #[.val (.ref a1), .val (.int (3 : Int32)), .val (.long q1), .second, .val (.long q2), .second, .val (.long q3), .second, .val (.int p4), .val (.int p5), .val (.long (own_b q1 (3 : Int32))), .second] [(.double (g 3))])) _
        refine XS.lload X101.here hx rfl (hb hby d4_84) rfl ?_
        show Steps p.tables e below (T101.setTop (mkF m 86 #[.val (.ref a1), .val (.int (3 : Int32)), .val (.long q1), .second, .val (.long q2), .second, .val (.long q3), .second, .val (.int p4), .val (.int p5), .val (.long (own_b q1 (3 : Int32))), .second] [(.long (own_b q1 (3 : Int32))), (.double (g 3))])) _
        refine XS.l2dS X101.here hx rfl (hb hby d4_86) rfl (v := (FP.l2d (own_b q1 (3 : Int32)))) rfl ?_
        show Steps p.tables e below (T101.setTop (mkF m 87 #[.val (.ref a1), .val (.int (3 : Int32)), .val (.long q1), .second, .val (.long q2), .second, .val (.long q3), .second, .val (.int p4), .val (.int p5), .val (.long (own_b q1 (3 : Int32))), .second] [(.double (FP.l2d (own_b q1 (3 : Int32)))), (.double (g 3))])) _
        refine XS.dcmpS X101.here hx rfl (hb hby d4_87) rfl (v := (0 : Int32)) (hout (Or.inl hA)) ?_
        show Steps p.tables e below (T101.setTop (mkF m 88 #[.val (.ref a1), .val (.int (3 : Int32)), .val (.long q1), .second, .val (.long q2), .second, .val (.long q3), .second, .val (.int p4), .val (.int p5), .val (.long (own_b q1 (3 : Int32))), .second] [(.int (0 : Int32))])) _
        refine XS.ifNo X101.here hx rfl (hb hby d4_88) rfl ((if0 _ _).trans (teq ((by decide) : (0 : Int32) = (0 : Int32))).2) ?_
        show Steps p.tables e below (T101.setTop (mkF m 91 #[.val (.ref a1), .val (.int (3 : Int32)), .val (.long q1), .second, .val (.long q2), .second, .val (.long q3), .second, .val (.int p4), .val (.int p5), .val (.long (own_b q1 (3 : Int32))), .second] [])) _
        refine XS.iconst X101.here hx rfl (hb hby d4_91) ?_
        show Steps p.tables e below (T101.setTop (mkF m 92 #[.val (.ref a1), .val (.int (3 : Int32)), .val (.long q1), .second, .val (.long q2), .second, .val (.long q3), .second, .val (.int p4), .val (.int p5), .val (.long (own_b q1 (3 : Int32))), .second] [(.int (1 : Int32))])) _
        refine XS.goto X101.here hx rfl (pc0 := 92) (pc' := 96) rfl (hb hby d4_92) (by decide) (by decide) ?_
        exact kt)
    obtain ⟨fs, hr, hrun, hended, hW, hsame⟩ := X101.leave (v := some (.int (1 : Int32))) (fun h => by rw [Bd.returns] at h; cases h)
    refine ⟨_, _, pre106 _ ?_, hrun, hended, _, _, rfl, ?_, ⟨_, rfl⟩, hW, hsame.mono (by decide) (by decide)⟩
    · show Steps p.tables e below (T101.setTop (mkF m 96 #[.val (.ref a1), .val (.int (3 : Int32)), .val (.long q1), .second, .val (.long q2), .second, .val (.long q3), .second, .val (.int p4), .val (.int p5), .val (.long (own_b q1 (3 : Int32))), .second] [(.int (1 : Int32))])) _
      exact retN X101 hx (t := .boolean) Bd.returns (by simp) (hb hby d4_96) hr
    · show Qok3 Z a1 q1 q2 q3 p4 p5 g kk h0 n0 _ T101.heap _
      rw [e101]
      exact ⟨rfl, N101, rfl⟩
  · skip
    have pre107 : ∀ t_, Steps p.tables e below (T101.setTop (mkF m 16 #[.val (.ref a1), .val (.int (3 : Int32)), .val (.long q1), .second, .val (.long q2), .second, .val (.long q3), .second, .val (.int p4), .val (.int p5), .val (.long (own_b q1 (3 : Int32))), .second] [(.int p5), (.int (3 : Int32))])) t_ → Steps p.tables e below (s₁.setTop (entryFrame m #[(.ref a1), (.int (3 : Int32)), (.long q1), (.long q2), (.long q3), (.int p4), (.int p5)] 12)) t_ := fun t_ kt => pre102 t_ (by
        show Steps p.tables e below (T101.setTop (mkF m 10 #[.val (.ref a1), .val (.int (3 : Int32)), .val (.long q1), .second, .val (.long q2), .second, .val (.long q3), .second, .val (.int p4), .val (.int p5), .val (.long (own_b q1 (3 : Int32))), .second] [(.int (3 : Int32)), (.int p4)])) _
        refine XS.icmpNo X101.here hx rfl (hb hby d4_10) rfl (flt (hA : ¬ ((3 : Int32) < p4))).2.2.1 ?_
        show Steps p.tables e below (T101.setTop (mkF m 13 #[.val (.ref a1), .val (.int (3 : Int32)), .val (.long q1), .second, .val (.long q2), .second, .val (.long q3), .second, .val (.int p4), .val (.int p5), .val (.long (own_b q1 (3 : Int32))), .second] [])) _
        refine XS.iloadN X101.here hx rfl (hb hby d4_13) rfl ?_
        show Steps p.tables e below (T101.setTop (mkF m 14 #[.val (.ref a1), .val (.int (3 : Int32)), .val (.long q1), .second, .val (.long q2), .second, .val (.long q3), .second, .val (.int p4), .val (.int p5), .val (.long (own_b q1 (3 : Int32))), .second] [(.int (3 : Int32))])) _
        refine XS.iload X101.here hx rfl (hb hby d4_14) rfl ?_
        exact kt)
    by_cases hB : (3 : Int32) < p5
    · skip
      obtain ⟨_, _, ⟨T108, L108, kk108, nn108⟩, -, X108, ⟨Lc108, hQ108, l108, y108, z108⟩, st108⟩ := Jvm.LawKit.callS X101 hx (y := (⟨"com/example/orthoform/kernel/LinearCombinationsAddProductsPinLaw", "b", "(JI)J"⟩ : MethodName)) hown (mvT hZ (hw _ (List.mem_of_getElem? (i := 5) rfl))) (mvT hZ (hw _ (List.mem_of_getElem? (i := 6) rfl))) (mvT hZ (hw _ (List.mem_of_getElem? (i := 2) rfl))) (mvT hZ (hw _ (List.mem_of_getElem? (i := 7) rfl))) (by decide) (backOf (W := 2) (rm2 l Z a0 hw [] q1 (4 : Int32) h0 n0 Z0 ) hZ (hw _ (List.mem_of_getElem? (i := 7) rfl)) (hw _ (List.mem_of_getElem? (i := 2) rfl)) (by decide) (by decide)) (g := (mkF m 23 #[.val (.ref a1), .val (.int (3 : Int32)), .val (.long q1), .second, .val (.long q2), .second, .val (.long q3), .second, .val (.int p4), .val (.int p5), .val (.long (own_b q1 (3 : Int32))), .second] [(.int (4 : Int32)), (.long q1), (.long (own_b q1 (3 : Int32)))])) rfl (by rw [hml]; rfl) (argsL := [(.long q1), (.int (4 : Int32))]) (rest := [(.long (own_b q1 (3 : Int32)))]) (lenOf pd__28JI_29J rfl) rfl (by show 2 * 0 + _ ≤ _; exact Nat.le_of_eq rfl) (hb hby d4_23) (fun _ _ => ⟨rfl, e101, (by decide : 0 + 0 ≤ _), (by decide : 0 + 0 ≤ _)⟩)
      dsimp only [Pt.U, Pt.locs, Pt.cells, Pt.slots] at X108 l108 y108 z108 st108 hQ108
      subst l108 y108 z108
      obtain ⟨rfl, N108q, e108⟩ := hQ108
      have N108 := Fr.app N101 N108q
      obtain ⟨_, _, ⟨T109, L109, kk109, nn109⟩, -, X109, ⟨Lc109, hQ109, l109, y109, z109⟩, st109⟩ := Jvm.LawKit.callS X108 hx (y := (⟨"com/example/orthoform/kernel/LinearCombinationsAddProductsPinLaw", "b", "(JI)J"⟩ : MethodName)) hown (mvT hZ (hw _ (List.mem_of_getElem? (i := 5) rfl))) (mvT hZ (hw _ (List.mem_of_getElem? (i := 6) rfl))) (mvT hZ (hw _ (List.mem_of_getElem? (i := 2) rfl))) (mvT hZ (hw _ (List.mem_of_getElem? (i := 7) rfl))) (by decide) (backOf (W := 4) (rm2 l Z a0 hw [] q2 (3 : Int32) h0 n0 Z0 ) hZ (hw _ (List.mem_of_getElem? (i := 7) rfl)) (hw _ (List.mem_of_getElem? (i := 2) rfl)) (by decide) (by decide)) (g := (mkF m 29 #[.val (.ref a1), .val (.int (3 : Int32)), .val (.long q1), .second, .val (.long q2), .second, .val (.long q3), .second, .val (.int p4), .val (.int p5), .val (.long (own_b q1 (3 : Int32))), .second] [(.int (3 : Int32)), (.long q2), (.long (own_b q1 (4 : Int32))), (.long (own_b q1 (3 : Int32)))])) rfl (by rw [hml]; rfl) (argsL := [(.long q2), (.int (3 : Int32))]) (rest := [(.long (own_b q1 (4 : Int32))), (.long (own_b q1 (3 : Int32)))]) (lenOf pd__28JI_29J rfl) rfl (by show 2 * 0 + _ ≤ _; exact Nat.le_of_eq rfl) (hb hby d4_29) (fun _ _ => ⟨rfl, e108, (by decide : 0 + 0 ≤ _), (by decide : 0 + 0 ≤ _)⟩)
      dsimp only [Pt.U, Pt.locs, Pt.cells, Pt.slots] at X109 l109 y109 z109 st109 hQ109
      subst l109 y109 z109
      obtain ⟨rfl, N109q, e109⟩ := hQ109
      have N109 := Fr.app N108 N109q
      obtain ⟨_, _, ⟨T110, L110, kk110, nn110⟩, -, X110, ⟨Lc110, hQ110, l110, y110, z110⟩, st110⟩ := Jvm.LawKit.callS X109 hx (y := (⟨"com/example/orthoform/kernel/LinearCombinationsAddProductsPinLaw", "b", "(JI)J"⟩ : MethodName)) hown (mvT hZ (hw _ (List.mem_of_getElem? (i := 5) rfl))) (mvT hZ (hw _ (List.mem_of_getElem? (i := 6) rfl))) (mvT hZ (hw _ (List.mem_of_getElem? (i := 2) rfl))) (mvT hZ (hw _ (List.mem_of_getElem? (i := 7) rfl))) (by decide) (backOf (W := 2) (rm2 l Z a0 hw [] q1 (5 : Int32) h0 n0 Z0 ) hZ (hw _ (List.mem_of_getElem? (i := 7) rfl)) (hw _ (List.mem_of_getElem? (i := 2) rfl)) (by decide) (by decide)) (g := (mkF m 36 #[.val (.ref a1), .val (.int (3 : Int32)), .val (.long q1), .second, .val (.long q2), .second, .val (.long q3), .second, .val (.int p4), .val (.int p5), .val (.long (own_b q1 (3 : Int32))), .second] [(.int (5 : Int32)), (.long q1), (.long ((own_b q1 (3 : Int32)) + ((own_b q1 (4 : Int32)) * (own_b q2 (3 : Int32)))))])) rfl (by rw [hml]; rfl) (argsL := [(.long q1), (.int (5 : Int32))]) (rest := [(.long ((own_b q1 (3 : Int32)) + ((own_b q1 (4 : Int32)) * (own_b q2 (3 : Int32)))))]) (lenOf pd__28JI_29J rfl) rfl (by show 2 * 0 + _ ≤ _; exact Nat.le_of_eq rfl) (hb hby d4_36) (fun _ _ => ⟨rfl, e109, (by decide : 0 + 0 ≤ _), (by decide : 0 + 0 ≤ _)⟩)
      dsimp only [Pt.U, Pt.locs, Pt.cells, Pt.slots] at X110 l110 y110 z110 st110 hQ110
      subst l110 y110 z110
      obtain ⟨rfl, N110q, e110⟩ := hQ110
      have N110 := Fr.app N109 N110q
      obtain ⟨_, _, ⟨T111, L111, kk111, nn111⟩, -, X111, ⟨Lc111, hQ111, l111, y111, z111⟩, st111⟩ := Jvm.LawKit.callS X110 hx (y := (⟨"com/example/orthoform/kernel/LinearCombinationsAddProductsPinLaw", "b", "(JI)J"⟩ : MethodName)) hown (mvT hZ (hw _ (List.mem_of_getElem? (i := 5) rfl))) (mvT hZ (hw _ (List.mem_of_getElem? (i := 6) rfl))) (mvT hZ (hw _ (List.mem_of_getElem? (i := 2) rfl))) (mvT hZ (hw _ (List.mem_of_getElem? (i := 7) rfl))) (by decide) (backOf (W := 4) (rm2 l Z a0 hw [] q2 (7 : Int32) h0 n0 Z0 ) hZ (hw _ (List.mem_of_getElem? (i := 7) rfl)) (hw _ (List.mem_of_getElem? (i := 2) rfl)) (by decide) (by decide)) (g := (mkF m 44 #[.val (.ref a1), .val (.int (3 : Int32)), .val (.long q1), .second, .val (.long q2), .second, .val (.long q3), .second, .val (.int p4), .val (.int p5), .val (.long (own_b q1 (3 : Int32))), .second] [(.int (7 : Int32)), (.long q2), (.long (own_b q1 (5 : Int32))), (.long ((own_b q1 (3 : Int32)) + ((own_b q1 (4 : Int32)) * (own_b q2 (3 : Int32)))))])) rfl (by rw [hml]; rfl) (argsL := [(.long q2), (.int (7 : Int32))]) (rest := [(.long (own_b q1 (5 : Int32))), (.long ((own_b q1 (3 : Int32)) + ((own_b q1 (4 : Int32)) * (own_b q2 (3 : Int32)))))]) (lenOf pd__28JI_29J rfl) rfl (by show 2 * 0 + _ ≤ _; exact Nat.le_of_eq rfl) (hb hby d4_44) (fun _ _ => ⟨rfl, e110, (by decide : 0 + 0 ≤ _), (by decide : 0 + 0 ≤ _)⟩)
      dsimp only [Pt.U, Pt.locs, Pt.cells, Pt.slots] at X111 l111 y111 z111 st111 hQ111
      subst l111 y111 z111
      obtain ⟨rfl, N111q, e111⟩ := hQ111
      have N111 := Fr.app N110 N111q
      obtain ⟨_, _, ⟨T112, L112, kk112, nn112⟩, -, X112, ⟨Lc112, hQ112, l112, y112, z112⟩, st112⟩ := Jvm.LawKit.callS X111 hx (y := (⟨"com/example/orthoform/kernel/LinearCombinationsAddProductsPinLaw", "b", "(JI)J"⟩ : MethodName)) hown (mvT hZ (hw _ (List.mem_of_getElem? (i := 5) rfl))) (mvT hZ (hw _ (List.mem_of_getElem? (i := 6) rfl))) (mvT hZ (hw _ (List.mem_of_getElem? (i := 2) rfl))) (mvT hZ (hw _ (List.mem_of_getElem? (i := 7) rfl))) (by decide) (backOf (W := 2) (rm2 l Z a0 hw [] q1 (6 : Int32) h0 n0 Z0 ) hZ (hw _ (List.mem_of_getElem? (i := 7) rfl)) (hw _ (List.mem_of_getElem? (i := 2) rfl)) (by decide) (by decide)) (g := (mkF m 52 #[.val (.ref a1), .val (.int (3 : Int32)), .val (.long q1), .second, .val (.long q2), .second, .val (.long q3), .second, .val (.int p4), .val (.int p5), .val (.long (own_b q1 (3 : Int32))), .second] [(.int (6 : Int32)), (.long q1), (.long (((own_b q1 (3 : Int32)) + ((own_b q1 (4 : Int32)) * (own_b q2 (3 : Int32)))) + ((own_b q1 (5 : Int32)) * (own_b q2 (7 : Int32)))))])) rfl (by rw [hml]; rfl) (argsL := [(.long q1), (.int (6 : Int32))]) (rest := [(.long (((own_b q1 (3 : Int32)) + ((own_b q1 (4 : Int32)) * (own_b q2 (3 : Int32)))) + ((own_b q1 (5 : Int32)) * (own_b q2 (7 : Int32)))))]) (lenOf pd__28JI_29J rfl) rfl (by show 2 * 0 + _ ≤ _; exact Nat.le_of_eq rfl) (hb hby d4_52) (fun _ _ => ⟨rfl, e111, (by decide : 0 + 0 ≤ _), (by decide : 0 + 0 ≤ _)⟩)
      dsimp only [Pt.U, Pt.locs, Pt.cells, Pt.slots] at X112 l112 y112 z112 st112 hQ112
      subst l112 y112 z112
      obtain ⟨rfl, N112q, e112⟩ := hQ112
      have N112 := Fr.app N111 N112q
      obtain ⟨_, _, ⟨T113, L113, kk113, nn113⟩, -, X113, ⟨Lc113, hQ113, l113, y113, z113⟩, st113⟩ := Jvm.LawKit.callS X112 hx (y := (⟨"com/example/orthoform/kernel/LinearCombinationsAddProductsPinLaw", "b", "(JI)J"⟩ : MethodName)) hown (mvT hZ (hw _ (List.mem_of_getElem? (i := 5) rfl))) (mvT hZ (hw _ (List.mem_of_getElem? (i := 6) rfl))) (mvT hZ (hw _ (List.mem_of_getElem? (i := 2) rfl))) (mvT hZ (hw _ (List.mem_of_getElem? (i := 7) rfl))) (by decide) (backOf (W := 4) (rm2 l Z a0 hw [] q3 (3 : Int32) h0 n0 Z0 ) hZ (hw _ (List.mem_of_getElem? (i := 7) rfl)) (hw _ (List.mem_of_getElem? (i := 2) rfl)) (by decide) (by decide)) (g := (mkF m 58 #[.val (.ref a1), .val (.int (3 : Int32)), .val (.long q1), .second, .val (.long q2), .second, .val (.long q3), .second, .val (.int p4), .val (.int p5), .val (.long (own_b q1 (3 : Int32))), .second] [(.int (3 : Int32)), (.long q3), (.long (own_b q1 (6 : Int32))), (.long (((own_b q1 (3 : Int32)) + ((own_b q1 (4 : Int32)) * (own_b q2 (3 : Int32)))) + ((own_b q1 (5 : Int32)) * (own_b q2 (7 : Int32)))))])) rfl (by rw [hml]; rfl) (argsL := [(.long q3), (.int (3 : Int32))]) (rest := [(.long (own_b q1 (6 : Int32))), (.long (((own_b q1 (3 : Int32)) + ((own_b q1 (4 : Int32)) * (own_b q2 (3 : Int32)))) + ((own_b q1 (5 : Int32)) * (own_b q2 (7 : Int32)))))]) (lenOf pd__28JI_29J rfl) rfl (by show 2 * 0 + _ ≤ _; exact Nat.le_of_eq rfl) (hb hby d4_58) (fun _ _ => ⟨rfl, e112, (by decide : 0 + 0 ≤ _), (by decide : 0 + 0 ≤ _)⟩)
      dsimp only [Pt.U, Pt.locs, Pt.cells, Pt.slots] at X113 l113 y113 z113 st113 hQ113
      subst l113 y113 z113
      obtain ⟨rfl, N113q, e113⟩ := hQ113
      have N113 := Fr.app N112 N113q
      obtain ⟨_, _, ⟨T114, L114, kk114, nn114⟩, -, X114, ⟨Lc114, hQ114, l114, y114, z114⟩, st114⟩ := Jvm.LawKit.callS X113 hx (y := (⟨"com/example/orthoform/kernel/LinearCombinationsAddProductsPinLaw", "b", "(JI)J"⟩ : MethodName)) hown (mvT hZ (hw _ (List.mem_of_getElem? (i := 5) rfl))) (mvT hZ (hw _ (List.mem_of_getElem? (i := 6) rfl))) (mvT hZ (hw _ (List.mem_of_getElem? (i := 2) rfl))) (mvT hZ (hw _ (List.mem_of_getElem? (i := 7) rfl))) (by decide) (backOf (W := 2) (rm2 l Z a0 hw [] q1 (7 : Int32) h0 n0 Z0 ) hZ (hw _ (List.mem_of_getElem? (i := 7) rfl)) (hw _ (List.mem_of_getElem? (i := 2) rfl)) (by decide) (by decide)) (g := (mkF m 66 #[.val (.ref a1), .val (.int (3 : Int32)), .val (.long q1), .second, .val (.long q2), .second, .val (.long q3), .second, .val (.int p4), .val (.int p5), .val (.long (own_b q1 (3 : Int32))), .second] [(.int (7 : Int32)), (.long q1), (.long ((((own_b q1 (3 : Int32)) + ((own_b q1 (4 : Int32)) * (own_b q2 (3 : Int32)))) + ((own_b q1 (5 : Int32)) * (own_b q2 (7 : Int32)))) + ((own_b q1 (6 : Int32)) * (own_b q3 (3 : Int32)))))])) rfl (by rw [hml]; rfl) (argsL := [(.long q1), (.int (7 : Int32))]) (rest := [(.long ((((own_b q1 (3 : Int32)) + ((own_b q1 (4 : Int32)) * (own_b q2 (3 : Int32)))) + ((own_b q1 (5 : Int32)) * (own_b q2 (7 : Int32)))) + ((own_b q1 (6 : Int32)) * (own_b q3 (3 : Int32)))))]) (lenOf pd__28JI_29J rfl) rfl (by show 2 * 0 + _ ≤ _; exact Nat.le_of_eq rfl) (hb hby d4_66) (fun _ _ => ⟨rfl, e113, (by decide : 0 + 0 ≤ _), (by decide : 0 + 0 ≤ _)⟩)
      dsimp only [Pt.U, Pt.locs, Pt.cells, Pt.slots] at X114 l114 y114 z114 st114 hQ114
      subst l114 y114 z114
      obtain ⟨rfl, N114q, e114⟩ := hQ114
      have N114 := Fr.app N113 N114q
      obtain ⟨_, _, ⟨T115, L115, kk115, nn115⟩, -, X115, ⟨Lc115, hQ115, l115, y115, z115⟩, st115⟩ := Jvm.LawKit.callS X114 hx (y := (⟨"com/example/orthoform/kernel/LinearCombinationsAddProductsPinLaw", "b", "(JI)J"⟩ : MethodName)) hown (mvT hZ (hw _ (List.mem_of_getElem? (i := 5) rfl))) (mvT hZ (hw _ (List.mem_of_getElem? (i := 6) rfl))) (mvT hZ (hw _ (List.mem_of_getElem? (i := 2) rfl))) (mvT hZ (hw _ (List.mem_of_getElem? (i := 7) rfl))) (by decide) (backOf (W := 4) (rm2 l Z a0 hw [] q3 (7 : Int32) h0 n0 Z0 ) hZ (hw _ (List.mem_of_getElem? (i := 7) rfl)) (hw _ (List.mem_of_getElem? (i := 2) rfl)) (by decide) (by decide)) (g := (mkF m 74 #[.val (.ref a1), .val (.int (3 : Int32)), .val (.long q1), .second, .val (.long q2), .second, .val (.long q3), .second, .val (.int p4), .val (.int p5), .val (.long (own_b q1 (3 : Int32))), .second] [(.int (7 : Int32)), (.long q3), (.long (own_b q1 (7 : Int32))), (.long ((((own_b q1 (3 : Int32)) + ((own_b q1 (4 : Int32)) * (own_b q2 (3 : Int32)))) + ((own_b q1 (5 : Int32)) * (own_b q2 (7 : Int32)))) + ((own_b q1 (6 : Int32)) * (own_b q3 (3 : Int32)))))])) rfl (by rw [hml]; rfl) (argsL := [(.long q3), (.int (7 : Int32))]) (rest := [(.long (own_b q1 (7 : Int32))), (.long ((((own_b q1 (3 : Int32)) + ((own_b q1 (4 : Int32)) * (own_b q2 (3 : Int32)))) + ((own_b q1 (5 : Int32)) * (own_b q2 (7 : Int32)))) + ((own_b q1 (6 : Int32)) * (own_b q3 (3 : Int32)))))]) (lenOf pd__28JI_29J rfl) rfl (by show 2 * 0 + _ ≤ _; exact Nat.le_of_eq rfl) (hb hby d4_74) (fun _ _ => ⟨rfl, e114, (by decide : 0 + 0 ≤ _), (by decide : 0 + 0 ≤ _)⟩)
      dsimp only [Pt.U, Pt.locs, Pt.cells, Pt.slots] at X115 l115 y115 z115 st115 hQ115
      subst l115 y115 z115
      obtain ⟨rfl, N115q, e115⟩ := hQ115
      have N115 := Fr.app N114 N115q
      obtain ⟨cl116, Ar116, Q116, S116, M116, H116, G116⟩ := id P_V_a1
      have in117 : ¬ ((3 : Int32) < 0 ∨ cl116.slots.size ≤ ((3 : Int32)).toNatClampNeg) := inb_of S116 ⟨by decide, by decide⟩
      have at118 : cl116.slots[((3 : Int32)).toNatClampNeg]? = some (.double (g 3)) := H116 3 (by rw [S116]; decide)
      have pre119 : ∀ t_, Steps p.tables e below (T115.setTop (mkF m 96 #[.val (.ref a1), .val (.int (3 : Int32)), .val (.long q1), .second, .val (.long q2), .second, .val (.long q3), .second, .val (.int p4), .val (.int p5), .val (.long (own_exp (own_b q1 (3 : Int32)) (own_b q1 (4 : Int32)) (own_b q2 (3 : Int32)) (own_b q1 (5 : Int32)) (own_b q2 (7 : Int32)) (own_b q1 (6 : Int32)) (own_b q3 (3 : Int32)) (own_b q1 (7 : Int32)) (own_b q3 (7 : Int32)))), .second] [(.int (1 : Int32))])) t_ → Steps p.tables e below (s₁.setTop (entryFrame m #[(.ref a1), (.int (3 : Int32)), (.long q1), (.long q2), (.long q3), (.int p4), (.int p5)] 12)) t_ := fun t_ kt => pre107 t_ (by
          show Steps p.tables e below (T101.setTop (mkF m 16 #[.val (.ref a1), .val (.int (3 : Int32)), .val (.long q1), .second, .val (.long q2), .second, .val (.long q3), .second, .val (.int p4), .val (.int p5), .val (.long (own_b q1 (3 : Int32))), .second] [(.int p5), (.int (3 : Int32))])) _
          refine XS.icmpNo X101.here hx rfl (hb hby d4_16) rfl (tlt (hB : (3 : Int32) < p5)).2.1 ?_
          show Steps p.tables e below (T101.setTop (mkF m 19 #[.val (.ref a1), .val (.int (3 : Int32)), .val (.long q1), .second, .val (.long q2), .second, .val (.long q3), .second, .val (.int p4), .val (.int p5), .val (.long (own_b q1 (3 : Int32))), .second] [])) _
          refine XS.lload X101.here hx rfl (hb hby d4_19) rfl ?_
          show Steps p.tables e below (T101.setTop (mkF m 21 #[.val (.ref a1), .val (.int (3 : Int32)), .val (.long q1), .second, .val (.long q2), .second, .val (.long q3), .second, .val (.int p4), .val (.int p5), .val (.long (own_b q1 (3 : Int32))), .second] [(.long (own_b q1 (3 : Int32)))])) _
          refine XS.lloadN X101.here hx rfl (hb hby d4_21) rfl ?_
          show Steps p.tables e below (T101.setTop (mkF m 22 #[.val (.ref a1), .val (.int (3 : Int32)), .val (.long q1), .second, .val (.long q2), .second, .val (.long q3), .second, .val (.int p4), .val (.int p5), .val (.long (own_b q1 (3 : Int32))), .second] [(.long q1), (.long (own_b q1 (3 : Int32)))])) _
          refine XS.iconst X101.here hx rfl (hb hby d4_22) ?_
          show Steps p.tables e below (T101.setTop (mkF m 23 #[.val (.ref a1), .val (.int (3 : Int32)), .val (.long q1), .second, .val (.long q2), .second, .val (.long q3), .second, .val (.int p4), .val (.int p5), .val (.long (own_b q1 (3 : Int32))), .second] [(.int (4 : Int32)), (.long q1), (.long (own_b q1 (3 : Int32)))])) _
          refine st108 _ ?_
          show Steps p.tables e below (T108.setTop (mkF m 26 #[.val (.ref a1), .val (.int (3 : Int32)), .val (.long q1), .second, .val (.long q2), .second, .val (.long q3), .second, .val (.int p4), .val (.int p5), .val (.long (own_b q1 (3 : Int32))), .second] [(.long (own_b q1 (4 : Int32))), (.long (own_b q1 (3 : Int32)))])) _
          refine XS.lload X108.here hx rfl (hb hby d4_26) rfl ?_
          show Steps p.tables e below (T108.setTop (mkF m 28 #[.val (.ref a1), .val (.int (3 : Int32)), .val (.long q1), .second, .val (.long q2), .second, .val (.long q3), .second, .val (.int p4), .val (.int p5), .val (.long (own_b q1 (3 : Int32))), .second] [(.long q2), (.long (own_b q1 (4 : Int32))), (.long (own_b q1 (3 : Int32)))])) _
          refine XS.iloadN X108.here hx rfl (hb hby d4_28) rfl ?_
          show Steps p.tables e below (T108.setTop (mkF m 29 #[.val (.ref a1), .val (.int (3 : Int32)), .val (.long q1), .second, .val (.long q2), .second, .val (.long q3), .second, .val (.int p4), .val (.int p5), .val (.long (own_b q1 (3 : Int32))), .second] [(.int (3 : Int32)), (.long q2), (.long (own_b q1 (4 : Int32))), (.long (own_b q1 (3 : Int32)))])) _
          refine st109 _ ?_
          show Steps p.tables e below (T109.setTop (mkF m 32 #[.val (.ref a1), .val (.int (3 : Int32)), .val (.long q1), .second, .val (.long q2), .second, .val (.long q3), .second, .val (.int p4), .val (.int p5), .val (.long (own_b q1 (3 : Int32))), .second] [(.long (own_b q2 (3 : Int32))), (.long (own_b q1 (4 : Int32))), (.long (own_b q1 (3 : Int32)))])) _
          refine XS.lmul X109.here hx rfl (hb hby d4_32) rfl ?_
          show Steps p.tables e below (T109.setTop (mkF m 33 #[.val (.ref a1), .val (.int (3 : Int32)), .val (.long q1), .second, .val (.long q2), .second, .val (.long q3), .second, .val (.int p4), .val (.int p5), .val (.long (own_b q1 (3 : Int32))), .second] [(.long ((own_b q1 (4 : Int32)) * (own_b q2 (3 : Int32)))), (.long (own_b q1 (3 : Int32)))])) _
          refine XS.ladd X109.here hx rfl (hb hby d4_33) rfl ?_
          show Steps p.tables e below (T109.setTop (mkF m 34 #[.val (.ref a1), .val (.int (3 : Int32)), .val (.long q1), .second, .val (.long q2), .second, .val (.long q3), .second, .val (.int p4), .val (.int p5), .val (.long (own_b q1 (3 : Int32))), .second] [(.long ((own_b q1 (3 : Int32)) + ((own_b q1 (4 : Int32)) * (own_b q2 (3 : Int32)))))])) _
          refine XS.lloadN X109.here hx rfl (hb hby d4_34) rfl ?_
          show Steps p.tables e below (T109.setTop (mkF m 35 #[.val (.ref a1), .val (.int (3 : Int32)), .val (.long q1), .second, .val (.long q2), .second, .val (.long q3), .second, .val (.int p4), .val (.int p5), .val (.long (own_b q1 (3 : Int32))), .second] [(.long q1), (.long ((own_b q1 (3 : Int32)) + ((own_b q1 (4 : Int32)) * (own_b q2 (3 : Int32)))))])) _
          refine XS.iconst X109.here hx rfl (hb hby d4_35) ?_
          show Steps p.tables e below (T109.setTop (mkF m 36 #[.val (.ref a1), .val (.int (3 : Int32)), .val (.long q1), .second, .val (.long q2), .second, .val (.long q3), .second, .val (.int p4), .val (.int p5), .val (.long (own_b q1 (3 : Int32))), .second] [(.int (5 : Int32)), (.long q1), (.long ((own_b q1 (3 : Int32)) + ((own_b q1 (4 : Int32)) * (own_b q2 (3 : Int32)))))])) _
          refine st110 _ ?_
          show Steps p.tables e below (T110.setTop (mkF m 39 #[.val (.ref a1), .val (.int (3 : Int32)), .val (.long q1), .second, .val (.long q2), .second, .val (.long q3), .second, .val (.int p4), .val (.int p5), .val (.long (own_b q1 (3 : Int32))), .second] [(.long (own_b q1 (5 : Int32))), (.long ((own_b q1 (3 : Int32)) + ((own_b q1 (4 : Int32)) * (own_b q2 (3 : Int32)))))])) _
          refine XS.lload X110.here hx rfl (hb hby d4_39) rfl ?_
          show Steps p.tables e below (T110.setTop (mkF m 41 #[.val (.ref a1), .val (.int (3 : Int32)), .val (.long q1), .second, .val (.long q2), .second, .val (.long q3), .second, .val (.int p4), .val (.int p5), .val (.long (own_b q1 (3 : Int32))), .second] [(.long q2), (.long (own_b q1 (5 : Int32))), (.long ((own_b q1 (3 : Int32)) + ((own_b q1 (4 : Int32)) * (own_b q2 (3 : Int32)))))])) _
          refine XS.iconst X110.here hx rfl (hb hby d4_41) ?_
          show Steps p.tables e below (T110.setTop (mkF m 42 #[.val (.ref a1), .val (.int (3 : Int32)), .val (.long q1), .second, .val (.long q2), .second, .val (.long q3), .second, .val (.int p4), .val (.int p5), .val (.long (own_b q1 (3 : Int32))), .second] [(.int (4 : Int32)), (.long q2), (.long (own_b q1 (5 : Int32))), (.long ((own_b q1 (3 : Int32)) + ((own_b q1 (4 : Int32)) * (own_b q2 (3 : Int32)))))])) _
          refine XS.iloadN X110.here hx rfl (hb hby d4_42) rfl ?_
          show Steps p.tables e below (T110.setTop (mkF m 43 #[.val (.ref a1), .val (.int (3 : Int32)), .val (.long q1), .second, .val (.long q2), .second, .val (.long q3), .second, .val (.int p4), .val (.int p5), .val (.long (own_b q1 (3 : Int32))), .second] [(.int (3 : Int32)), (.int (4 : Int32)), (.long q2), (.long (own_b q1 (5 : Int32))), (.long ((own_b q1 (3 : Int32)) + ((own_b q1 (4 : Int32)) * (own_b q2 (3 : Int32)))))])) _
          refine XS.iadd X110.here hx rfl (hb hby d4_43) rfl ?_
          show Steps p.tables e below (T110.setTop (mkF m 44 #[.val (.ref a1), .val (.int (3 : Int32)), .val (.long q1), .second, .val (.long q2), .second, .val (.long q3), .second, .val (.int p4), .val (.int p5), .val (.long (own_b q1 (3 : Int32))), .second] [(.int (7 : Int32)), (.long q2), (.long (own_b q1 (5 : Int32))), (.long ((own_b q1 (3 : Int32)) + ((own_b q1 (4 : Int32)) * (own_b q2 (3 : Int32)))))])) _
          refine st111 _ ?_
          show Steps p.tables e below (T111.setTop (mkF m 47 #[.val (.ref a1), .val (.int (3 : Int32)), .val (.long q1), .second, .val (.long q2), .second, .val (.long q3), .second, .val (.int p4), .val (.int p5), .val (.long (own_b q1 (3 : Int32))), .second] [(.long (own_b q2 (7 : Int32))), (.long (own_b q1 (5 : Int32))), (.long ((own_b q1 (3 : Int32)) + ((own_b q1 (4 : Int32)) * (own_b q2 (3 : Int32)))))])) _
          refine XS.lmul X111.here hx rfl (hb hby d4_47) rfl ?_
          show Steps p.tables e below (T111.setTop (mkF m 48 #[.val (.ref a1), .val (.int (3 : Int32)), .val (.long q1), .second, .val (.long q2), .second, .val (.long q3), .second, .val (.int p4), .val (.int p5), .val (.long (own_b q1 (3 : Int32))), .second] [(.long ((own_b q1 (5 : Int32)) * (own_b q2 (7 : Int32)))), (.long ((own_b q1 (3 : Int32)) + ((own_b q1 (4 : Int32)) * (own_b q2 (3 : Int32)))))])) _
          refine XS.ladd X111.here hx rfl (hb hby d4_48) rfl ?_
          show Steps p.tables e below (T111.setTop (mkF m 49 #[.val (.ref a1), .val (.int (3 : Int32)), .val (.long q1), .second, .val (.long q2), .second, .val (.long q3), .second, .val (.int p4), .val (.int p5), .val (.long (own_b q1 (3 : Int32))), .second] [(.long (((own_b q1 (3 : Int32)) + ((own_b q1 (4 : Int32)) * (own_b q2 (3 : Int32)))) + ((own_b q1 (5 : Int32)) * (own_b q2 (7 : Int32)))))])) _
          refine XS.lloadN X111.here hx rfl (hb hby d4_49) rfl ?_
          show Steps p.tables e below (T111.setTop (mkF m 50 #[.val (.ref a1), .val (.int (3 : Int32)), .val (.long q1), .second, .val (.long q2), .second, .val (.long q3), .second, .val (.int p4), .val (.int p5), .val (.long (own_b q1 (3 : Int32))), .second] [(.long q1), (.long (((own_b q1 (3 : Int32)) + ((own_b q1 (4 : Int32)) * (own_b q2 (3 : Int32)))) + ((own_b q1 (5 : Int32)) * (own_b q2 (7 : Int32)))))])) _
          refine XS.bipush X111.here hx rfl (hb hby d4_50) ?_
          show Steps p.tables e below (T111.setTop (mkF m 52 #[.val (.ref a1), .val (.int (3 : Int32)), .val (.long q1), .second, .val (.long q2), .second, .val (.long q3), .second, .val (.int p4), .val (.int p5), .val (.long (own_b q1 (3 : Int32))), .second] [(.int (6 : Int32)), (.long q1), (.long (((own_b q1 (3 : Int32)) + ((own_b q1 (4 : Int32)) * (own_b q2 (3 : Int32)))) + ((own_b q1 (5 : Int32)) * (own_b q2 (7 : Int32)))))])) _
          refine st112 _ ?_
          show Steps p.tables e below (T112.setTop (mkF m 55 #[.val (.ref a1), .val (.int (3 : Int32)), .val (.long q1), .second, .val (.long q2), .second, .val (.long q3), .second, .val (.int p4), .val (.int p5), .val (.long (own_b q1 (3 : Int32))), .second] [(.long (own_b q1 (6 : Int32))), (.long (((own_b q1 (3 : Int32)) + ((own_b q1 (4 : Int32)) * (own_b q2 (3 : Int32)))) + ((own_b q1 (5 : Int32)) * (own_b q2 (7 : Int32)))))])) _
          refine XS.lload X112.here hx rfl (hb hby d4_55) rfl ?_
          show Steps p.tables e below (T112.setTop (mkF m 57 #[.val (.ref a1), .val (.int (3 : Int32)), .val (.long q1), .second, .val (.long q2), .second, .val (.long q3), .second, .val (.int p4), .val (.int p5), .val (.long (own_b q1 (3 : Int32))), .second] [(.long q3), (.long (own_b q1 (6 : Int32))), (.long (((own_b q1 (3 : Int32)) + ((own_b q1 (4 : Int32)) * (own_b q2 (3 : Int32)))) + ((own_b q1 (5 : Int32)) * (own_b q2 (7 : Int32)))))])) _
          refine XS.iloadN X112.here hx rfl (hb hby d4_57) rfl ?_
          show Steps p.tables e below (T112.setTop (mkF m 58 #[.val (.ref a1), .val (.int (3 : Int32)), .val (.long q1), .second, .val (.long q2), .second, .val (.long q3), .second, .val (.int p4), .val (.int p5), .val (.long (own_b q1 (3 : Int32))), .second] [(.int (3 : Int32)), (.long q3), (.long (own_b q1 (6 : Int32))), (.long (((own_b q1 (3 : Int32)) + ((own_b q1 (4 : Int32)) * (own_b q2 (3 : Int32)))) + ((own_b q1 (5 : Int32)) * (own_b q2 (7 : Int32)))))])) _
          refine st113 _ ?_
          show Steps p.tables e below (T113.setTop (mkF m 61 #[.val (.ref a1), .val (.int (3 : Int32)), .val (.long q1), .second, .val (.long q2), .second, .val (.long q3), .second, .val (.int p4), .val (.int p5), .val (.long (own_b q1 (3 : Int32))), .second] [(.long (own_b q3 (3 : Int32))), (.long (own_b q1 (6 : Int32))), (.long (((own_b q1 (3 : Int32)) + ((own_b q1 (4 : Int32)) * (own_b q2 (3 : Int32)))) + ((own_b q1 (5 : Int32)) * (own_b q2 (7 : Int32)))))])) _
          refine XS.lmul X113.here hx rfl (hb hby d4_61) rfl ?_
          show Steps p.tables e below (T113.setTop (mkF m 62 #[.val (.ref a1), .val (.int (3 : Int32)), .val (.long q1), .second, .val (.long q2), .second, .val (.long q3), .second, .val (.int p4), .val (.int p5), .val (.long (own_b q1 (3 : Int32))), .second] [(.long ((own_b q1 (6 : Int32)) * (own_b q3 (3 : Int32)))), (.long (((own_b q1 (3 : Int32)) + ((own_b q1 (4 : Int32)) * (own_b q2 (3 : Int32)))) + ((own_b q1 (5 : Int32)) * (own_b q2 (7 : Int32)))))])) _
          refine XS.ladd X113.here hx rfl (hb hby d4_62) rfl ?_
          show Steps p.tables e below (T113.setTop (mkF m 63 #[.val (.ref a1), .val (.int (3 : Int32)), .val (.long q1), .second, .val (.long q2), .second, .val (.long q3), .second, .val (.int p4), .val (.int p5), .val (.long (own_b q1 (3 : Int32))), .second] [(.long ((((own_b q1 (3 : Int32)) + ((own_b q1 (4 : Int32)) * (own_b q2 (3 : Int32)))) + ((own_b q1 (5 : Int32)) * (own_b q2 (7 : Int32)))) + ((own_b q1 (6 : Int32)) * (own_b q3 (3 : Int32)))))])) _
          refine XS.lloadN X113.here hx rfl (hb hby d4_63) rfl ?_
          show Steps p.tables e below (T113.setTop (mkF m 64 #[.val (.ref a1), .val (.int (3 : Int32)), .val (.long q1), .second, .val (.long q2), .second, .val (.long q3), .second, .val (.int p4), .val (.int p5), .val (.long (own_b q1 (3 : Int32))), .second] [(.long q1), (.long ((((own_b q1 (3 : Int32)) + ((own_b q1 (4 : Int32)) * (own_b q2 (3 : Int32)))) + ((own_b q1 (5 : Int32)) * (own_b q2 (7 : Int32)))) + ((own_b q1 (6 : Int32)) * (own_b q3 (3 : Int32)))))])) _
          refine XS.bipush X113.here hx rfl (hb hby d4_64) ?_
          show Steps p.tables e below (T113.setTop (mkF m 66 #[.val (.ref a1), .val (.int (3 : Int32)), .val (.long q1), .second, .val (.long q2), .second, .val (.long q3), .second, .val (.int p4), .val (.int p5), .val (.long (own_b q1 (3 : Int32))), .second] [(.int (7 : Int32)), (.long q1), (.long ((((own_b q1 (3 : Int32)) + ((own_b q1 (4 : Int32)) * (own_b q2 (3 : Int32)))) + ((own_b q1 (5 : Int32)) * (own_b q2 (7 : Int32)))) + ((own_b q1 (6 : Int32)) * (own_b q3 (3 : Int32)))))])) _
          refine st114 _ ?_
          show Steps p.tables e below (T114.setTop (mkF m 69 #[.val (.ref a1), .val (.int (3 : Int32)), .val (.long q1), .second, .val (.long q2), .second, .val (.long q3), .second, .val (.int p4), .val (.int p5), .val (.long (own_b q1 (3 : Int32))), .second] [(.long (own_b q1 (7 : Int32))), (.long ((((own_b q1 (3 : Int32)) + ((own_b q1 (4 : Int32)) * (own_b q2 (3 : Int32)))) + ((own_b q1 (5 : Int32)) * (own_b q2 (7 : Int32)))) + ((own_b q1 (6 : Int32)) * (own_b q3 (3 : Int32)))))])) _
          refine XS.lload X114.here hx rfl (hb hby d4_69) rfl ?_
          show Steps p.tables e below (T114.setTop (mkF m 71 #[.val (.ref a1), .val (.int (3 : Int32)), .val (.long q1), .second, .val (.long q2), .second, .val (.long q3), .second, .val (.int p4), .val (.int p5), .val (.long (own_b q1 (3 : Int32))), .second] [(.long q3), (.long (own_b q1 (7 : Int32))), (.long ((((own_b q1 (3 : Int32)) + ((own_b q1 (4 : Int32)) * (own_b q2 (3 : Int32)))) + ((own_b q1 (5 : Int32)) * (own_b q2 (7 : Int32)))) + ((own_b q1 (6 : Int32)) * (own_b q3 (3 : Int32)))))])) _
          refine XS.iconst X114.here hx rfl (hb hby d4_71) ?_
          show Steps p.tables e below (T114.setTop (mkF m 72 #[.val (.ref a1), .val (.int (3 : Int32)), .val (.long q1), .second, .val (.long q2), .second, .val (.long q3), .second, .val (.int p4), .val (.int p5), .val (.long (own_b q1 (3 : Int32))), .second] [(.int (4 : Int32)), (.long q3), (.long (own_b q1 (7 : Int32))), (.long ((((own_b q1 (3 : Int32)) + ((own_b q1 (4 : Int32)) * (own_b q2 (3 : Int32)))) + ((own_b q1 (5 : Int32)) * (own_b q2 (7 : Int32)))) + ((own_b q1 (6 : Int32)) * (own_b q3 (3 : Int32)))))])) _
          refine XS.iloadN X114.here hx rfl (hb hby d4_72) rfl ?_
          show Steps p.tables e below (T114.setTop (mkF m 73 #[.val (.ref a1), .val (.int (3 : Int32)), .val (.long q1), .second, .val (.long q2), .second, .val (.long q3), .second, .val (.int p4), .val (.int p5), .val (.long (own_b q1 (3 : Int32))), .second] [(.int (3 : Int32)), (.int (4 : Int32)), (.long q3), (.long (own_b q1 (7 : Int32))), (.long ((((own_b q1 (3 : Int32)) + ((own_b q1 (4 : Int32)) * (own_b q2 (3 : Int32)))) + ((own_b q1 (5 : Int32)) * (own_b q2 (7 : Int32)))) + ((own_b q1 (6 : Int32)) * (own_b q3 (3 : Int32)))))])) _
          refine XS.iadd X114.here hx rfl (hb hby d4_73) rfl ?_
          show Steps p.tables e below (T114.setTop (mkF m 74 #[.val (.ref a1), .val (.int (3 : Int32)), .val (.long q1), .second, .val (.long q2), .second, .val (.long q3), .second, .val (.int p4), .val (.int p5), .val (.long (own_b q1 (3 : Int32))), .second] [(.int (7 : Int32)), (.long q3), (.long (own_b q1 (7 : Int32))), (.long ((((own_b q1 (3 : Int32)) + ((own_b q1 (4 : Int32)) * (own_b q2 (3 : Int32)))) + ((own_b q1 (5 : Int32)) * (own_b q2 (7 : Int32)))) + ((own_b q1 (6 : Int32)) * (own_b q3 (3 : Int32)))))])) _
          refine st115 _ ?_
          show Steps p.tables e below (T115.setTop (mkF m 77 #[.val (.ref a1), .val (.int (3 : Int32)), .val (.long q1), .second, .val (.long q2), .second, .val (.long q3), .second, .val (.int p4), .val (.int p5), .val (.long (own_b q1 (3 : Int32))), .second] [(.long (own_b q3 (7 : Int32))), (.long (own_b q1 (7 : Int32))), (.long ((((own_b q1 (3 : Int32)) + ((own_b q1 (4 : Int32)) * (own_b q2 (3 : Int32)))) + ((own_b q1 (5 : Int32)) * (own_b q2 (7 : Int32)))) + ((own_b q1 (6 : Int32)) * (own_b q3 (3 : Int32)))))])) _
          refine XS.lmul X115.here hx rfl (hb hby d4_77) rfl ?_
          show Steps p.tables e below (T115.setTop (mkF m 78 #[.val (.ref a1), .val (.int (3 : Int32)), .val (.long q1), .second, .val (.long q2), .second, .val (.long q3), .second, .val (.int p4), .val (.int p5), .val (.long (own_b q1 (3 : Int32))), .second] [(.long ((own_b q1 (7 : Int32)) * (own_b q3 (7 : Int32)))), (.long ((((own_b q1 (3 : Int32)) + ((own_b q1 (4 : Int32)) * (own_b q2 (3 : Int32)))) + ((own_b q1 (5 : Int32)) * (own_b q2 (7 : Int32)))) + ((own_b q1 (6 : Int32)) * (own_b q3 (3 : Int32)))))])) _
          refine XS.ladd X115.here hx rfl (hb hby d4_78) rfl ?_
          show Steps p.tables e below (T115.setTop (mkF m 79 #[.val (.ref a1), .val (.int (3 : Int32)), .val (.long q1), .second, .val (.long q2), .second, .val (.long q3), .second, .val (.int p4), .val (.int p5), .val (.long (own_b q1 (3 : Int32))), .second] [(.long (((((own_b q1 (3 : Int32)) + ((own_b q1 (4 : Int32)) * (own_b q2 (3 : Int32)))) + ((own_b q1 (5 : Int32)) * (own_b q2 (7 : Int32)))) + ((own_b q1 (6 : Int32)) * (own_b q3 (3 : Int32)))) + ((own_b q1 (7 : Int32)) * (own_b q3 (7 : Int32)))))])) _
          refine XS.lstore X115.here hx rfl (hb hby d4_79) rfl (l' := #[.val (.ref a1), .val (.int (3 : Int32)), .val (.long q1), .second, .val (.long q2), .second, .val (.long q3), .second, .val (.int p4), .val (.int p5), .val (.long (own_exp (own_b q1 (3 : Int32)) (own_b q1 (4 : Int32)) (own_b q2 (3 : Int32)) (own_b q1 (5 : Int32)) (own_b q2 (7 : Int32)) (own_b q1 (6 : Int32)) (own_b q3 (3 : Int32)) (own_b q1 (7 : Int32)) (own_b q3 (7 : Int32)))), .second]) rfl ?_
          show Steps p.tables e below (T115.setTop (mkF m 81 #[.val (.ref a1), .val (.int (3 : Int32)), .val (.long q1), .second, .val (.long q2), .second, .val (.long q3), .second, .val (.int p4), .val (.int p5), .val (.long (own_exp (own_b q1 (3 : Int32)) (own_b q1 (4 : Int32)) (own_b q2 (3 : Int32)) (own_b q1 (5 : Int32)) (own_b q2 (7 : Int32)) (own_b q1 (6 : Int32)) (own_b q3 (3 : Int32)) (own_b q1 (7 : Int32)) (own_b q3 (7 : Int32)))), .second] [])) _
          refine XS.aloadN X115.here hx rfl (hb hby d4_81) rfl rfl ?_
          show Steps p.tables e below (T115.setTop (mkF m 82 #[.val (.ref a1), .val (.int (3 : Int32)), .val (.long q1), .second, .val (.long q2), .second, .val (.long q3), .second, .val (.int p4), .val (.int p5), .val (.long (own_exp (own_b q1 (3 : Int32)) (own_b q1 (4 : Int32)) (own_b q2 (3 : Int32)) (own_b q1 (5 : Int32)) (own_b q2 (7 : Int32)) (own_b q1 (6 : Int32)) (own_b q3 (3 : Int32)) (own_b q1 (7 : Int32)) (own_b q3 (7 : Int32)))), .second] [(.ref a1)])) _
          refine XS.iloadN X115.here hx rfl (hb hby d4_82) rfl ?_
          show Steps p.tables e below (T115.setTop (mkF m 83 #[.val (.ref a1), .val (.int (3 : Int32)), .val (.long q1), .second, .val (.long q2), .second, .val (.long q3), .second, .val (.int p4), .val (.int p5), .val (.long (own_exp (own_b q1 (3 : Int32)) (own_b q1 (4 : Int32)) (own_b q2 (3 : Int32)) (own_b q1 (5 : Int32)) (own_b q2 (7 : Int32)) (own_b q1 (6 : Int32)) (own_b q3 (3 : Int32)) (own_b q1 (7 : Int32)) (own_b q3 (7 : Int32)))), .second] [(.int (3 : Int32)), (.ref a1)])) _
          refine X115.daload hx (j := (3 : Int32)) (v := (.double (g 3))) (by rw [e115]; exact Ar116.1) (State.isArrayOf_alike hZ.alike Ar116.2.1) Ar116.2.2 in117 at118 (g := (mkF m 83 #[.val (.ref a1), .val (.int (3 : Int32)), .val (.long q1), .second, .val (.long q2), .second, .val (.long q3), .second, .val (.int p4), .val (.int p5), .val (.long (own_exp (own_b q1 (3 : Int32)) (own_b q1 (4 : Int32)) (own_b q2 (3 : Int32)) (own_b q1 (5 : Int32)) (own_b q2 (7 : Int32)) (own_b q1 (6 : Int32)) (own_b q3 (3 : Int32)) (own_b q1 (7 : Int32)) (own_b q3 (7 : Int32)))), .second] [(.int (3 : Int32)), (.ref a1)])) rfl rfl (hb hby d4_83) _ ?_
          show Steps p.tables e below (T115.setTop (mkF m 84 #[.val (.ref a1), .val (.int (3 : Int32)), .val (.long q1), .second, .val (.long q2), .second, .val (.long q3), .second, .val (.int p4), .val (.int p5), .val (.long (own_exp (own_b q1 (3 : Int32)) (own_b q1 (4 : Int32)) (own_b q2 (3 : Int32)) (own_b q1 (5 : Int32)) (own_b q2 (7 : Int32)) (own_b q1 (6 : Int32)) (own_b q3 (3 : Int32)) (own_b q1 (7 : Int32)) (own_b q3 (7 : Int32)))), .second] [(.double (g 3))])) _
          refine XS.lload X115.here hx rfl (hb hby d4_84) rfl ?_
          show Steps p.tables e below (T115.setTop (mkF m 86 #[.val (.ref a1), .val (.int (3 : Int32)), .val (.long q1), .second, .val (.long q2), .second, .val (.long q3), .second, .val (.int p4), .val (.int p5), .val (.long (own_exp (own_b q1 (3 : Int32)) (own_b q1 (4 : Int32)) (own_b q2 (3 : Int32)) (own_b q1 (5 : Int32)) (own_b q2 (7 : Int32)) (own_b q1 (6 : Int32)) (own_b q3 (3 : Int32)) (own_b q1 (7 : Int32)) (own_b q3 (7 : Int32)))), .second] [(.long (own_exp (own_b q1 (3 : Int32)) (own_b q1 (4 : Int32)) (own_b q2 (3 : Int32)) (own_b q1 (5 : Int32)) (own_b q2 (7 : Int32)) (own_b q1 (6 : Int32)) (own_b q3 (3 : Int32)) (own_b q1 (7 : Int32)) (own_b q3 (7 : Int32)))), (.double (g 3))])) _
          refine XS.l2dS X115.here hx rfl (hb hby d4_86) rfl (v := (FP.l2d (own_exp (own_b q1 (3 : Int32)) (own_b q1 (4 : Int32)) (own_b q2 (3 : Int32)) (own_b q1 (5 : Int32)) (own_b q2 (7 : Int32)) (own_b q1 (6 : Int32)) (own_b q3 (3 : Int32)) (own_b q1 (7 : Int32)) (own_b q3 (7 : Int32))))) rfl ?_
          show Steps p.tables e below (T115.setTop (mkF m 87 #[.val (.ref a1), .val (.int (3 : Int32)), .val (.long q1), .second, .val (.long q2), .second, .val (.long q3), .second, .val (.int p4), .val (.int p5), .val (.long (own_exp (own_b q1 (3 : Int32)) (own_b q1 (4 : Int32)) (own_b q2 (3 : Int32)) (own_b q1 (5 : Int32)) (own_b q2 (7 : Int32)) (own_b q1 (6 : Int32)) (own_b q3 (3 : Int32)) (own_b q1 (7 : Int32)) (own_b q3 (7 : Int32)))), .second] [(.double (FP.l2d (own_exp (own_b q1 (3 : Int32)) (own_b q1 (4 : Int32)) (own_b q2 (3 : Int32)) (own_b q1 (5 : Int32)) (own_b q2 (7 : Int32)) (own_b q1 (6 : Int32)) (own_b q3 (3 : Int32)) (own_b q1 (7 : Int32)) (own_b q3 (7 : Int32))))), (.double (g 3))])) _
          refine XS.dcmpS X115.here hx rfl (hb hby d4_87) rfl (v := (0 : Int32)) (hin hA hB) ?_
          show Steps p.tables e below (T115.setTop (mkF m 88 #[.val (.ref a1), .val (.int (3 : Int32)), .val (.long q1), .second, .val (.long q2), .second, .val (.long q3), .second, .val (.int p4), .val (.int p5), .val (.long (own_exp (own_b q1 (3 : Int32)) (own_b q1 (4 : Int32)) (own_b q2 (3 : Int32)) (own_b q1 (5 : Int32)) (own_b q2 (7 : Int32)) (own_b q1 (6 : Int32)) (own_b q3 (3 : Int32)) (own_b q1 (7 : Int32)) (own_b q3 (7 : Int32)))), .second] [(.int (0 : Int32))])) _
          refine XS.ifNo X115.here hx rfl (hb hby d4_88) rfl ((if0 _ _).trans (teq ((by decide) : (0 : Int32) = (0 : Int32))).2) ?_
          show Steps p.tables e below (T115.setTop (mkF m 91 #[.val (.ref a1), .val (.int (3 : Int32)), .val (.long q1), .second, .val (.long q2), .second, .val (.long q3), .second, .val (.int p4), .val (.int p5), .val (.long (own_exp (own_b q1 (3 : Int32)) (own_b q1 (4 : Int32)) (own_b q2 (3 : Int32)) (own_b q1 (5 : Int32)) (own_b q2 (7 : Int32)) (own_b q1 (6 : Int32)) (own_b q3 (3 : Int32)) (own_b q1 (7 : Int32)) (own_b q3 (7 : Int32)))), .second] [])) _
          refine XS.iconst X115.here hx rfl (hb hby d4_91) ?_
          show Steps p.tables e below (T115.setTop (mkF m 92 #[.val (.ref a1), .val (.int (3 : Int32)), .val (.long q1), .second, .val (.long q2), .second, .val (.long q3), .second, .val (.int p4), .val (.int p5), .val (.long (own_exp (own_b q1 (3 : Int32)) (own_b q1 (4 : Int32)) (own_b q2 (3 : Int32)) (own_b q1 (5 : Int32)) (own_b q2 (7 : Int32)) (own_b q1 (6 : Int32)) (own_b q3 (3 : Int32)) (own_b q1 (7 : Int32)) (own_b q3 (7 : Int32)))), .second] [(.int (1 : Int32))])) _
          refine XS.goto X115.here hx rfl (pc0 := 92) (pc' := 96) rfl (hb hby d4_92) (by decide) (by decide) ?_
          exact kt)
      obtain ⟨fs, hr, hrun, hended, hW, hsame⟩ := X115.leave (v := some (.int (1 : Int32))) (fun h => by rw [Bd.returns] at h; cases h)
      refine ⟨_, _, pre119 _ ?_, hrun, hended, _, _, rfl, ?_, ⟨_, rfl⟩, hW, hsame.mono (by decide) (by decide)⟩
      · show Steps p.tables e below (T115.setTop (mkF m 96 #[.val (.ref a1), .val (.int (3 : Int32)), .val (.long q1), .second, .val (.long q2), .second, .val (.long q3), .second, .val (.int p4), .val (.int p5), .val (.long (own_exp (own_b q1 (3 : Int32)) (own_b q1 (4 : Int32)) (own_b q2 (3 : Int32)) (own_b q1 (5 : Int32)) (own_b q2 (7 : Int32)) (own_b q1 (6 : Int32)) (own_b q3 (3 : Int32)) (own_b q1 (7 : Int32)) (own_b q3 (7 : Int32)))), .second] [(.int (1 : Int32))])) _
        exact retN X115 hx (t := .boolean) Bd.returns (by simp) (hb hby d4_96) hr
      · show Qok3 Z a1 q1 q2 q3 p4 p5 g kk h0 n0 _ T115.heap _
        rw [e115]
        exact ⟨rfl, N115, rfl⟩
    · skip
      obtain ⟨cl120, Ar120, Q120, S120, M120, H120, G120⟩ := id P_V_a1
      have in121 : ¬ ((3 : Int32) < 0 ∨ cl120.slots.size ≤ ((3 : Int32)).toNatClampNeg) := inb_of S120 ⟨by decide, by decide⟩
      have at122 : cl120.slots[((3 : Int32)).toNatClampNeg]? = some (.double (g 3)) := H120 3 (by rw [S120]; decide)
      have pre123 : ∀ t_, Steps p.tables e below (T101.setTop (mkF m 96 #[.val (.ref a1), .val (.int (3 : Int32)), .val (.long q1), .second, .val (.long q2), .second, .val (.long q3), .second, .val (.int p4), .val (.int p5), .val (.long (own_b q1 (3 : Int32))), .second] [(.int (1 : Int32))])) t_ → Steps p.tables e below (s₁.setTop (entryFrame m #[(.ref a1), (.int (3 : Int32)), (.long q1), (.long q2), (.long q3), (.int p4), (.int p5)] 12)) t_ := fun t_ kt => pre107 t_ (by
          show Steps p.tables e below (T101.setTop (mkF m 16 #[.val (.ref a1), .val (.int (3 : Int32)), .val (.long q1), .second, .val (.long q2), .second, .val (.long q3), .second, .val (.int p4), .val (.int p5), .val (.long (own_b q1 (3 : Int32))), .second] [(.int p5), (.int (3 : Int32))])) _
          refine XS.icmpYes X101.here hx rfl (pc0 := 16) (pc' := 81) rfl (hb hby d4_16) rfl (flt (hB : ¬ ((3 : Int32) < p5))).2.1 (by decide) (by decide) ?_
          show Steps p.tables e below (T101.setTop (mkF m 81 #[.val (.ref a1), .val (.int (3 : Int32)), .val (.long q1), .second, .val (.long q2), .second, .val (.long q3), .second, .val (.int p4), .val (.int p5), .val (.long (own_b q1 (3 : Int32))), .second] [])) _
          refine XS.aloadN X101.here hx rfl (hb hby d4_81) rfl rfl ?_
          show Steps p.tables e below (T101.setTop (mkF m 82 #[.val (.ref a1), .val (.int (3 : Int32)), .val (.long q1), .second, .val (.long q2), .second, .val (.long q3), .second, .val (.int p4), .val (.int p5), .val (.long (own_b q1 (3 : Int32))), .second] [(.ref a1)])) _
          refine XS.iloadN X101.here hx rfl (hb hby d4_82) rfl ?_
          show Steps p.tables e below (T101.setTop (mkF m 83 #[.val (.ref a1), .val (.int (3 : Int32)), .val (.long q1), .second, .val (.long q2), .second, .val (.long q3), .second, .val (.int p4), .val (.int p5), .val (.long (own_b q1 (3 : Int32))), .second] [(.int (3 : Int32)), (.ref a1)])) _
          refine X101.daload hx (j := (3 : Int32)) (v := (.double (g 3))) (by rw [e101]; exact Ar120.1) (State.isArrayOf_alike hZ.alike Ar120.2.1) Ar120.2.2 in121 at122 (g := (mkF m 83 #[.val (.ref a1), .val (.int (3 : Int32)), .val (.long q1), .second, .val (.long q2), .second, .val (.long q3), .second, .val (.int p4), .val (.int p5), .val (.long (own_b q1 (3 : Int32))), .second] [(.int (3 : Int32)), (.ref a1)])) rfl rfl (hb hby d4_83) _ ?_
          show Steps p.tables e below (T101.setTop (mkF m 84 #[.val (.ref a1), .val (.int (3 : Int32)), .val (.long q1), .second, .val (.long q2), .second, .val (.long q3), .second, .val (.int p4), .val (.int p5), .val (.long (own_b q1 (3 : Int32))), .second] [(.double (g 3))])) _
          refine XS.lload X101.here hx rfl (hb hby d4_84) rfl ?_
          show Steps p.tables e below (T101.setTop (mkF m 86 #[.val (.ref a1), .val (.int (3 : Int32)), .val (.long q1), .second, .val (.long q2), .second, .val (.long q3), .second, .val (.int p4), .val (.int p5), .val (.long (own_b q1 (3 : Int32))), .second] [(.long (own_b q1 (3 : Int32))), (.double (g 3))])) _
          refine XS.l2dS X101.here hx rfl (hb hby d4_86) rfl (v := (FP.l2d (own_b q1 (3 : Int32)))) rfl ?_
          show Steps p.tables e below (T101.setTop (mkF m 87 #[.val (.ref a1), .val (.int (3 : Int32)), .val (.long q1), .second, .val (.long q2), .second, .val (.long q3), .second, .val (.int p4), .val (.int p5), .val (.long (own_b q1 (3 : Int32))), .second] [(.double (FP.l2d (own_b q1 (3 : Int32)))), (.double (g 3))])) _
          refine XS.dcmpS X101.here hx rfl (hb hby d4_87) rfl (v := (0 : Int32)) (hout (Or.inr hB)) ?_
          show Steps p.tables e below (T101.setTop (mkF m 88 #[.val (.ref a1), .val (.int (3 : Int32)), .val (.long q1), .second, .val (.long q2), .second, .val (.long q3), .second, .val (.int p4), .val (.int p5), .val (.long (own_b q1 (3 : Int32))), .second] [(.int (0 : Int32))])) _
          refine XS.ifNo X101.here hx rfl (hb hby d4_88) rfl ((if0 _ _).trans (teq ((by decide) : (0 : Int32) = (0 : Int32))).2) ?_
          show Steps p.tables e below (T101.setTop (mkF m 91 #[.val (.ref a1), .val (.int (3 : Int32)), .val (.long q1), .second, .val (.long q2), .second, .val (.long q3), .second, .val (.int p4), .val (.int p5), .val (.long (own_b q1 (3 : Int32))), .second] [])) _
          refine XS.iconst X101.here hx rfl (hb hby d4_91) ?_
          show Steps p.tables e below (T101.setTop (mkF m 92 #[.val (.ref a1), .val (.int (3 : Int32)), .val (.long q1), .second, .val (.long q2), .second, .val (.long q3), .second, .val (.int p4), .val (.int p5), .val (.long (own_b q1 (3 : Int32))), .second] [(.int (1 : Int32))])) _
          refine XS.goto X101.here hx rfl (pc0 := 92) (pc' := 96) rfl (hb hby d4_92) (by decide) (by decide) ?_
          exact kt)
      obtain ⟨fs, hr, hrun, hended, hW, hsame⟩ := X101.leave (v := some (.int (1 : Int32))) (fun h => by rw [Bd.returns] at h; cases h)
      refine ⟨_, _, pre123 _ ?_, hrun, hended, _, _, rfl, ?_, ⟨_, rfl⟩, hW, hsame.mono (by decide) (by decide)⟩
      · show Steps p.tables e below (T101.setTop (mkF m 96 #[.val (.ref a1), .val (.int (3 : Int32)), .val (.long q1), .second, .val (.long q2), .second, .val (.long q3), .second, .val (.int p4), .val (.int p5), .val (.long (own_b q1 (3 : Int32))), .second] [(.int (1 : Int32))])) _
        exact retN X101 hx (t := .boolean) Bd.returns (by simp) (hb hby d4_96) hr
      · show Qok3 Z a1 q1 q2 q3 p4 p5 g kk h0 n0 _ T101.heap _
        rw [e101]
        exact ⟨rfl, N101, rfl⟩
theorem ef_same0 (m : MethodId) (a1 : Addr) (q1 : Int64) : entryFrame m #[(.ref a1), (.long q1), (.int (0 : Int32))] 4 = mkF m 0 #[.val (.ref a1), .val (.long q1), .second, .val (.int (0 : Int32))] [] := by first | (simp [entryFrame, mkF, argsToLocals, Value.category]; done) | rfl
theorem d5_0 : decode method_4_code 0 = .ok (.aload_n 0, 1) := by decide +kernel
theorem d5_1 : decode method_4_code 1 = .ok (.iconst 0, 1) := by decide +kernel
theorem d5_2 : decode method_4_code 2 = .ok (.daload, 1) := by decide +kernel
theorem d5_3 : decode method_4_code 3 = .ok (.lload_n 1, 1) := by decide +kernel
theorem d5_4 : decode method_4_code 4 = .ok (.iload_n 3, 1) := by decide +kernel
theorem d5_5 : decode method_4_code 5 = .ok (.invokestatic 7, 3) := by decide +kernel
theorem d5_8 : decode method_4_code 8 = .ok (.l2d, 1) := by decide +kernel
theorem d5_9 : decode method_4_code 9 = .ok (.dcmp .l, 1) := by decide +kernel
theorem d5_10 : decode method_4_code 10 = .ok (.ifCond .ne 52, 3) := by decide +kernel
theorem d5_13 : decode method_4_code 13 = .ok (.aload_n 0, 1) := by decide +kernel
theorem d5_14 : decode method_4_code 14 = .ok (.iconst 1, 1) := by decide +kernel
theorem d5_15 : decode method_4_code 15 = .ok (.daload, 1) := by decide +kernel
theorem d5_16 : decode method_4_code 16 = .ok (.lload_n 1, 1) := by decide +kernel
theorem d5_17 : decode method_4_code 17 = .ok (.iload_n 3, 1) := by decide +kernel
theorem d5_18 : decode method_4_code 18 = .ok (.iconst 1, 1) := by decide +kernel
theorem d5_19 : decode method_4_code 19 = .ok (.iadd, 1) := by decide +kernel
theorem d5_20 : decode method_4_code 20 = .ok (.invokestatic 7, 3) := by decide +kernel
theorem d5_23 : decode method_4_code 23 = .ok (.l2d, 1) := by decide +kernel
theorem d5_24 : decode method_4_code 24 = .ok (.dcmp .l, 1) := by decide +kernel
theorem d5_25 : decode method_4_code 25 = .ok (.ifCond .ne 37, 3) := by decide +kernel
theorem d5_28 : decode method_4_code 28 = .ok (.aload_n 0, 1) := by decide +kernel
theorem d5_29 : decode method_4_code 29 = .ok (.iconst 2, 1) := by decide +kernel
theorem d5_30 : decode method_4_code 30 = .ok (.daload, 1) := by decide +kernel
theorem d5_31 : decode method_4_code 31 = .ok (.lload_n 1, 1) := by decide +kernel
theorem d5_32 : decode method_4_code 32 = .ok (.iload_n 3, 1) := by decide +kernel
theorem d5_33 : decode method_4_code 33 = .ok (.iconst 2, 1) := by decide +kernel
theorem d5_34 : decode method_4_code 34 = .ok (.iadd, 1) := by decide +kernel
theorem d5_35 : decode method_4_code 35 = .ok (.invokestatic 7, 3) := by decide +kernel
theorem d5_38 : decode method_4_code 38 = .ok (.l2d, 1) := by decide +kernel
theorem d5_39 : decode method_4_code 39 = .ok (.dcmp .l, 1) := by decide +kernel
theorem d5_40 : decode method_4_code 40 = .ok (.ifCond .ne 22, 3) := by decide +kernel
theorem d5_43 : decode method_4_code 43 = .ok (.aload_n 0, 1) := by decide +kernel
theorem d5_44 : decode method_4_code 44 = .ok (.iconst 3, 1) := by decide +kernel
theorem d5_45 : decode method_4_code 45 = .ok (.daload, 1) := by decide +kernel
theorem d5_46 : decode method_4_code 46 = .ok (.lload_n 1, 1) := by decide +kernel
theorem d5_47 : decode method_4_code 47 = .ok (.iload_n 3, 1) := by decide +kernel
theorem d5_48 : decode method_4_code 48 = .ok (.iconst 3, 1) := by decide +kernel
theorem d5_49 : decode method_4_code 49 = .ok (.iadd, 1) := by decide +kernel
theorem d5_50 : decode method_4_code 50 = .ok (.invokestatic 7, 3) := by decide +kernel
theorem d5_53 : decode method_4_code 53 = .ok (.l2d, 1) := by decide +kernel
theorem d5_54 : decode method_4_code 54 = .ok (.dcmp .l, 1) := by decide +kernel
theorem d5_55 : decode method_4_code 55 = .ok (.ifCond .ne 7, 3) := by decide +kernel
theorem d5_58 : decode method_4_code 58 = .ok (.iconst 1, 1) := by decide +kernel
theorem d5_59 : decode method_4_code 59 = .ok (.goto 4, 3) := by decide +kernel
theorem d5_63 : decode method_4_code 63 = .ok (.ireturn, 1) := by decide +kernel
def Qsame0 (Z : State) (a1 : Addr) (q1 : Int64) (kk : ClassId) (h0 : Heap) (n0 : Nat) (v : Option Value) (h : Heap) (L : List Loc) : Prop := v = some (.int (1 : Int32)) ∧ Fr n0 L ∧ h = h0
set_option maxRecDepth 65536 in
set_option maxHeartbeats 40000000 in
theorem rmsame0 (l : Launch) (Z : State) (a0 : Array Value) (hw : ∀ d ∈ tables_1, d.before a0 Z = true) (ws : List Jvm.Cond) (a1 : Addr) (q1 : Int64) (kk : ClassId) (h0 : Heap) (n0 : Nat) (Z0 : n0 ≤ h0.size) (P_V_a1 : Arv Z h0 a1 kk .double (4 : Int32) [(.double (FP.l2d (own_b q1 (0 : Int32)))), (.double (FP.l2d (own_b q1 (1 : Int32)))), (.double (FP.l2d (own_b q1 (2 : Int32)))), (.double (FP.l2d (own_b q1 (3 : Int32))))] (.double (0 : UInt64))) :
    MetFree l (⟨"com/example/orthoform/kernel/LinearCombinationsAddProductsPinLaw", "same", "([DJI)Z"⟩ : MethodName) (head1 (Jvm.Cond.code (⟨"com/example/orthoform/kernel/LinearCombinationsAddProductsPinLaw", "same", "([DJI)Z"⟩ : MethodName) method_4_code 4 (some .boolean) :: ws) ({ frames := 1, cells := 0, slots := 0, locals := 16 } : Room)) (fun a U => a = #[(.ref a1), (.long q1), (.int (0 : Int32))] ∧ Z.Warmed39 U.vm ∧ U.heap = h0) (fun _ _ _ _ _ => True) (fun _ U o U' => ∃ v L, o = .returned v ∧ Qsame0 Z a1 q1 kk h0 n0 v U'.heap L ∧ FrameEnd U o U' L ({ frames := 1, cells := 0, slots := 0, locals := 16 } : Room).cells ({ frames := 1, cells := 0, slots := 0, locals := 16 } : Room).slots) := by
  refine MetFree.of_bodySF (plainFor_of_name pn_com_example_orthoform_kernel_LinearCombinationsAddProductsPinLaw) hisR ?_
  intro p e s m args below meth c s₁ Bd hml0 hP hK
  obtain ⟨rfl, hZ, hh⟩ := hP
  have hx := Bd.exec
  have hby := Bd.bytes
  have hml : c.maxLocals = 4 := hml0
  have hown : s.vm.findClass "com/example/orthoform/kernel/LinearCombinationsAddProductsPinLaw" = some m.cls := findClass_of_methodNamed Bd.named
  have hnm := (name_of_methodNamed Bd.named Bd.method).1
  have X0 : Stand p l e ({ frames := 1, cells := 0, slots := 0, locals := 16 } : Room) s m #[(.ref a1), (.long q1), (.int (0 : Int32))] below meth c s₁ [] 0 0 := Stand.of_body Bd
  have e0 : s₁.heap = h0 := by rw [← hh, Bd.state]; rfl
  have N0 := Fr.nil n0
  have pre0 : ∀ t_, Steps p.tables e below (s₁.setTop (mkF m 0 #[.val (.ref a1), .val (.long q1), .second, .val (.int (0 : Int32))] [])) t_ → Steps p.tables e below (s₁.setTop (entryFrame m #[(.ref a1), (.long q1), (.int (0 : Int32))] 4)) t_ := fun t_ k => castTop (ef_same0 m a1 q1) k
  obtain ⟨cl101, Ar101, Q101, S101, M101, H101, G101⟩ := id P_V_a1
  have in102 : ¬ ((0 : Int32) < 0 ∨ cl101.slots.size ≤ ((0 : Int32)).toNatClampNeg) := inb_of S101 ⟨by decide, by decide⟩
  have at103 : cl101.slots[((0 : Int32)).toNatClampNeg]? = some (.double (FP.l2d (own_b q1 (0 : Int32)))) := H101 0 (by rw [S101]; decide)
  obtain ⟨_, _, ⟨T104, L104, kk104, nn104⟩, -, X104, ⟨Lc104, hQ104, l104, y104, z104⟩, st104⟩ := Jvm.LawKit.callS X0 hx (y := (⟨"com/example/orthoform/kernel/LinearCombinationsAddProductsPinLaw", "b", "(JI)J"⟩ : MethodName)) hown (mvT hZ (hw _ (List.mem_of_getElem? (i := 5) rfl))) (mvT hZ (hw _ (List.mem_of_getElem? (i := 6) rfl))) (mvT hZ (hw _ (List.mem_of_getElem? (i := 2) rfl))) (mvT hZ (hw _ (List.mem_of_getElem? (i := 7) rfl))) (by decide) (backOf (W := 2) (rm2 l Z a0 hw [] q1 (0 : Int32) h0 n0 Z0 ) hZ (hw _ (List.mem_of_getElem? (i := 7) rfl)) (hw _ (List.mem_of_getElem? (i := 2) rfl)) (by decide) (by decide)) (g := (mkF m 5 #[.val (.ref a1), .val (.long q1), .second, .val (.int (0 : Int32))] [(.int (0 : Int32)), (.long q1), (.double (FP.l2d (own_b q1 (0 : Int32))))])) rfl (by rw [hml]; rfl) (argsL := [(.long q1), (.int (0 : Int32))]) (rest := [(.double (FP.l2d (own_b q1 (0 : Int32))))]) (lenOf pd__28JI_29J rfl) rfl (by show 2 * 0 + _ ≤ _; exact Nat.le_of_eq rfl) (hb hby d5_5) (fun _ _ => ⟨rfl, e0, (by decide : 0 + 0 ≤ _), (by decide : 0 + 0 ≤ _)⟩)
  dsimp only [Pt.U, Pt.locs, Pt.cells, Pt.slots] at X104 l104 y104 z104 st104 hQ104
  subst l104 y104 z104
  obtain ⟨rfl, N104q, e104⟩ := hQ104
  have N104 := Fr.app N0 N104q
  obtain ⟨cl105, Ar105, Q105, S105, M105, H105, G105⟩ := id P_V_a1
  have in106 : ¬ ((1 : Int32) < 0 ∨ cl105.slots.size ≤ ((1 : Int32)).toNatClampNeg) := inb_of S105 ⟨by decide, by decide⟩
  have at107 : cl105.slots[((1 : Int32)).toNatClampNeg]? = some (.double (FP.l2d (own_b q1 (1 : Int32)))) := H105 1 (by rw [S105]; decide)
  obtain ⟨_, _, ⟨T108, L108, kk108, nn108⟩, -, X108, ⟨Lc108, hQ108, l108, y108, z108⟩, st108⟩ := Jvm.LawKit.callS X104 hx (y := (⟨"com/example/orthoform/kernel/LinearCombinationsAddProductsPinLaw", "b", "(JI)J"⟩ : MethodName)) hown (mvT hZ (hw _ (List.mem_of_getElem? (i := 5) rfl))) (mvT hZ (hw _ (List.mem_of_getElem? (i := 6) rfl))) (mvT hZ (hw _ (List.mem_of_getElem? (i := 2) rfl))) (mvT hZ (hw _ (List.mem_of_getElem? (i := 7) rfl))) (by decide) (backOf (W := 2) (rm2 l Z a0 hw [] q1 (1 : Int32) h0 n0 Z0 ) hZ (hw _ (List.mem_of_getElem? (i := 7) rfl)) (hw _ (List.mem_of_getElem? (i := 2) rfl)) (by decide) (by decide)) (g := (mkF m 20 #[.val (.ref a1), .val (.long q1), .second, .val (.int (0 : Int32))] [(.int (1 : Int32)), (.long q1), (.double (FP.l2d (own_b q1 (1 : Int32))))])) rfl (by rw [hml]; rfl) (argsL := [(.long q1), (.int (1 : Int32))]) (rest := [(.double (FP.l2d (own_b q1 (1 : Int32))))]) (lenOf pd__28JI_29J rfl) rfl (by show 2 * 0 + _ ≤ _; exact Nat.le_of_eq rfl) (hb hby d5_20) (fun _ _ => ⟨rfl, e104, (by decide : 0 + 0 ≤ _), (by decide : 0 + 0 ≤ _)⟩)
  dsimp only [Pt.U, Pt.locs, Pt.cells, Pt.slots] at X108 l108 y108 z108 st108 hQ108
  subst l108 y108 z108
  obtain ⟨rfl, N108q, e108⟩ := hQ108
  have N108 := Fr.app N104 N108q
  obtain ⟨cl109, Ar109, Q109, S109, M109, H109, G109⟩ := id P_V_a1
  have in110 : ¬ ((2 : Int32) < 0 ∨ cl109.slots.size ≤ ((2 : Int32)).toNatClampNeg) := inb_of S109 ⟨by decide, by decide⟩
  have at111 : cl109.slots[((2 : Int32)).toNatClampNeg]? = some (.double (FP.l2d (own_b q1 (2 : Int32)))) := H109 2 (by rw [S109]; decide)
  obtain ⟨_, _, ⟨T112, L112, kk112, nn112⟩, -, X112, ⟨Lc112, hQ112, l112, y112, z112⟩, st112⟩ := Jvm.LawKit.callS X108 hx (y := (⟨"com/example/orthoform/kernel/LinearCombinationsAddProductsPinLaw", "b", "(JI)J"⟩ : MethodName)) hown (mvT hZ (hw _ (List.mem_of_getElem? (i := 5) rfl))) (mvT hZ (hw _ (List.mem_of_getElem? (i := 6) rfl))) (mvT hZ (hw _ (List.mem_of_getElem? (i := 2) rfl))) (mvT hZ (hw _ (List.mem_of_getElem? (i := 7) rfl))) (by decide) (backOf (W := 2) (rm2 l Z a0 hw [] q1 (2 : Int32) h0 n0 Z0 ) hZ (hw _ (List.mem_of_getElem? (i := 7) rfl)) (hw _ (List.mem_of_getElem? (i := 2) rfl)) (by decide) (by decide)) (g := (mkF m 35 #[.val (.ref a1), .val (.long q1), .second, .val (.int (0 : Int32))] [(.int (2 : Int32)), (.long q1), (.double (FP.l2d (own_b q1 (2 : Int32))))])) rfl (by rw [hml]; rfl) (argsL := [(.long q1), (.int (2 : Int32))]) (rest := [(.double (FP.l2d (own_b q1 (2 : Int32))))]) (lenOf pd__28JI_29J rfl) rfl (by show 2 * 0 + _ ≤ _; exact Nat.le_of_eq rfl) (hb hby d5_35) (fun _ _ => ⟨rfl, e108, (by decide : 0 + 0 ≤ _), (by decide : 0 + 0 ≤ _)⟩)
  dsimp only [Pt.U, Pt.locs, Pt.cells, Pt.slots] at X112 l112 y112 z112 st112 hQ112
  subst l112 y112 z112
  obtain ⟨rfl, N112q, e112⟩ := hQ112
  have N112 := Fr.app N108 N112q
  obtain ⟨cl113, Ar113, Q113, S113, M113, H113, G113⟩ := id P_V_a1
  have in114 : ¬ ((3 : Int32) < 0 ∨ cl113.slots.size ≤ ((3 : Int32)).toNatClampNeg) := inb_of S113 ⟨by decide, by decide⟩
  have at115 : cl113.slots[((3 : Int32)).toNatClampNeg]? = some (.double (FP.l2d (own_b q1 (3 : Int32)))) := H113 3 (by rw [S113]; decide)
  obtain ⟨_, _, ⟨T116, L116, kk116, nn116⟩, -, X116, ⟨Lc116, hQ116, l116, y116, z116⟩, st116⟩ := Jvm.LawKit.callS X112 hx (y := (⟨"com/example/orthoform/kernel/LinearCombinationsAddProductsPinLaw", "b", "(JI)J"⟩ : MethodName)) hown (mvT hZ (hw _ (List.mem_of_getElem? (i := 5) rfl))) (mvT hZ (hw _ (List.mem_of_getElem? (i := 6) rfl))) (mvT hZ (hw _ (List.mem_of_getElem? (i := 2) rfl))) (mvT hZ (hw _ (List.mem_of_getElem? (i := 7) rfl))) (by decide) (backOf (W := 2) (rm2 l Z a0 hw [] q1 (3 : Int32) h0 n0 Z0 ) hZ (hw _ (List.mem_of_getElem? (i := 7) rfl)) (hw _ (List.mem_of_getElem? (i := 2) rfl)) (by decide) (by decide)) (g := (mkF m 50 #[.val (.ref a1), .val (.long q1), .second, .val (.int (0 : Int32))] [(.int (3 : Int32)), (.long q1), (.double (FP.l2d (own_b q1 (3 : Int32))))])) rfl (by rw [hml]; rfl) (argsL := [(.long q1), (.int (3 : Int32))]) (rest := [(.double (FP.l2d (own_b q1 (3 : Int32))))]) (lenOf pd__28JI_29J rfl) rfl (by show 2 * 0 + _ ≤ _; exact Nat.le_of_eq rfl) (hb hby d5_50) (fun _ _ => ⟨rfl, e112, (by decide : 0 + 0 ≤ _), (by decide : 0 + 0 ≤ _)⟩)
  dsimp only [Pt.U, Pt.locs, Pt.cells, Pt.slots] at X116 l116 y116 z116 st116 hQ116
  subst l116 y116 z116
  obtain ⟨rfl, N116q, e116⟩ := hQ116
  have N116 := Fr.app N112 N116q
  have pre117 : ∀ t_, Steps p.tables e below (T116.setTop (mkF m 63 #[.val (.ref a1), .val (.long q1), .second, .val (.int (0 : Int32))] [(.int (1 : Int32))])) t_ → Steps p.tables e below (s₁.setTop (entryFrame m #[(.ref a1), (.long q1), (.int (0 : Int32))] 4)) t_ := fun t_ kt => pre0 t_ (by
      show Steps p.tables e below (s₁.setTop (mkF m 0 #[.val (.ref a1), .val (.long q1), .second, .val (.int (0 : Int32))] [])) _
      refine XS.aloadN X0.here hx rfl (hb hby d5_0) rfl rfl ?_
      show Steps p.tables e below (s₁.setTop (mkF m 1 #[.val (.ref a1), .val (.long q1), .second, .val (.int (0 : Int32))] [(.ref a1)])) _
      refine XS.iconst X0.here hx rfl (hb hby d5_1) ?_
      show Steps p.tables e below (s₁.setTop (mkF m 2 #[.val (.ref a1), .val (.long q1), .second, .val (.int (0 : Int32))] [(.int (0 : Int32)), (.ref a1)])) _
      refine X0.daload hx (j := (0 : Int32)) (v := (.double (FP.l2d (own_b q1 (0 : Int32))))) (by rw [e0]; exact Ar101.1) (State.isArrayOf_alike hZ.alike Ar101.2.1) Ar101.2.2 in102 at103 (g := (mkF m 2 #[.val (.ref a1), .val (.long q1), .second, .val (.int (0 : Int32))] [(.int (0 : Int32)), (.ref a1)])) rfl rfl (hb hby d5_2) _ ?_
      show Steps p.tables e below (s₁.setTop (mkF m 3 #[.val (.ref a1), .val (.long q1), .second, .val (.int (0 : Int32))] [(.double (FP.l2d (own_b q1 (0 : Int32))))])) _
      refine XS.lloadN X0.here hx rfl (hb hby d5_3) rfl ?_
      show Steps p.tables e below (s₁.setTop (mkF m 4 #[.val (.ref a1), .val (.long q1), .second, .val (.int (0 : Int32))] [(.long q1), (.double (FP.l2d (own_b q1 (0 : Int32))))])) _
      refine XS.iloadN X0.here hx rfl (hb hby d5_4) rfl ?_
      show Steps p.tables e below (s₁.setTop (mkF m 5 #[.val (.ref a1), .val (.long q1), .second, .val (.int (0 : Int32))] [(.int (0 : Int32)), (.long q1), (.double (FP.l2d (own_b q1 (0 : Int32))))])) _
      refine st104 _ ?_
      show Steps p.tables e below (T104.setTop (mkF m 8 #[.val (.ref a1), .val (.long q1), .second, .val (.int (0 : Int32))] [(.long (own_b q1 (0 : Int32))), (.double (FP.l2d (own_b q1 (0 : Int32))))])) _
      refine XS.l2dS X104.here hx rfl (hb hby d5_8) rfl (v := (FP.l2d (own_b q1 (0 : Int32)))) rfl ?_
      show Steps p.tables e below (T104.setTop (mkF m 9 #[.val (.ref a1), .val (.long q1), .second, .val (.int (0 : Int32))] [(.double (FP.l2d (own_b q1 (0 : Int32)))), (.double (FP.l2d (own_b q1 (0 : Int32))))])) _
      refine XS.dcmpS X104.here hx rfl (hb hby d5_9) rfl (v := (0 : Int32)) (dcmpV_self (Fl.l2d_fin _).noNaN .l) ?_
      show Steps p.tables e below (T104.setTop (mkF m 10 #[.val (.ref a1), .val (.long q1), .second, .val (.int (0 : Int32))] [(.int (0 : Int32))])) _
      refine XS.ifNo X104.here hx rfl (hb hby d5_10) rfl ((if0 _ _).trans (teq ((by decide) : (0 : Int32) = (0 : Int32))).2) ?_
      show Steps p.tables e below (T104.setTop (mkF m 13 #[.val (.ref a1), .val (.long q1), .second, .val (.int (0 : Int32))] [])) _
      refine XS.aloadN X104.here hx rfl (hb hby d5_13) rfl rfl ?_
      show Steps p.tables e below (T104.setTop (mkF m 14 #[.val (.ref a1), .val (.long q1), .second, .val (.int (0 : Int32))] [(.ref a1)])) _
      refine XS.iconst X104.here hx rfl (hb hby d5_14) ?_
      show Steps p.tables e below (T104.setTop (mkF m 15 #[.val (.ref a1), .val (.long q1), .second, .val (.int (0 : Int32))] [(.int (1 : Int32)), (.ref a1)])) _
      refine X104.daload hx (j := (1 : Int32)) (v := (.double (FP.l2d (own_b q1 (1 : Int32))))) (by rw [e104]; exact Ar105.1) (State.isArrayOf_alike hZ.alike Ar105.2.1) Ar105.2.2 in106 at107 (g := (mkF m 15 #[.val (.ref a1), .val (.long q1), .second, .val (.int (0 : Int32))] [(.int (1 : Int32)), (.ref a1)])) rfl rfl (hb hby d5_15) _ ?_
      show Steps p.tables e below (T104.setTop (mkF m 16 #[.val (.ref a1), .val (.long q1), .second, .val (.int (0 : Int32))] [(.double (FP.l2d (own_b q1 (1 : Int32))))])) _
      refine XS.lloadN X104.here hx rfl (hb hby d5_16) rfl ?_
      show Steps p.tables e below (T104.setTop (mkF m 17 #[.val (.ref a1), .val (.long q1), .second, .val (.int (0 : Int32))] [(.long q1), (.double (FP.l2d (own_b q1 (1 : Int32))))])) _
      refine XS.iloadN X104.here hx rfl (hb hby d5_17) rfl ?_
      show Steps p.tables e below (T104.setTop (mkF m 18 #[.val (.ref a1), .val (.long q1), .second, .val (.int (0 : Int32))] [(.int (0 : Int32)), (.long q1), (.double (FP.l2d (own_b q1 (1 : Int32))))])) _
      refine XS.iconst X104.here hx rfl (hb hby d5_18) ?_
      show Steps p.tables e below (T104.setTop (mkF m 19 #[.val (.ref a1), .val (.long q1), .second, .val (.int (0 : Int32))] [(.int (1 : Int32)), (.int (0 : Int32)), (.long q1), (.double (FP.l2d (own_b q1 (1 : Int32))))])) _
      refine XS.iadd X104.here hx rfl (hb hby d5_19) rfl ?_
      show Steps p.tables e below (T104.setTop (mkF m 20 #[.val (.ref a1), .val (.long q1), .second, .val (.int (0 : Int32))] [(.int (1 : Int32)), (.long q1), (.double (FP.l2d (own_b q1 (1 : Int32))))])) _
      refine st108 _ ?_
      show Steps p.tables e below (T108.setTop (mkF m 23 #[.val (.ref a1), .val (.long q1), .second, .val (.int (0 : Int32))] [(.long (own_b q1 (1 : Int32))), (.double (FP.l2d (own_b q1 (1 : Int32))))])) _
      refine XS.l2dS X108.here hx rfl (hb hby d5_23) rfl (v := (FP.l2d (own_b q1 (1 : Int32)))) rfl ?_
      show Steps p.tables e below (T108.setTop (mkF m 24 #[.val (.ref a1), .val (.long q1), .second, .val (.int (0 : Int32))] [(.double (FP.l2d (own_b q1 (1 : Int32)))), (.double (FP.l2d (own_b q1 (1 : Int32))))])) _
      refine XS.dcmpS X108.here hx rfl (hb hby d5_24) rfl (v := (0 : Int32)) (dcmpV_self (Fl.l2d_fin _).noNaN .l) ?_
      show Steps p.tables e below (T108.setTop (mkF m 25 #[.val (.ref a1), .val (.long q1), .second, .val (.int (0 : Int32))] [(.int (0 : Int32))])) _
      refine XS.ifNo X108.here hx rfl (hb hby d5_25) rfl ((if0 _ _).trans (teq ((by decide) : (0 : Int32) = (0 : Int32))).2) ?_
      show Steps p.tables e below (T108.setTop (mkF m 28 #[.val (.ref a1), .val (.long q1), .second, .val (.int (0 : Int32))] [])) _
      refine XS.aloadN X108.here hx rfl (hb hby d5_28) rfl rfl ?_
      show Steps p.tables e below (T108.setTop (mkF m 29 #[.val (.ref a1), .val (.long q1), .second, .val (.int (0 : Int32))] [(.ref a1)])) _
      refine XS.iconst X108.here hx rfl (hb hby d5_29) ?_
      show Steps p.tables e below (T108.setTop (mkF m 30 #[.val (.ref a1), .val (.long q1), .second, .val (.int (0 : Int32))] [(.int (2 : Int32)), (.ref a1)])) _
      refine X108.daload hx (j := (2 : Int32)) (v := (.double (FP.l2d (own_b q1 (2 : Int32))))) (by rw [e108]; exact Ar109.1) (State.isArrayOf_alike hZ.alike Ar109.2.1) Ar109.2.2 in110 at111 (g := (mkF m 30 #[.val (.ref a1), .val (.long q1), .second, .val (.int (0 : Int32))] [(.int (2 : Int32)), (.ref a1)])) rfl rfl (hb hby d5_30) _ ?_
      show Steps p.tables e below (T108.setTop (mkF m 31 #[.val (.ref a1), .val (.long q1), .second, .val (.int (0 : Int32))] [(.double (FP.l2d (own_b q1 (2 : Int32))))])) _
      refine XS.lloadN X108.here hx rfl (hb hby d5_31) rfl ?_
      show Steps p.tables e below (T108.setTop (mkF m 32 #[.val (.ref a1), .val (.long q1), .second, .val (.int (0 : Int32))] [(.long q1), (.double (FP.l2d (own_b q1 (2 : Int32))))])) _
      refine XS.iloadN X108.here hx rfl (hb hby d5_32) rfl ?_
      show Steps p.tables e below (T108.setTop (mkF m 33 #[.val (.ref a1), .val (.long q1), .second, .val (.int (0 : Int32))] [(.int (0 : Int32)), (.long q1), (.double (FP.l2d (own_b q1 (2 : Int32))))])) _
      refine XS.iconst X108.here hx rfl (hb hby d5_33) ?_
      show Steps p.tables e below (T108.setTop (mkF m 34 #[.val (.ref a1), .val (.long q1), .second, .val (.int (0 : Int32))] [(.int (2 : Int32)), (.int (0 : Int32)), (.long q1), (.double (FP.l2d (own_b q1 (2 : Int32))))])) _
      refine XS.iadd X108.here hx rfl (hb hby d5_34) rfl ?_
      show Steps p.tables e below (T108.setTop (mkF m 35 #[.val (.ref a1), .val (.long q1), .second, .val (.int (0 : Int32))] [(.int (2 : Int32)), (.long q1), (.double (FP.l2d (own_b q1 (2 : Int32))))])) _
      refine st112 _ ?_
      show Steps p.tables e below (T112.setTop (mkF m 38 #[.val (.ref a1), .val (.long q1), .second, .val (.int (0 : Int32))] [(.long (own_b q1 (2 : Int32))), (.double (FP.l2d (own_b q1 (2 : Int32))))])) _
      refine XS.l2dS X112.here hx rfl (hb hby d5_38) rfl (v := (FP.l2d (own_b q1 (2 : Int32)))) rfl ?_
      show Steps p.tables e below (T112.setTop (mkF m 39 #[.val (.ref a1), .val (.long q1), .second, .val (.int (0 : Int32))] [(.double (FP.l2d (own_b q1 (2 : Int32)))), (.double (FP.l2d (own_b q1 (2 : Int32))))])) _
      refine XS.dcmpS X112.here hx rfl (hb hby d5_39) rfl (v := (0 : Int32)) (dcmpV_self (Fl.l2d_fin _).noNaN .l) ?_
      show Steps p.tables e below (T112.setTop (mkF m 40 #[.val (.ref a1), .val (.long q1), .second, .val (.int (0 : Int32))] [(.int (0 : Int32))])) _
      refine XS.ifNo X112.here hx rfl (hb hby d5_40) rfl ((if0 _ _).trans (teq ((by decide) : (0 : Int32) = (0 : Int32))).2) ?_
      show Steps p.tables e below (T112.setTop (mkF m 43 #[.val (.ref a1), .val (.long q1), .second, .val (.int (0 : Int32))] [])) _
      refine XS.aloadN X112.here hx rfl (hb hby d5_43) rfl rfl ?_
      show Steps p.tables e below (T112.setTop (mkF m 44 #[.val (.ref a1), .val (.long q1), .second, .val (.int (0 : Int32))] [(.ref a1)])) _
      refine XS.iconst X112.here hx rfl (hb hby d5_44) ?_
      show Steps p.tables e below (T112.setTop (mkF m 45 #[.val (.ref a1), .val (.long q1), .second, .val (.int (0 : Int32))] [(.int (3 : Int32)), (.ref a1)])) _
      refine X112.daload hx (j := (3 : Int32)) (v := (.double (FP.l2d (own_b q1 (3 : Int32))))) (by rw [e112]; exact Ar113.1) (State.isArrayOf_alike hZ.alike Ar113.2.1) Ar113.2.2 in114 at115 (g := (mkF m 45 #[.val (.ref a1), .val (.long q1), .second, .val (.int (0 : Int32))] [(.int (3 : Int32)), (.ref a1)])) rfl rfl (hb hby d5_45) _ ?_
      show Steps p.tables e below (T112.setTop (mkF m 46 #[.val (.ref a1), .val (.long q1), .second, .val (.int (0 : Int32))] [(.double (FP.l2d (own_b q1 (3 : Int32))))])) _
      refine XS.lloadN X112.here hx rfl (hb hby d5_46) rfl ?_
      show Steps p.tables e below (T112.setTop (mkF m 47 #[.val (.ref a1), .val (.long q1), .second, .val (.int (0 : Int32))] [(.long q1), (.double (FP.l2d (own_b q1 (3 : Int32))))])) _
      refine XS.iloadN X112.here hx rfl (hb hby d5_47) rfl ?_
      show Steps p.tables e below (T112.setTop (mkF m 48 #[.val (.ref a1), .val (.long q1), .second, .val (.int (0 : Int32))] [(.int (0 : Int32)), (.long q1), (.double (FP.l2d (own_b q1 (3 : Int32))))])) _
      refine XS.iconst X112.here hx rfl (hb hby d5_48) ?_
      show Steps p.tables e below (T112.setTop (mkF m 49 #[.val (.ref a1), .val (.long q1), .second, .val (.int (0 : Int32))] [(.int (3 : Int32)), (.int (0 : Int32)), (.long q1), (.double (FP.l2d (own_b q1 (3 : Int32))))])) _
      refine XS.iadd X112.here hx rfl (hb hby d5_49) rfl ?_
      show Steps p.tables e below (T112.setTop (mkF m 50 #[.val (.ref a1), .val (.long q1), .second, .val (.int (0 : Int32))] [(.int (3 : Int32)), (.long q1), (.double (FP.l2d (own_b q1 (3 : Int32))))])) _
      refine st116 _ ?_
      show Steps p.tables e below (T116.setTop (mkF m 53 #[.val (.ref a1), .val (.long q1), .second, .val (.int (0 : Int32))] [(.long (own_b q1 (3 : Int32))), (.double (FP.l2d (own_b q1 (3 : Int32))))])) _
      refine XS.l2dS X116.here hx rfl (hb hby d5_53) rfl (v := (FP.l2d (own_b q1 (3 : Int32)))) rfl ?_
      show Steps p.tables e below (T116.setTop (mkF m 54 #[.val (.ref a1), .val (.long q1), .second, .val (.int (0 : Int32))] [(.double (FP.l2d (own_b q1 (3 : Int32)))), (.double (FP.l2d (own_b q1 (3 : Int32))))])) _
      refine XS.dcmpS X116.here hx rfl (hb hby d5_54) rfl (v := (0 : Int32)) (dcmpV_self (Fl.l2d_fin _).noNaN .l) ?_
      show Steps p.tables e below (T116.setTop (mkF m 55 #[.val (.ref a1), .val (.long q1), .second, .val (.int (0 : Int32))] [(.int (0 : Int32))])) _
      refine XS.ifNo X116.here hx rfl (hb hby d5_55) rfl ((if0 _ _).trans (teq ((by decide) : (0 : Int32) = (0 : Int32))).2) ?_
      show Steps p.tables e below (T116.setTop (mkF m 58 #[.val (.ref a1), .val (.long q1), .second, .val (.int (0 : Int32))] [])) _
      refine XS.iconst X116.here hx rfl (hb hby d5_58) ?_
      show Steps p.tables e below (T116.setTop (mkF m 59 #[.val (.ref a1), .val (.long q1), .second, .val (.int (0 : Int32))] [(.int (1 : Int32))])) _
      refine XS.goto X116.here hx rfl (pc0 := 59) (pc' := 63) rfl (hb hby d5_59) (by decide) (by decide) ?_
      exact kt)
  obtain ⟨fs, hr, hrun, hended, hW, hsame⟩ := X116.leave (v := some (.int (1 : Int32))) (fun h => by rw [Bd.returns] at h; cases h)
  refine ⟨_, _, pre117 _ ?_, hrun, hended, _, _, rfl, ?_, ⟨_, rfl⟩, hW, hsame.mono (by decide) (by decide)⟩
  · show Steps p.tables e below (T116.setTop (mkF m 63 #[.val (.ref a1), .val (.long q1), .second, .val (.int (0 : Int32))] [(.int (1 : Int32))])) _
    exact retN X116 hx (t := .boolean) Bd.returns (by simp) (hb hby d5_63) hr
  · show Qsame0 Z a1 q1 kk h0 n0 _ T116.heap _
    rw [e116]
    exact ⟨rfl, N116, rfl⟩
theorem ef_same4 (m : MethodId) (a1 : Addr) (q1 : Int64) : entryFrame m #[(.ref a1), (.long q1), (.int (4 : Int32))] 4 = mkF m 0 #[.val (.ref a1), .val (.long q1), .second, .val (.int (4 : Int32))] [] := by first | (simp [entryFrame, mkF, argsToLocals, Value.category]; done) | rfl
def Qsame4 (Z : State) (a1 : Addr) (q1 : Int64) (kk : ClassId) (h0 : Heap) (n0 : Nat) (v : Option Value) (h : Heap) (L : List Loc) : Prop := v = some (.int (1 : Int32)) ∧ Fr n0 L ∧ h = h0
set_option maxRecDepth 65536 in
set_option maxHeartbeats 40000000 in
theorem rmsame4 (l : Launch) (Z : State) (a0 : Array Value) (hw : ∀ d ∈ tables_1, d.before a0 Z = true) (ws : List Jvm.Cond) (a1 : Addr) (q1 : Int64) (kk : ClassId) (h0 : Heap) (n0 : Nat) (Z0 : n0 ≤ h0.size) (P_V_a1 : Arv Z h0 a1 kk .double (4 : Int32) [(.double (FP.l2d (own_b q1 (4 : Int32)))), (.double (FP.l2d (own_b q1 (5 : Int32)))), (.double (FP.l2d (own_b q1 (6 : Int32)))), (.double (FP.l2d (own_b q1 (7 : Int32))))] (.double (0 : UInt64))) :
    MetFree l (⟨"com/example/orthoform/kernel/LinearCombinationsAddProductsPinLaw", "same", "([DJI)Z"⟩ : MethodName) (head1 (Jvm.Cond.code (⟨"com/example/orthoform/kernel/LinearCombinationsAddProductsPinLaw", "same", "([DJI)Z"⟩ : MethodName) method_4_code 4 (some .boolean) :: ws) ({ frames := 1, cells := 0, slots := 0, locals := 16 } : Room)) (fun a U => a = #[(.ref a1), (.long q1), (.int (4 : Int32))] ∧ Z.Warmed39 U.vm ∧ U.heap = h0) (fun _ _ _ _ _ => True) (fun _ U o U' => ∃ v L, o = .returned v ∧ Qsame4 Z a1 q1 kk h0 n0 v U'.heap L ∧ FrameEnd U o U' L ({ frames := 1, cells := 0, slots := 0, locals := 16 } : Room).cells ({ frames := 1, cells := 0, slots := 0, locals := 16 } : Room).slots) := by
  refine MetFree.of_bodySF (plainFor_of_name pn_com_example_orthoform_kernel_LinearCombinationsAddProductsPinLaw) hisR ?_
  intro p e s m args below meth c s₁ Bd hml0 hP hK
  obtain ⟨rfl, hZ, hh⟩ := hP
  have hx := Bd.exec
  have hby := Bd.bytes
  have hml : c.maxLocals = 4 := hml0
  have hown : s.vm.findClass "com/example/orthoform/kernel/LinearCombinationsAddProductsPinLaw" = some m.cls := findClass_of_methodNamed Bd.named
  have hnm := (name_of_methodNamed Bd.named Bd.method).1
  have X0 : Stand p l e ({ frames := 1, cells := 0, slots := 0, locals := 16 } : Room) s m #[(.ref a1), (.long q1), (.int (4 : Int32))] below meth c s₁ [] 0 0 := Stand.of_body Bd
  have e0 : s₁.heap = h0 := by rw [← hh, Bd.state]; rfl
  have N0 := Fr.nil n0
  have pre0 : ∀ t_, Steps p.tables e below (s₁.setTop (mkF m 0 #[.val (.ref a1), .val (.long q1), .second, .val (.int (4 : Int32))] [])) t_ → Steps p.tables e below (s₁.setTop (entryFrame m #[(.ref a1), (.long q1), (.int (4 : Int32))] 4)) t_ := fun t_ k => castTop (ef_same4 m a1 q1) k
  obtain ⟨cl101, Ar101, Q101, S101, M101, H101, G101⟩ := id P_V_a1
  have in102 : ¬ ((0 : Int32) < 0 ∨ cl101.slots.size ≤ ((0 : Int32)).toNatClampNeg) := inb_of S101 ⟨by decide, by decide⟩
  have at103 : cl101.slots[((0 : Int32)).toNatClampNeg]? = some (.double (FP.l2d (own_b q1 (4 : Int32)))) := H101 0 (by rw [S101]; decide)
  obtain ⟨_, _, ⟨T104, L104, kk104, nn104⟩, -, X104, ⟨Lc104, hQ104, l104, y104, z104⟩, st104⟩ := Jvm.LawKit.callS X0 hx (y := (⟨"com/example/orthoform/kernel/LinearCombinationsAddProductsPinLaw", "b", "(JI)J"⟩ : MethodName)) hown (mvT hZ (hw _ (List.mem_of_getElem? (i := 5) rfl))) (mvT hZ (hw _ (List.mem_of_getElem? (i := 6) rfl))) (mvT hZ (hw _ (List.mem_of_getElem? (i := 2) rfl))) (mvT hZ (hw _ (List.mem_of_getElem? (i := 7) rfl))) (by decide) (backOf (W := 2) (rm2 l Z a0 hw [] q1 (4 : Int32) h0 n0 Z0 ) hZ (hw _ (List.mem_of_getElem? (i := 7) rfl)) (hw _ (List.mem_of_getElem? (i := 2) rfl)) (by decide) (by decide)) (g := (mkF m 5 #[.val (.ref a1), .val (.long q1), .second, .val (.int (4 : Int32))] [(.int (4 : Int32)), (.long q1), (.double (FP.l2d (own_b q1 (4 : Int32))))])) rfl (by rw [hml]; rfl) (argsL := [(.long q1), (.int (4 : Int32))]) (rest := [(.double (FP.l2d (own_b q1 (4 : Int32))))]) (lenOf pd__28JI_29J rfl) rfl (by show 2 * 0 + _ ≤ _; exact Nat.le_of_eq rfl) (hb hby d5_5) (fun _ _ => ⟨rfl, e0, (by decide : 0 + 0 ≤ _), (by decide : 0 + 0 ≤ _)⟩)
  dsimp only [Pt.U, Pt.locs, Pt.cells, Pt.slots] at X104 l104 y104 z104 st104 hQ104
  subst l104 y104 z104
  obtain ⟨rfl, N104q, e104⟩ := hQ104
  have N104 := Fr.app N0 N104q
  obtain ⟨cl105, Ar105, Q105, S105, M105, H105, G105⟩ := id P_V_a1
  have in106 : ¬ ((1 : Int32) < 0 ∨ cl105.slots.size ≤ ((1 : Int32)).toNatClampNeg) := inb_of S105 ⟨by decide, by decide⟩
  have at107 : cl105.slots[((1 : Int32)).toNatClampNeg]? = some (.double (FP.l2d (own_b q1 (5 : Int32)))) := H105 1 (by rw [S105]; decide)
  obtain ⟨_, _, ⟨T108, L108, kk108, nn108⟩, -, X108, ⟨Lc108, hQ108, l108, y108, z108⟩, st108⟩ := Jvm.LawKit.callS X104 hx (y := (⟨"com/example/orthoform/kernel/LinearCombinationsAddProductsPinLaw", "b", "(JI)J"⟩ : MethodName)) hown (mvT hZ (hw _ (List.mem_of_getElem? (i := 5) rfl))) (mvT hZ (hw _ (List.mem_of_getElem? (i := 6) rfl))) (mvT hZ (hw _ (List.mem_of_getElem? (i := 2) rfl))) (mvT hZ (hw _ (List.mem_of_getElem? (i := 7) rfl))) (by decide) (backOf (W := 2) (rm2 l Z a0 hw [] q1 (5 : Int32) h0 n0 Z0 ) hZ (hw _ (List.mem_of_getElem? (i := 7) rfl)) (hw _ (List.mem_of_getElem? (i := 2) rfl)) (by decide) (by decide)) (g := (mkF m 20 #[.val (.ref a1), .val (.long q1), .second, .val (.int (4 : Int32))] [(.int (5 : Int32)), (.long q1), (.double (FP.l2d (own_b q1 (5 : Int32))))])) rfl (by rw [hml]; rfl) (argsL := [(.long q1), (.int (5 : Int32))]) (rest := [(.double (FP.l2d (own_b q1 (5 : Int32))))]) (lenOf pd__28JI_29J rfl) rfl (by show 2 * 0 + _ ≤ _; exact Nat.le_of_eq rfl) (hb hby d5_20) (fun _ _ => ⟨rfl, e104, (by decide : 0 + 0 ≤ _), (by decide : 0 + 0 ≤ _)⟩)
  dsimp only [Pt.U, Pt.locs, Pt.cells, Pt.slots] at X108 l108 y108 z108 st108 hQ108
  subst l108 y108 z108
  obtain ⟨rfl, N108q, e108⟩ := hQ108
  have N108 := Fr.app N104 N108q
  obtain ⟨cl109, Ar109, Q109, S109, M109, H109, G109⟩ := id P_V_a1
  have in110 : ¬ ((2 : Int32) < 0 ∨ cl109.slots.size ≤ ((2 : Int32)).toNatClampNeg) := inb_of S109 ⟨by decide, by decide⟩
  have at111 : cl109.slots[((2 : Int32)).toNatClampNeg]? = some (.double (FP.l2d (own_b q1 (6 : Int32)))) := H109 2 (by rw [S109]; decide)
  obtain ⟨_, _, ⟨T112, L112, kk112, nn112⟩, -, X112, ⟨Lc112, hQ112, l112, y112, z112⟩, st112⟩ := Jvm.LawKit.callS X108 hx (y := (⟨"com/example/orthoform/kernel/LinearCombinationsAddProductsPinLaw", "b", "(JI)J"⟩ : MethodName)) hown (mvT hZ (hw _ (List.mem_of_getElem? (i := 5) rfl))) (mvT hZ (hw _ (List.mem_of_getElem? (i := 6) rfl))) (mvT hZ (hw _ (List.mem_of_getElem? (i := 2) rfl))) (mvT hZ (hw _ (List.mem_of_getElem? (i := 7) rfl))) (by decide) (backOf (W := 2) (rm2 l Z a0 hw [] q1 (6 : Int32) h0 n0 Z0 ) hZ (hw _ (List.mem_of_getElem? (i := 7) rfl)) (hw _ (List.mem_of_getElem? (i := 2) rfl)) (by decide) (by decide)) (g := (mkF m 35 #[.val (.ref a1), .val (.long q1), .second, .val (.int (4 : Int32))] [(.int (6 : Int32)), (.long q1), (.double (FP.l2d (own_b q1 (6 : Int32))))])) rfl (by rw [hml]; rfl) (argsL := [(.long q1), (.int (6 : Int32))]) (rest := [(.double (FP.l2d (own_b q1 (6 : Int32))))]) (lenOf pd__28JI_29J rfl) rfl (by show 2 * 0 + _ ≤ _; exact Nat.le_of_eq rfl) (hb hby d5_35) (fun _ _ => ⟨rfl, e108, (by decide : 0 + 0 ≤ _), (by decide : 0 + 0 ≤ _)⟩)
  dsimp only [Pt.U, Pt.locs, Pt.cells, Pt.slots] at X112 l112 y112 z112 st112 hQ112
  subst l112 y112 z112
  obtain ⟨rfl, N112q, e112⟩ := hQ112
  have N112 := Fr.app N108 N112q
  obtain ⟨cl113, Ar113, Q113, S113, M113, H113, G113⟩ := id P_V_a1
  have in114 : ¬ ((3 : Int32) < 0 ∨ cl113.slots.size ≤ ((3 : Int32)).toNatClampNeg) := inb_of S113 ⟨by decide, by decide⟩
  have at115 : cl113.slots[((3 : Int32)).toNatClampNeg]? = some (.double (FP.l2d (own_b q1 (7 : Int32)))) := H113 3 (by rw [S113]; decide)
  obtain ⟨_, _, ⟨T116, L116, kk116, nn116⟩, -, X116, ⟨Lc116, hQ116, l116, y116, z116⟩, st116⟩ := Jvm.LawKit.callS X112 hx (y := (⟨"com/example/orthoform/kernel/LinearCombinationsAddProductsPinLaw", "b", "(JI)J"⟩ : MethodName)) hown (mvT hZ (hw _ (List.mem_of_getElem? (i := 5) rfl))) (mvT hZ (hw _ (List.mem_of_getElem? (i := 6) rfl))) (mvT hZ (hw _ (List.mem_of_getElem? (i := 2) rfl))) (mvT hZ (hw _ (List.mem_of_getElem? (i := 7) rfl))) (by decide) (backOf (W := 2) (rm2 l Z a0 hw [] q1 (7 : Int32) h0 n0 Z0 ) hZ (hw _ (List.mem_of_getElem? (i := 7) rfl)) (hw _ (List.mem_of_getElem? (i := 2) rfl)) (by decide) (by decide)) (g := (mkF m 50 #[.val (.ref a1), .val (.long q1), .second, .val (.int (4 : Int32))] [(.int (7 : Int32)), (.long q1), (.double (FP.l2d (own_b q1 (7 : Int32))))])) rfl (by rw [hml]; rfl) (argsL := [(.long q1), (.int (7 : Int32))]) (rest := [(.double (FP.l2d (own_b q1 (7 : Int32))))]) (lenOf pd__28JI_29J rfl) rfl (by show 2 * 0 + _ ≤ _; exact Nat.le_of_eq rfl) (hb hby d5_50) (fun _ _ => ⟨rfl, e112, (by decide : 0 + 0 ≤ _), (by decide : 0 + 0 ≤ _)⟩)
  dsimp only [Pt.U, Pt.locs, Pt.cells, Pt.slots] at X116 l116 y116 z116 st116 hQ116
  subst l116 y116 z116
  obtain ⟨rfl, N116q, e116⟩ := hQ116
  have N116 := Fr.app N112 N116q
  have pre117 : ∀ t_, Steps p.tables e below (T116.setTop (mkF m 63 #[.val (.ref a1), .val (.long q1), .second, .val (.int (4 : Int32))] [(.int (1 : Int32))])) t_ → Steps p.tables e below (s₁.setTop (entryFrame m #[(.ref a1), (.long q1), (.int (4 : Int32))] 4)) t_ := fun t_ kt => pre0 t_ (by
      show Steps p.tables e below (s₁.setTop (mkF m 0 #[.val (.ref a1), .val (.long q1), .second, .val (.int (4 : Int32))] [])) _
      refine XS.aloadN X0.here hx rfl (hb hby d5_0) rfl rfl ?_
      show Steps p.tables e below (s₁.setTop (mkF m 1 #[.val (.ref a1), .val (.long q1), .second, .val (.int (4 : Int32))] [(.ref a1)])) _
      refine XS.iconst X0.here hx rfl (hb hby d5_1) ?_
      show Steps p.tables e below (s₁.setTop (mkF m 2 #[.val (.ref a1), .val (.long q1), .second, .val (.int (4 : Int32))] [(.int (0 : Int32)), (.ref a1)])) _
      refine X0.daload hx (j := (0 : Int32)) (v := (.double (FP.l2d (own_b q1 (4 : Int32))))) (by rw [e0]; exact Ar101.1) (State.isArrayOf_alike hZ.alike Ar101.2.1) Ar101.2.2 in102 at103 (g := (mkF m 2 #[.val (.ref a1), .val (.long q1), .second, .val (.int (4 : Int32))] [(.int (0 : Int32)), (.ref a1)])) rfl rfl (hb hby d5_2) _ ?_
      show Steps p.tables e below (s₁.setTop (mkF m 3 #[.val (.ref a1), .val (.long q1), .second, .val (.int (4 : Int32))] [(.double (FP.l2d (own_b q1 (4 : Int32))))])) _
      refine XS.lloadN X0.here hx rfl (hb hby d5_3) rfl ?_
      show Steps p.tables e below (s₁.setTop (mkF m 4 #[.val (.ref a1), .val (.long q1), .second, .val (.int (4 : Int32))] [(.long q1), (.double (FP.l2d (own_b q1 (4 : Int32))))])) _
      refine XS.iloadN X0.here hx rfl (hb hby d5_4) rfl ?_
      show Steps p.tables e below (s₁.setTop (mkF m 5 #[.val (.ref a1), .val (.long q1), .second, .val (.int (4 : Int32))] [(.int (4 : Int32)), (.long q1), (.double (FP.l2d (own_b q1 (4 : Int32))))])) _
      refine st104 _ ?_
      show Steps p.tables e below (T104.setTop (mkF m 8 #[.val (.ref a1), .val (.long q1), .second, .val (.int (4 : Int32))] [(.long (own_b q1 (4 : Int32))), (.double (FP.l2d (own_b q1 (4 : Int32))))])) _
      refine XS.l2dS X104.here hx rfl (hb hby d5_8) rfl (v := (FP.l2d (own_b q1 (4 : Int32)))) rfl ?_
      show Steps p.tables e below (T104.setTop (mkF m 9 #[.val (.ref a1), .val (.long q1), .second, .val (.int (4 : Int32))] [(.double (FP.l2d (own_b q1 (4 : Int32)))), (.double (FP.l2d (own_b q1 (4 : Int32))))])) _
      refine XS.dcmpS X104.here hx rfl (hb hby d5_9) rfl (v := (0 : Int32)) (dcmpV_self (Fl.l2d_fin _).noNaN .l) ?_
      show Steps p.tables e below (T104.setTop (mkF m 10 #[.val (.ref a1), .val (.long q1), .second, .val (.int (4 : Int32))] [(.int (0 : Int32))])) _
      refine XS.ifNo X104.here hx rfl (hb hby d5_10) rfl ((if0 _ _).trans (teq ((by decide) : (0 : Int32) = (0 : Int32))).2) ?_
      show Steps p.tables e below (T104.setTop (mkF m 13 #[.val (.ref a1), .val (.long q1), .second, .val (.int (4 : Int32))] [])) _
      refine XS.aloadN X104.here hx rfl (hb hby d5_13) rfl rfl ?_
      show Steps p.tables e below (T104.setTop (mkF m 14 #[.val (.ref a1), .val (.long q1), .second, .val (.int (4 : Int32))] [(.ref a1)])) _
      refine XS.iconst X104.here hx rfl (hb hby d5_14) ?_
      show Steps p.tables e below (T104.setTop (mkF m 15 #[.val (.ref a1), .val (.long q1), .second, .val (.int (4 : Int32))] [(.int (1 : Int32)), (.ref a1)])) _
      refine X104.daload hx (j := (1 : Int32)) (v := (.double (FP.l2d (own_b q1 (5 : Int32))))) (by rw [e104]; exact Ar105.1) (State.isArrayOf_alike hZ.alike Ar105.2.1) Ar105.2.2 in106 at107 (g := (mkF m 15 #[.val (.ref a1), .val (.long q1), .second, .val (.int (4 : Int32))] [(.int (1 : Int32)), (.ref a1)])) rfl rfl (hb hby d5_15) _ ?_
      show Steps p.tables e below (T104.setTop (mkF m 16 #[.val (.ref a1), .val (.long q1), .second, .val (.int (4 : Int32))] [(.double (FP.l2d (own_b q1 (5 : Int32))))])) _
      refine XS.lloadN X104.here hx rfl (hb hby d5_16) rfl ?_
      show Steps p.tables e below (T104.setTop (mkF m 17 #[.val (.ref a1), .val (.long q1), .second, .val (.int (4 : Int32))] [(.long q1), (.double (FP.l2d (own_b q1 (5 : Int32))))])) _
      refine XS.iloadN X104.here hx rfl (hb hby d5_17) rfl ?_
      show Steps p.tables e below (T104.setTop (mkF m 18 #[.val (.ref a1), .val (.long q1), .second, .val (.int (4 : Int32))] [(.int (4 : Int32)), (.long q1), (.double (FP.l2d (own_b q1 (5 : Int32))))])) _
      refine XS.iconst X104.here hx rfl (hb hby d5_18) ?_
      show Steps p.tables e below (T104.setTop (mkF m 19 #[.val (.ref a1), .val (.long q1), .second, .val (.int (4 : Int32))] [(.int (1 : Int32)), (.int (4 : Int32)), (.long q1), (.double (FP.l2d (own_b q1 (5 : Int32))))])) _
      refine XS.iadd X104.here hx rfl (hb hby d5_19) rfl ?_
      show Steps p.tables e below (T104.setTop (mkF m 20 #[.val (.ref a1), .val (.long q1), .second, .val (.int (4 : Int32))] [(.int (5 : Int32)), (.long q1), (.double (FP.l2d (own_b q1 (5 : Int32))))])) _
      refine st108 _ ?_
      show Steps p.tables e below (T108.setTop (mkF m 23 #[.val (.ref a1), .val (.long q1), .second, .val (.int (4 : Int32))] [(.long (own_b q1 (5 : Int32))), (.double (FP.l2d (own_b q1 (5 : Int32))))])) _
      refine XS.l2dS X108.here hx rfl (hb hby d5_23) rfl (v := (FP.l2d (own_b q1 (5 : Int32)))) rfl ?_
      show Steps p.tables e below (T108.setTop (mkF m 24 #[.val (.ref a1), .val (.long q1), .second, .val (.int (4 : Int32))] [(.double (FP.l2d (own_b q1 (5 : Int32)))), (.double (FP.l2d (own_b q1 (5 : Int32))))])) _
      refine XS.dcmpS X108.here hx rfl (hb hby d5_24) rfl (v := (0 : Int32)) (dcmpV_self (Fl.l2d_fin _).noNaN .l) ?_
      show Steps p.tables e below (T108.setTop (mkF m 25 #[.val (.ref a1), .val (.long q1), .second, .val (.int (4 : Int32))] [(.int (0 : Int32))])) _
      refine XS.ifNo X108.here hx rfl (hb hby d5_25) rfl ((if0 _ _).trans (teq ((by decide) : (0 : Int32) = (0 : Int32))).2) ?_
      show Steps p.tables e below (T108.setTop (mkF m 28 #[.val (.ref a1), .val (.long q1), .second, .val (.int (4 : Int32))] [])) _
      refine XS.aloadN X108.here hx rfl (hb hby d5_28) rfl rfl ?_
      show Steps p.tables e below (T108.setTop (mkF m 29 #[.val (.ref a1), .val (.long q1), .second, .val (.int (4 : Int32))] [(.ref a1)])) _
      refine XS.iconst X108.here hx rfl (hb hby d5_29) ?_
      show Steps p.tables e below (T108.setTop (mkF m 30 #[.val (.ref a1), .val (.long q1), .second, .val (.int (4 : Int32))] [(.int (2 : Int32)), (.ref a1)])) _
      refine X108.daload hx (j := (2 : Int32)) (v := (.double (FP.l2d (own_b q1 (6 : Int32))))) (by rw [e108]; exact Ar109.1) (State.isArrayOf_alike hZ.alike Ar109.2.1) Ar109.2.2 in110 at111 (g := (mkF m 30 #[.val (.ref a1), .val (.long q1), .second, .val (.int (4 : Int32))] [(.int (2 : Int32)), (.ref a1)])) rfl rfl (hb hby d5_30) _ ?_
      show Steps p.tables e below (T108.setTop (mkF m 31 #[.val (.ref a1), .val (.long q1), .second, .val (.int (4 : Int32))] [(.double (FP.l2d (own_b q1 (6 : Int32))))])) _
      refine XS.lloadN X108.here hx rfl (hb hby d5_31) rfl ?_
      show Steps p.tables e below (T108.setTop (mkF m 32 #[.val (.ref a1), .val (.long q1), .second, .val (.int (4 : Int32))] [(.long q1), (.double (FP.l2d (own_b q1 (6 : Int32))))])) _
      refine XS.iloadN X108.here hx rfl (hb hby d5_32) rfl ?_
      show Steps p.tables e below (T108.setTop (mkF m 33 #[.val (.ref a1), .val (.long q1), .second, .val (.int (4 : Int32))] [(.int (4 : Int32)), (.long q1), (.double (FP.l2d (own_b q1 (6 : Int32))))])) _
      refine XS.iconst X108.here hx rfl (hb hby d5_33) ?_
      show Steps p.tables e below (T108.setTop (mkF m 34 #[.val (.ref a1), .val (.long q1), .second, .val (.int (4 : Int32))] [(.int (2 : Int32)), (.int (4 : Int32)), (.long q1), (.double (FP.l2d (own_b q1 (6 : Int32))))])) _
      refine XS.iadd X108.here hx rfl (hb hby d5_34) rfl ?_
      show Steps p.tables e below (T108.setTop (mkF m 35 #[.val (.ref a1), .val (.long q1), .second, .val (.int (4 : Int32))] [(.int (6 : Int32)), (.long q1), (.double (FP.l2d (own_b q1 (6 : Int32))))])) _
      refine st112 _ ?_
      show Steps p.tables e below (T112.setTop (mkF m 38 #[.val (.ref a1), .val (.long q1), .second, .val (.int (4 : Int32))] [(.long (own_b q1 (6 : Int32))), (.double (FP.l2d (own_b q1 (6 : Int32))))])) _
      refine XS.l2dS X112.here hx rfl (hb hby d5_38) rfl (v := (FP.l2d (own_b q1 (6 : Int32)))) rfl ?_
      show Steps p.tables e below (T112.setTop (mkF m 39 #[.val (.ref a1), .val (.long q1), .second, .val (.int (4 : Int32))] [(.double (FP.l2d (own_b q1 (6 : Int32)))), (.double (FP.l2d (own_b q1 (6 : Int32))))])) _
      refine XS.dcmpS X112.here hx rfl (hb hby d5_39) rfl (v := (0 : Int32)) (dcmpV_self (Fl.l2d_fin _).noNaN .l) ?_
      show Steps p.tables e below (T112.setTop (mkF m 40 #[.val (.ref a1), .val (.long q1), .second, .val (.int (4 : Int32))] [(.int (0 : Int32))])) _
      refine XS.ifNo X112.here hx rfl (hb hby d5_40) rfl ((if0 _ _).trans (teq ((by decide) : (0 : Int32) = (0 : Int32))).2) ?_
      show Steps p.tables e below (T112.setTop (mkF m 43 #[.val (.ref a1), .val (.long q1), .second, .val (.int (4 : Int32))] [])) _
      refine XS.aloadN X112.here hx rfl (hb hby d5_43) rfl rfl ?_
      show Steps p.tables e below (T112.setTop (mkF m 44 #[.val (.ref a1), .val (.long q1), .second, .val (.int (4 : Int32))] [(.ref a1)])) _
      refine XS.iconst X112.here hx rfl (hb hby d5_44) ?_
      show Steps p.tables e below (T112.setTop (mkF m 45 #[.val (.ref a1), .val (.long q1), .second, .val (.int (4 : Int32))] [(.int (3 : Int32)), (.ref a1)])) _
      refine X112.daload hx (j := (3 : Int32)) (v := (.double (FP.l2d (own_b q1 (7 : Int32))))) (by rw [e112]; exact Ar113.1) (State.isArrayOf_alike hZ.alike Ar113.2.1) Ar113.2.2 in114 at115 (g := (mkF m 45 #[.val (.ref a1), .val (.long q1), .second, .val (.int (4 : Int32))] [(.int (3 : Int32)), (.ref a1)])) rfl rfl (hb hby d5_45) _ ?_
      show Steps p.tables e below (T112.setTop (mkF m 46 #[.val (.ref a1), .val (.long q1), .second, .val (.int (4 : Int32))] [(.double (FP.l2d (own_b q1 (7 : Int32))))])) _
      refine XS.lloadN X112.here hx rfl (hb hby d5_46) rfl ?_
      show Steps p.tables e below (T112.setTop (mkF m 47 #[.val (.ref a1), .val (.long q1), .second, .val (.int (4 : Int32))] [(.long q1), (.double (FP.l2d (own_b q1 (7 : Int32))))])) _
      refine XS.iloadN X112.here hx rfl (hb hby d5_47) rfl ?_
      show Steps p.tables e below (T112.setTop (mkF m 48 #[.val (.ref a1), .val (.long q1), .second, .val (.int (4 : Int32))] [(.int (4 : Int32)), (.long q1), (.double (FP.l2d (own_b q1 (7 : Int32))))])) _
      refine XS.iconst X112.here hx rfl (hb hby d5_48) ?_
      show Steps p.tables e below (T112.setTop (mkF m 49 #[.val (.ref a1), .val (.long q1), .second, .val (.int (4 : Int32))] [(.int (3 : Int32)), (.int (4 : Int32)), (.long q1), (.double (FP.l2d (own_b q1 (7 : Int32))))])) _
      refine XS.iadd X112.here hx rfl (hb hby d5_49) rfl ?_
      show Steps p.tables e below (T112.setTop (mkF m 50 #[.val (.ref a1), .val (.long q1), .second, .val (.int (4 : Int32))] [(.int (7 : Int32)), (.long q1), (.double (FP.l2d (own_b q1 (7 : Int32))))])) _
      refine st116 _ ?_
      show Steps p.tables e below (T116.setTop (mkF m 53 #[.val (.ref a1), .val (.long q1), .second, .val (.int (4 : Int32))] [(.long (own_b q1 (7 : Int32))), (.double (FP.l2d (own_b q1 (7 : Int32))))])) _
      refine XS.l2dS X116.here hx rfl (hb hby d5_53) rfl (v := (FP.l2d (own_b q1 (7 : Int32)))) rfl ?_
      show Steps p.tables e below (T116.setTop (mkF m 54 #[.val (.ref a1), .val (.long q1), .second, .val (.int (4 : Int32))] [(.double (FP.l2d (own_b q1 (7 : Int32)))), (.double (FP.l2d (own_b q1 (7 : Int32))))])) _
      refine XS.dcmpS X116.here hx rfl (hb hby d5_54) rfl (v := (0 : Int32)) (dcmpV_self (Fl.l2d_fin _).noNaN .l) ?_
      show Steps p.tables e below (T116.setTop (mkF m 55 #[.val (.ref a1), .val (.long q1), .second, .val (.int (4 : Int32))] [(.int (0 : Int32))])) _
      refine XS.ifNo X116.here hx rfl (hb hby d5_55) rfl ((if0 _ _).trans (teq ((by decide) : (0 : Int32) = (0 : Int32))).2) ?_
      show Steps p.tables e below (T116.setTop (mkF m 58 #[.val (.ref a1), .val (.long q1), .second, .val (.int (4 : Int32))] [])) _
      refine XS.iconst X116.here hx rfl (hb hby d5_58) ?_
      show Steps p.tables e below (T116.setTop (mkF m 59 #[.val (.ref a1), .val (.long q1), .second, .val (.int (4 : Int32))] [(.int (1 : Int32))])) _
      refine XS.goto X116.here hx rfl (pc0 := 59) (pc' := 63) rfl (hb hby d5_59) (by decide) (by decide) ?_
      exact kt)
  obtain ⟨fs, hr, hrun, hended, hW, hsame⟩ := X116.leave (v := some (.int (1 : Int32))) (fun h => by rw [Bd.returns] at h; cases h)
  refine ⟨_, _, pre117 _ ?_, hrun, hended, _, _, rfl, ?_, ⟨_, rfl⟩, hW, hsame.mono (by decide) (by decide)⟩
  · show Steps p.tables e below (T116.setTop (mkF m 63 #[.val (.ref a1), .val (.long q1), .second, .val (.int (4 : Int32))] [(.int (1 : Int32))])) _
    exact retN X116 hx (t := .boolean) Bd.returns (by simp) (hb hby d5_63) hr
  · show Qsame4 Z a1 q1 kk h0 n0 _ T116.heap _
    rw [e116]
    exact ⟨rfl, N116, rfl⟩
theorem ef_0 (m : MethodId) (q1 : Int64) (q2 : Int64) (q3 : Int64) (p1 : Int32) : entryFrame m #[(.long q1), (.long q2), (.long q3), (.int p1)] maxLocals = mkF m 0 #[.val (.long q1), .second, .val (.long q2), .second, .val (.long q3), .second, .val (.int p1), .unset, .unset, .unset, .unset, .unset, .unset, .unset, .unset, .unset, .unset, .unset, .unset, .unset, .unset, .unset] [] := by first | (simp [entryFrame, mkF, argsToLocals, Value.category, maxLocals]; done) | rfl
theorem pd__28JI_29_5bD : parseMethodDescriptor "(JI)[D" = some ⟨[.long, .int], some (.array .double)⟩ := by decide +kernel
theorem pd__28_5bDD_5bDD_5bDD_5bDD_5bDII_29V : parseMethodDescriptor "([DD[DD[DD[DD[DII)V" = some ⟨[(.array .double), .double, (.array .double), .double, (.array .double), .double, (.array .double), .double, (.array .double), .int, .int], none⟩ := by decide +kernel
theorem pd__28_5bDIJJJII_29Z : parseMethodDescriptor "([DIJJJII)Z" = some ⟨[(.array .double), .int, .long, .long, .long, .int, .int], some .boolean⟩ := by decide +kernel
theorem pd__28_5bDJI_29Z : parseMethodDescriptor "([DJI)Z" = some ⟨[(.array .double), .long, .int], some .boolean⟩ := by decide +kernel
def Q0 (Z : State) (q1 : Int64) (q2 : Int64) (q3 : Int64) (p1 : Int32) (h0 : Heap) (n0 : Nat) (v : Option Value) (h : Heap) (L : List Loc) : Prop := v = some (.int (1 : Int32)) ∧ Fr n0 L
set_option maxRecDepth 65536 in
set_option maxHeartbeats 40000000 in
theorem rm0 (l : Launch) (Z : State) (a0 : Array Value) (hw : ∀ d ∈ tables_1, d.before a0 Z = true) (ws : List Jvm.Cond) (q1 : Int64) (q2 : Int64) (q3 : Int64) (p1 : Int32) (h0 : Heap) (n0 : Nat) (Z0 : n0 ≤ h0.size) :
    MetFree l x (head1 (Jvm.Cond.code x code maxLocals ret :: ws) room_1) (fun a U => a = #[(.long q1), (.long q2), (.long q3), (.int p1)] ∧ Z.Warmed39 U.vm ∧ U.heap = h0) (fun _ _ _ _ _ => True) (fun _ U o U' => ∃ v L, o = .returned v ∧ Q0 Z q1 q2 q3 p1 h0 n0 v U'.heap L ∧ FrameEnd U o U' L 24 128) := by
  refine MetFree.of_bodySF (plainFor_of_name pn_com_example_orthoform_kernel_LinearCombinationsAddProductsPinLaw) hisR ?_
  intro p e s m args below meth c s₁ Bd hml0 hP hK
  obtain ⟨rfl, hZ, hh⟩ := hP
  have hx := Bd.exec
  have hby := Bd.bytes
  have hml : c.maxLocals = 22 := hml0
  have hown : s.vm.findClass "com/example/orthoform/kernel/LinearCombinationsAddProductsPinLaw" = some m.cls := findClass_of_methodNamed Bd.named
  have hnm := (name_of_methodNamed Bd.named Bd.method).1
  have X0 : Stand p l e room_1 s m #[(.long q1), (.long q2), (.long q3), (.int p1)] below meth c s₁ [] 0 0 := Stand.of_body Bd
  have e0 : s₁.heap = h0 := by rw [← hh, Bd.state]; rfl
  have N0 := Fr.nil n0
  have pre0 : ∀ t_, Steps p.tables e below (s₁.setTop (mkF m 0 #[.val (.long q1), .second, .val (.long q2), .second, .val (.long q3), .second, .val (.int p1), .unset, .unset, .unset, .unset, .unset, .unset, .unset, .unset, .unset, .unset, .unset, .unset, .unset, .unset, .unset] [])) t_ → Steps p.tables e below (s₁.setTop (entryFrame m #[(.long q1), (.long q2), (.long q3), (.int p1)] maxLocals)) t_ := fun t_ k => castTop (ef_0 m q1 q2 q3 p1) k
  obtain ⟨f, hf4, hf⟩ := own_ft (own_m7 p1)
  obtain ⟨t, ht4, ht⟩ := own_ft (own_m7 ((p1.toUInt32 >>> ((3 : Int32) &&& 31).toUInt32).toInt32))
  obtain ⟨_, _, ⟨T101, L101, kk101, nn101⟩, -, X101, ⟨Lc101, hQ101, l101, y101, z101⟩, st101⟩ := Jvm.LawKit.callS X0 hx (y := (⟨"com/example/orthoform/kernel/LinearCombinationsAddProductsPinLaw", "arr", "(JI)[D"⟩ : MethodName)) hown (mvT hZ (hw _ (List.mem_of_getElem? (i := 0) rfl))) (mvT hZ (hw _ (List.mem_of_getElem? (i := 1) rfl))) (mvT hZ (hw _ (List.mem_of_getElem? (i := 2) rfl))) (mvT hZ (hw _ (List.mem_of_getElem? (i := 3) rfl))) (by decide) (backOf (W := 0) (rmarr0 l Z a0 hw [] q1 h0 n0 Z0 ) hZ (hw _ (List.mem_of_getElem? (i := 3) rfl)) (hw _ (List.mem_of_getElem? (i := 2) rfl)) (by decide) (by decide)) (g := (mkF m 22 #[.val (.long q1), .second, .val (.long q2), .second, .val (.long q3), .second, .val (.int p1), .val (.int (Int32.ofNat f)), .val (.int (Int32.ofNat t)), .unset, .unset, .unset, .unset, .unset, .unset, .unset, .unset, .unset, .unset, .unset, .unset, .unset] [(.int (0 : Int32)), (.long q1)])) rfl (by rw [hml]; rfl) (argsL := [(.long q1), (.int (0 : Int32))]) (rest := []) (lenOf pd__28JI_29_5bD rfl) rfl (by show 2 * 0 + _ ≤ _; exact Nat.le_of_eq rfl) (hb hby at_22) (fun _ _ => ⟨rfl, e0, (by decide : 0 + 1 ≤ _), (by decide : 0 + 4 ≤ _)⟩)
  dsimp only [Pt.U, Pt.locs, Pt.cells, Pt.slots] at X101 l101 y101 z101 st101 hQ101
  subst l101 y101 z101
  obtain ⟨b_101, kb_101, rfl, N101q, K101, x101_0, x101_1⟩ := hQ101
  have N101 := Fr.app N0 N101q
  have g_b_101 : n0 ≤ b_101 := Nat.le_trans Z0 x101_0
  have z102 : n0 ≤ T101.heap.size := Nat.le_trans Z0 K101.1
  obtain ⟨_, _, ⟨T103, L103, kk103, nn103⟩, -, X103, ⟨Lc103, hQ103, l103, y103, z103⟩, st103⟩ := Jvm.LawKit.callS X101 hx (y := (⟨"com/example/orthoform/kernel/LinearCombinationsAddProductsPinLaw", "arr", "(JI)[D"⟩ : MethodName)) hown (mvT hZ (hw _ (List.mem_of_getElem? (i := 0) rfl))) (mvT hZ (hw _ (List.mem_of_getElem? (i := 1) rfl))) (mvT hZ (hw _ (List.mem_of_getElem? (i := 2) rfl))) (mvT hZ (hw _ (List.mem_of_getElem? (i := 3) rfl))) (by decide) (backOf (W := 0) (rmarr0 l Z a0 hw [] q2 T101.heap n0 z102 ) hZ (hw _ (List.mem_of_getElem? (i := 3) rfl)) (hw _ (List.mem_of_getElem? (i := 2) rfl)) (by decide) (by decide)) (g := (mkF m 29 #[.val (.long q1), .second, .val (.long q2), .second, .val (.long q3), .second, .val (.int p1), .val (.int (Int32.ofNat f)), .val (.int (Int32.ofNat t)), .val (.ref b_101), .unset, .unset, .unset, .unset, .unset, .unset, .unset, .unset, .unset, .unset, .unset, .unset] [(.int (0 : Int32)), (.long q2)])) rfl (by rw [hml]; rfl) (argsL := [(.long q2), (.int (0 : Int32))]) (rest := []) (lenOf pd__28JI_29_5bD rfl) rfl (by show 2 * 0 + _ ≤ _; exact Nat.le_of_eq rfl) (hb hby at_29) (fun _ _ => ⟨rfl, rfl, (by decide : 1 + 1 ≤ _), (by decide : 4 + 4 ≤ _)⟩)
  dsimp only [Pt.U, Pt.locs, Pt.cells, Pt.slots] at X103 l103 y103 z103 st103 hQ103
  subst l103 y103 z103
  obtain ⟨b_103, kb_103, rfl, N103q, K103, x103_0, x103_1⟩ := hQ103
  have N103 := Fr.app N101 N103q
  have ne104 : b_101 ≠ b_103 := Nat.ne_of_lt (Nat.lt_of_lt_of_le x101_1.lt x103_0)
  have g_b_103 : n0 ≤ b_103 := Nat.le_trans z102 x103_0
  have z105 : n0 ≤ T103.heap.size := Nat.le_trans z102 K103.1
  obtain ⟨_, _, ⟨T106, L106, kk106, nn106⟩, -, X106, ⟨Lc106, hQ106, l106, y106, z106⟩, st106⟩ := Jvm.LawKit.callS X103 hx (y := (⟨"com/example/orthoform/kernel/LinearCombinationsAddProductsPinLaw", "arr", "(JI)[D"⟩ : MethodName)) hown (mvT hZ (hw _ (List.mem_of_getElem? (i := 0) rfl))) (mvT hZ (hw _ (List.mem_of_getElem? (i := 1) rfl))) (mvT hZ (hw _ (List.mem_of_getElem? (i := 2) rfl))) (mvT hZ (hw _ (List.mem_of_getElem? (i := 3) rfl))) (by decide) (backOf (W := 0) (rmarr4 l Z a0 hw [] q2 T103.heap n0 z105 ) hZ (hw _ (List.mem_of_getElem? (i := 3) rfl)) (hw _ (List.mem_of_getElem? (i := 2) rfl)) (by decide) (by decide)) (g := (mkF m 36 #[.val (.long q1), .second, .val (.long q2), .second, .val (.long q3), .second, .val (.int p1), .val (.int (Int32.ofNat f)), .val (.int (Int32.ofNat t)), .val (.ref b_101), .val (.ref b_103), .unset, .unset, .unset, .unset, .unset, .unset, .unset, .unset, .unset, .unset, .unset] [(.int (4 : Int32)), (.long q2)])) rfl (by rw [hml]; rfl) (argsL := [(.long q2), (.int (4 : Int32))]) (rest := []) (lenOf pd__28JI_29_5bD rfl) rfl (by show 2 * 0 + _ ≤ _; exact Nat.le_of_eq rfl) (hb hby at_36) (fun _ _ => ⟨rfl, rfl, (by decide : 2 + 1 ≤ _), (by decide : 8 + 4 ≤ _)⟩)
  dsimp only [Pt.U, Pt.locs, Pt.cells, Pt.slots] at X106 l106 y106 z106 st106 hQ106
  subst l106 y106 z106
  obtain ⟨b_106, kb_106, rfl, N106q, K106, x106_0, x106_1⟩ := hQ106
  have N106 := Fr.app N103 N106q
  have f107 : Arv Z T103.heap b_101 kb_101 .double (4 : Int32) [(.double (FP.l2d (own_b q1 (0 : Int32)))), (.double (FP.l2d (own_b q1 (1 : Int32)))), (.double (FP.l2d (own_b q1 (2 : Int32)))), (.double (FP.l2d (own_b q1 (3 : Int32))))] (.double (0 : UInt64)) := (x101_1.keep K103 own_nm0)
  have ne108 : b_101 ≠ b_106 := Nat.ne_of_lt (Nat.lt_of_lt_of_le f107.lt x106_0)
  have ne109 : b_103 ≠ b_106 := Nat.ne_of_lt (Nat.lt_of_lt_of_le x103_1.lt x106_0)
  have g_b_106 : n0 ≤ b_106 := Nat.le_trans z105 x106_0
  have z110 : n0 ≤ T106.heap.size := Nat.le_trans z105 K106.1
  obtain ⟨_, _, ⟨T111, L111, kk111, nn111⟩, -, X111, ⟨Lc111, hQ111, l111, y111, z111⟩, st111⟩ := Jvm.LawKit.callS X106 hx (y := (⟨"com/example/orthoform/kernel/LinearCombinationsAddProductsPinLaw", "arr", "(JI)[D"⟩ : MethodName)) hown (mvT hZ (hw _ (List.mem_of_getElem? (i := 0) rfl))) (mvT hZ (hw _ (List.mem_of_getElem? (i := 1) rfl))) (mvT hZ (hw _ (List.mem_of_getElem? (i := 2) rfl))) (mvT hZ (hw _ (List.mem_of_getElem? (i := 3) rfl))) (by decide) (backOf (W := 0) (rmarr0 l Z a0 hw [] q3 T106.heap n0 z110 ) hZ (hw _ (List.mem_of_getElem? (i := 3) rfl)) (hw _ (List.mem_of_getElem? (i := 2) rfl)) (by decide) (by decide)) (g := (mkF m 44 #[.val (.long q1), .second, .val (.long q2), .second, .val (.long q3), .second, .val (.int p1), .val (.int (Int32.ofNat f)), .val (.int (Int32.ofNat t)), .val (.ref b_101), .val (.ref b_103), .val (.ref b_106), .unset, .unset, .unset, .unset, .unset, .unset, .unset, .unset, .unset, .unset] [(.int (0 : Int32)), (.long q3)])) rfl (by rw [hml]; rfl) (argsL := [(.long q3), (.int (0 : Int32))]) (rest := []) (lenOf pd__28JI_29_5bD rfl) rfl (by show 2 * 0 + _ ≤ _; exact Nat.le_of_eq rfl) (hb hby at_44) (fun _ _ => ⟨rfl, rfl, (by decide : 3 + 1 ≤ _), (by decide : 12 + 4 ≤ _)⟩)
  dsimp only [Pt.U, Pt.locs, Pt.cells, Pt.slots] at X111 l111 y111 z111 st111 hQ111
  subst l111 y111 z111
  obtain ⟨b_111, kb_111, rfl, N111q, K111, x111_0, x111_1⟩ := hQ111
  have N111 := Fr.app N106 N111q
  have f112 : Arv Z T106.heap b_101 kb_101 .double (4 : Int32) [(.double (FP.l2d (own_b q1 (0 : Int32)))), (.double (FP.l2d (own_b q1 (1 : Int32)))), (.double (FP.l2d (own_b q1 (2 : Int32)))), (.double (FP.l2d (own_b q1 (3 : Int32))))] (.double (0 : UInt64)) := (f107.keep K106 own_nm0)
  have f113 : Arv Z T106.heap b_103 kb_103 .double (4 : Int32) [(.double (FP.l2d (own_b q2 (0 : Int32)))), (.double (FP.l2d (own_b q2 (1 : Int32)))), (.double (FP.l2d (own_b q2 (2 : Int32)))), (.double (FP.l2d (own_b q2 (3 : Int32))))] (.double (0 : UInt64)) := (x103_1.keep K106 own_nm0)
  have ne114 : b_101 ≠ b_111 := Nat.ne_of_lt (Nat.lt_of_lt_of_le f112.lt x111_0)
  have ne115 : b_103 ≠ b_111 := Nat.ne_of_lt (Nat.lt_of_lt_of_le f113.lt x111_0)
  have ne116 : b_106 ≠ b_111 := Nat.ne_of_lt (Nat.lt_of_lt_of_le x106_1.lt x111_0)
  have g_b_111 : n0 ≤ b_111 := Nat.le_trans z110 x111_0
  have z117 : n0 ≤ T111.heap.size := Nat.le_trans z110 K111.1
  obtain ⟨_, _, ⟨T118, L118, kk118, nn118⟩, -, X118, ⟨Lc118, hQ118, l118, y118, z118⟩, st118⟩ := Jvm.LawKit.callS X111 hx (y := (⟨"com/example/orthoform/kernel/LinearCombinationsAddProductsPinLaw", "arr", "(JI)[D"⟩ : MethodName)) hown (mvT hZ (hw _ (List.mem_of_getElem? (i := 0) rfl))) (mvT hZ (hw _ (List.mem_of_getElem? (i := 1) rfl))) (mvT hZ (hw _ (List.mem_of_getElem? (i := 2) rfl))) (mvT hZ (hw _ (List.mem_of_getElem? (i := 3) rfl))) (by decide) (backOf (W := 0) (rmarr4 l Z a0 hw [] q3 T111.heap n0 z117 ) hZ (hw _ (List.mem_of_getElem? (i := 3) rfl)) (hw _ (List.mem_of_getElem? (i := 2) rfl)) (by decide) (by decide)) (g := (mkF m 52 #[.val (.long q1), .second, .val (.long q2), .second, .val (.long q3), .second, .val (.int p1), .val (.int (Int32.ofNat f)), .val (.int (Int32.ofNat t)), .val (.ref b_101), .val (.ref b_103), .val (.ref b_106), .val (.ref b_111), .unset, .unset, .unset, .unset, .unset, .unset, .unset, .unset, .unset] [(.int (4 : Int32)), (.long q3)])) rfl (by rw [hml]; rfl) (argsL := [(.long q3), (.int (4 : Int32))]) (rest := []) (lenOf pd__28JI_29_5bD rfl) rfl (by show 2 * 0 + _ ≤ _; exact Nat.le_of_eq rfl) (hb hby at_52) (fun _ _ => ⟨rfl, rfl, (by decide : 4 + 1 ≤ _), (by decide : 16 + 4 ≤ _)⟩)
  dsimp only [Pt.U, Pt.locs, Pt.cells, Pt.slots] at X118 l118 y118 z118 st118 hQ118
  subst l118 y118 z118
  obtain ⟨b_118, kb_118, rfl, N118q, K118, x118_0, x118_1⟩ := hQ118
  have N118 := Fr.app N111 N118q
  have f119 : Arv Z T111.heap b_101 kb_101 .double (4 : Int32) [(.double (FP.l2d (own_b q1 (0 : Int32)))), (.double (FP.l2d (own_b q1 (1 : Int32)))), (.double (FP.l2d (own_b q1 (2 : Int32)))), (.double (FP.l2d (own_b q1 (3 : Int32))))] (.double (0 : UInt64)) := (f112.keep K111 own_nm0)
  have f120 : Arv Z T111.heap b_103 kb_103 .double (4 : Int32) [(.double (FP.l2d (own_b q2 (0 : Int32)))), (.double (FP.l2d (own_b q2 (1 : Int32)))), (.double (FP.l2d (own_b q2 (2 : Int32)))), (.double (FP.l2d (own_b q2 (3 : Int32))))] (.double (0 : UInt64)) := (f113.keep K111 own_nm0)
  have f121 : Arv Z T111.heap b_106 kb_106 .double (4 : Int32) [(.double (FP.l2d (own_b q2 (4 : Int32)))), (.double (FP.l2d (own_b q2 (5 : Int32)))), (.double (FP.l2d (own_b q2 (6 : Int32)))), (.double (FP.l2d (own_b q2 (7 : Int32))))] (.double (0 : UInt64)) := (x106_1.keep K111 own_nm0)
  have ne122 : b_101 ≠ b_118 := Nat.ne_of_lt (Nat.lt_of_lt_of_le f119.lt x118_0)
  have ne123 : b_103 ≠ b_118 := Nat.ne_of_lt (Nat.lt_of_lt_of_le f120.lt x118_0)
  have ne124 : b_106 ≠ b_118 := Nat.ne_of_lt (Nat.lt_of_lt_of_le f121.lt x118_0)
  have ne125 : b_111 ≠ b_118 := Nat.ne_of_lt (Nat.lt_of_lt_of_le x111_1.lt x118_0)
  have g_b_118 : n0 ≤ b_118 := Nat.le_trans z117 x118_0
  have z126 : n0 ≤ T118.heap.size := Nat.le_trans z117 K118.1
  obtain ⟨_, _, ⟨T127, L127, kk127, nn127⟩, -, X127, ⟨Lc127, hQ127, l127, y127, z127⟩, st127⟩ := Jvm.LawKit.callS X118 hx (y := (⟨"com/example/orthoform/kernel/LinearCombinationsAddProductsPinLaw", "b", "(JI)J"⟩ : MethodName)) hown (mvT hZ (hw _ (List.mem_of_getElem? (i := 5) rfl))) (mvT hZ (hw _ (List.mem_of_getElem? (i := 6) rfl))) (mvT hZ (hw _ (List.mem_of_getElem? (i := 2) rfl))) (mvT hZ (hw _ (List.mem_of_getElem? (i := 7) rfl))) (by decide) (backOf (W := 0) (rm2 l Z a0 hw [] q1 (4 : Int32) T118.heap n0 z126 ) hZ (hw _ (List.mem_of_getElem? (i := 7) rfl)) (hw _ (List.mem_of_getElem? (i := 2) rfl)) (by decide) (by decide)) (g := (mkF m 59 #[.val (.long q1), .second, .val (.long q2), .second, .val (.long q3), .second, .val (.int p1), .val (.int (Int32.ofNat f)), .val (.int (Int32.ofNat t)), .val (.ref b_101), .val (.ref b_103), .val (.ref b_106), .val (.ref b_111), .val (.ref b_118), .unset, .unset, .unset, .unset, .unset, .unset, .unset, .unset] [(.int (4 : Int32)), (.long q1)])) rfl (by rw [hml]; rfl) (argsL := [(.long q1), (.int (4 : Int32))]) (rest := []) (lenOf pd__28JI_29J rfl) rfl (by show 2 * 0 + _ ≤ _; exact Nat.le_of_eq rfl) (hb hby at_59) (fun _ _ => ⟨rfl, rfl, (by decide : 5 + 0 ≤ _), (by decide : 20 + 0 ≤ _)⟩)
  dsimp only [Pt.U, Pt.locs, Pt.cells, Pt.slots] at X127 l127 y127 z127 st127 hQ127
  subst l127 y127 z127
  obtain ⟨rfl, N127q, e127⟩ := hQ127
  have N127 := Fr.app N118 N127q
  obtain ⟨_, _, ⟨T128, L128, kk128, nn128⟩, -, X128, ⟨Lc128, hQ128, l128, y128, z128⟩, st128⟩ := Jvm.LawKit.callS X127 hx (y := (⟨"com/example/orthoform/kernel/LinearCombinationsAddProductsPinLaw", "b", "(JI)J"⟩ : MethodName)) hown (mvT hZ (hw _ (List.mem_of_getElem? (i := 5) rfl))) (mvT hZ (hw _ (List.mem_of_getElem? (i := 6) rfl))) (mvT hZ (hw _ (List.mem_of_getElem? (i := 2) rfl))) (mvT hZ (hw _ (List.mem_of_getElem? (i := 7) rfl))) (by decide) (backOf (W := 0) (rm2 l Z a0 hw [] q1 (5 : Int32) T118.heap n0 z126 ) hZ (hw _ (List.mem_of_getElem? (i := 7) rfl)) (hw _ (List.mem_of_getElem? (i := 2) rfl)) (by decide) (by decide)) (g := (mkF m 67 #[.val (.long q1), .second, .val (.long q2), .second, .val (.long q3), .second, .val (.int p1), .val (.int (Int32.ofNat f)), .val (.int (Int32.ofNat t)), .val (.ref b_101), .val (.ref b_103), .val (.ref b_106), .val (.ref b_111), .val (.ref b_118), .val (.double (FP.l2d (own_b q1 (4 : Int32)))), .second, .unset, .unset, .unset, .unset, .unset, .unset] [(.int (5 : Int32)), (.long q1)])) rfl (by rw [hml]; rfl) (argsL := [(.long q1), (.int (5 : Int32))]) (rest := []) (lenOf pd__28JI_29J rfl) rfl (by show 2 * 0 + _ ≤ _; exact Nat.le_of_eq rfl) (hb hby at_67) (fun _ _ => ⟨rfl, e127, (by decide : 5 + 0 ≤ _), (by decide : 20 + 0 ≤ _)⟩)
  dsimp only [Pt.U, Pt.locs, Pt.cells, Pt.slots] at X128 l128 y128 z128 st128 hQ128
  subst l128 y128 z128
  obtain ⟨rfl, N128q, e128⟩ := hQ128
  have N128 := Fr.app N127 N128q
  obtain ⟨_, _, ⟨T129, L129, kk129, nn129⟩, -, X129, ⟨Lc129, hQ129, l129, y129, z129⟩, st129⟩ := Jvm.LawKit.callS X128 hx (y := (⟨"com/example/orthoform/kernel/LinearCombinationsAddProductsPinLaw", "b", "(JI)J"⟩ : MethodName)) hown (mvT hZ (hw _ (List.mem_of_getElem? (i := 5) rfl))) (mvT hZ (hw _ (List.mem_of_getElem? (i := 6) rfl))) (mvT hZ (hw _ (List.mem_of_getElem? (i := 2) rfl))) (mvT hZ (hw _ (List.mem_of_getElem? (i := 7) rfl))) (by decide) (backOf (W := 0) (rm2 l Z a0 hw [] q1 (6 : Int32) T118.heap n0 z126 ) hZ (hw _ (List.mem_of_getElem? (i := 7) rfl)) (hw _ (List.mem_of_getElem? (i := 2) rfl)) (by decide) (by decide)) (g := (mkF m 76 #[.val (.long q1), .second, .val (.long q2), .second, .val (.long q3), .second, .val (.int p1), .val (.int (Int32.ofNat f)), .val (.int (Int32.ofNat t)), .val (.ref b_101), .val (.ref b_103), .val (.ref b_106), .val (.ref b_111), .val (.ref b_118), .val (.double (FP.l2d (own_b q1 (4 : Int32)))), .second, .val (.double (FP.l2d (own_b q1 (5 : Int32)))), .second, .unset, .unset, .unset, .unset] [(.int (6 : Int32)), (.long q1)])) rfl (by rw [hml]; rfl) (argsL := [(.long q1), (.int (6 : Int32))]) (rest := []) (lenOf pd__28JI_29J rfl) rfl (by show 2 * 0 + _ ≤ _; exact Nat.le_of_eq rfl) (hb hby at_76) (fun _ _ => ⟨rfl, e128, (by decide : 5 + 0 ≤ _), (by decide : 20 + 0 ≤ _)⟩)
  dsimp only [Pt.U, Pt.locs, Pt.cells, Pt.slots] at X129 l129 y129 z129 st129 hQ129
  subst l129 y129 z129
  obtain ⟨rfl, N129q, e129⟩ := hQ129
  have N129 := Fr.app N128 N129q
  obtain ⟨_, _, ⟨T130, L130, kk130, nn130⟩, -, X130, ⟨Lc130, hQ130, l130, y130, z130⟩, st130⟩ := Jvm.LawKit.callS X129 hx (y := (⟨"com/example/orthoform/kernel/LinearCombinationsAddProductsPinLaw", "b", "(JI)J"⟩ : MethodName)) hown (mvT hZ (hw _ (List.mem_of_getElem? (i := 5) rfl))) (mvT hZ (hw _ (List.mem_of_getElem? (i := 6) rfl))) (mvT hZ (hw _ (List.mem_of_getElem? (i := 2) rfl))) (mvT hZ (hw _ (List.mem_of_getElem? (i := 7) rfl))) (by decide) (backOf (W := 0) (rm2 l Z a0 hw [] q1 (7 : Int32) T118.heap n0 z126 ) hZ (hw _ (List.mem_of_getElem? (i := 7) rfl)) (hw _ (List.mem_of_getElem? (i := 2) rfl)) (by decide) (by decide)) (g := (mkF m 85 #[.val (.long q1), .second, .val (.long q2), .second, .val (.long q3), .second, .val (.int p1), .val (.int (Int32.ofNat f)), .val (.int (Int32.ofNat t)), .val (.ref b_101), .val (.ref b_103), .val (.ref b_106), .val (.ref b_111), .val (.ref b_118), .val (.double (FP.l2d (own_b q1 (4 : Int32)))), .second, .val (.double (FP.l2d (own_b q1 (5 : Int32)))), .second, .val (.double (FP.l2d (own_b q1 (6 : Int32)))), .second, .unset, .unset] [(.int (7 : Int32)), (.long q1)])) rfl (by rw [hml]; rfl) (argsL := [(.long q1), (.int (7 : Int32))]) (rest := []) (lenOf pd__28JI_29J rfl) rfl (by show 2 * 0 + _ ≤ _; exact Nat.le_of_eq rfl) (hb hby at_85) (fun _ _ => ⟨rfl, e129, (by decide : 5 + 0 ≤ _), (by decide : 20 + 0 ≤ _)⟩)
  dsimp only [Pt.U, Pt.locs, Pt.cells, Pt.slots] at X130 l130 y130 z130 st130 hQ130
  subst l130 y130 z130
  obtain ⟨rfl, N130q, e130⟩ := hQ130
  have N130 := Fr.app N129 N130q
  have hA := fun j => own_all (dv := fun j => own_b q1 (Int32.ofNat j)) (s0 := fun j => own_b q2 (Int32.ofNat j)) (s1 := fun j => own_b q2 (Int32.ofNat (4 + j))) (s2 := fun j => own_b q3 (Int32.ofNat j)) (s3 := fun j => own_b q3 (Int32.ofNat (4 + j))) (j := j) (own_br _ _) (own_br _ _) (own_br _ _) (own_br _ _) (own_br _ _) (own_br q1 4) (own_br q1 5) (own_br q1 6) (own_br q1 7)
  have f131 : Arv Z T118.heap b_101 kb_101 .double (4 : Int32) [(.double (FP.l2d (own_b q1 (0 : Int32)))), (.double (FP.l2d (own_b q1 (1 : Int32)))), (.double (FP.l2d (own_b q1 (2 : Int32)))), (.double (FP.l2d (own_b q1 (3 : Int32))))] (.double (0 : UInt64)) := (f119.keep K118 own_nm0)
  have f132 : Arv Z T118.heap b_103 kb_103 .double (4 : Int32) [(.double (FP.l2d (own_b q2 (0 : Int32)))), (.double (FP.l2d (own_b q2 (1 : Int32)))), (.double (FP.l2d (own_b q2 (2 : Int32)))), (.double (FP.l2d (own_b q2 (3 : Int32))))] (.double (0 : UInt64)) := (f120.keep K118 own_nm0)
  have f133 : Arv Z T118.heap b_106 kb_106 .double (4 : Int32) [(.double (FP.l2d (own_b q2 (4 : Int32)))), (.double (FP.l2d (own_b q2 (5 : Int32)))), (.double (FP.l2d (own_b q2 (6 : Int32)))), (.double (FP.l2d (own_b q2 (7 : Int32))))] (.double (0 : UInt64)) := (f121.keep K118 own_nm0)
  have f134 : Arv Z T118.heap b_111 kb_111 .double (4 : Int32) [(.double (FP.l2d (own_b q3 (0 : Int32)))), (.double (FP.l2d (own_b q3 (1 : Int32)))), (.double (FP.l2d (own_b q3 (2 : Int32)))), (.double (FP.l2d (own_b q3 (3 : Int32))))] (.double (0 : UInt64)) := (x111_1.keep K118 own_nm0)
  obtain ⟨_, _, ⟨T135, L135, kk135, nn135⟩, -, X135, ⟨Lc135, hQ135, l135, y135, z135⟩, st135⟩ := Jvm.LawKit.callS X130 hx (y := (⟨"com/example/orthoform/kernel/LinearCombinations", "addProducts", "([DD[DD[DD[DD[DII)V"⟩ : MethodName)) hown (mvT hZ (hw _ (List.mem_of_getElem? (i := 8) rfl))) (mvT hZ (hw _ (List.mem_of_getElem? (i := 9) rfl))) (mvT hZ (hw _ (List.mem_of_getElem? (i := 10) rfl))) (mvT hZ (hw _ (List.mem_of_getElem? (i := 11) rfl))) (by decide) (backOf (W := 0) (rm3 l Z a0 hw [] b_101 (FP.l2d (own_b q1 (4 : Int32))) b_103 (FP.l2d (own_b q1 (5 : Int32))) b_106 (FP.l2d (own_b q1 (6 : Int32))) b_111 (FP.l2d (own_b q1 (7 : Int32))) b_118 (fun j => FP.l2d (own_b q1 (Int32.ofNat (j)))) (fun j => FP.l2d (own_b q2 (Int32.ofNat (j)))) (fun j => FP.l2d (own_b q2 (Int32.ofNat (4 + j)))) (fun j => FP.l2d (own_b q3 (Int32.ofNat (j)))) (fun j => FP.l2d (own_b q3 (Int32.ofNat (4 + j)))) kb_101 kb_103 kb_106 kb_111 kb_118 f t T118.heap n0 z126 f131 f132 f133 f134 x118_1 (Ne.symm ne104) (Ne.symm ne108) (Ne.symm ne114) (Ne.symm ne122) g_b_101 (hf4) (ht4) (fun j _ => (hA j).1)) hZ (hw _ (List.mem_of_getElem? (i := 11) rfl)) (hw _ (List.mem_of_getElem? (i := 10) rfl)) (by decide) (by decide)) (g := (mkF m 113 #[.val (.long q1), .second, .val (.long q2), .second, .val (.long q3), .second, .val (.int p1), .val (.int (Int32.ofNat f)), .val (.int (Int32.ofNat t)), .val (.ref b_101), .val (.ref b_103), .val (.ref b_106), .val (.ref b_111), .val (.ref b_118), .val (.double (FP.l2d (own_b q1 (4 : Int32)))), .second, .val (.double (FP.l2d (own_b q1 (5 : Int32)))), .second, .val (.double (FP.l2d (own_b q1 (6 : Int32)))), .second, .val (.double (FP.l2d (own_b q1 (7 : Int32)))), .second] [(.int (Int32.ofNat t)), (.int (Int32.ofNat f)), (.ref b_118), (.double (FP.l2d (own_b q1 (7 : Int32)))), (.ref b_111), (.double (FP.l2d (own_b q1 (6 : Int32)))), (.ref b_106), (.double (FP.l2d (own_b q1 (5 : Int32)))), (.ref b_103), (.double (FP.l2d (own_b q1 (4 : Int32)))), (.ref b_101)])) rfl (by rw [hml]; rfl) (argsL := [(.ref b_101), (.double (FP.l2d (own_b q1 (4 : Int32)))), (.ref b_103), (.double (FP.l2d (own_b q1 (5 : Int32)))), (.ref b_106), (.double (FP.l2d (own_b q1 (6 : Int32)))), (.ref b_111), (.double (FP.l2d (own_b q1 (7 : Int32)))), (.ref b_118), (.int (Int32.ofNat f)), (.int (Int32.ofNat t))]) (rest := []) (lenOf pd__28_5bDD_5bDD_5bDD_5bDD_5bDII_29V rfl) rfl (by show 2 * 0 + _ ≤ _; exact Nat.le_of_eq rfl) (hb hby at_113) (fun _ _ => ⟨rfl, e130, (by decide : 5 + 0 ≤ _), (by decide : 20 + 0 ≤ _)⟩)
  dsimp only [Pt.U, Pt.locs, Pt.cells, Pt.slots] at X135 l135 y135 z135 st135 hQ135
  subst l135 y135 z135
  obtain ⟨rfl, N135q, K135, x135_0⟩ := hQ135
  have N135 := Fr.app N130 N135q
  have z136 : n0 ≤ T135.heap.size := Nat.le_trans z126 K135.1
  obtain ⟨_, _, ⟨T137, L137, kk137, nn137⟩, -, X137, ⟨Lc137, hQ137, l137, y137, z137⟩, st137⟩ := Jvm.LawKit.callS X135 hx (y := (⟨"com/example/orthoform/kernel/LinearCombinationsAddProductsPinLaw", "ok", "([DIJJJII)Z"⟩ : MethodName)) hown (mvT hZ (hw _ (List.mem_of_getElem? (i := 12) rfl))) (mvT hZ (hw _ (List.mem_of_getElem? (i := 13) rfl))) (mvT hZ (hw _ (List.mem_of_getElem? (i := 2) rfl))) (mvT hZ (hw _ (List.mem_of_getElem? (i := 14) rfl))) (by decide) (backOf (W := 0) (rmok0 l Z a0 hw [] b_101 q1 q2 q3 (Int32.ofNat f) (Int32.ofNat t) (own_cur (fun j => FP.l2d (own_b q1 (Int32.ofNat (j)))) (fun j => FP.l2d (own_b q2 (Int32.ofNat (j)))) (fun j => FP.l2d (own_b q2 (Int32.ofNat (4 + j)))) (fun j => FP.l2d (own_b q3 (Int32.ofNat (j)))) (fun j => FP.l2d (own_b q3 (Int32.ofNat (4 + j)))) (FP.l2d (own_b q1 (4 : Int32))) (FP.l2d (own_b q1 (5 : Int32))) (FP.l2d (own_b q1 (6 : Int32))) (FP.l2d (own_b q1 (7 : Int32))) f t) kb_101 T135.heap n0 z136 x135_0 (fun hA' hB' => by
            have c : f ≤ 0 ∧ 0 < t := by
                have u1 := (not_congr (lt32_iff (i := 0) (n := f) (by omega) (by omega))).mp hA'
                have u2 := (lt32_iff (i := 0) (n := t) (by omega) (by omega)).mp hB'
                omega
            show cmpValue (FP.dcmp (own_cur _ _ _ _ _ _ _ _ _ f t 0) _) .l = 0
            unfold own_cur; rw [if_pos c]
            refine own_cmp (hA 0).2 ?_
            have e := own_expi (own_br q1 (0 : Int32)) (own_br q1 4) (own_br q2 (0 : Int32)) (own_br q1 5) (own_br q2 (4 : Int32)) (own_br q1 6) (own_br q3 (0 : Int32)) (own_br q1 7) (own_br q3 (4 : Int32))
            have z := own_mb (own_br q1 4) (own_br q2 (0 : Int32)); have z1 := own_mb (own_br q1 5) (own_br q2 (4 : Int32)); have z2 := own_mb (own_br q1 6) (own_br q3 (0 : Int32)); have z3 := own_mb (own_br q1 7) (own_br q3 (4 : Int32)); have z4 := own_br q1 (0 : Int32)
            exact (e ▸ FP.Core.l2d_int (by rw [e]; omega) : FP.Core.DInt _ _)) (fun hC => by
            have c : ¬ (f ≤ 0 ∧ 0 < t) := by
                have u1 := lt32_iff (i := 0) (n := f) (by omega) (by omega)
                have u2 := lt32_iff (i := 0) (n := t) (by omega) (by omega)
                rcases hC with q | q
                · have := u1.mp q; omega
                · have := (not_congr u2).mp q; omega
            show cmpValue (FP.dcmp (own_cur _ _ _ _ _ _ _ _ _ f t 0) _) .l = 0
            unfold own_cur; rw [if_neg c]
            exact dcmpV_self (Fl.l2d_fin _).noNaN .l)) hZ (hw _ (List.mem_of_getElem? (i := 14) rfl)) (hw _ (List.mem_of_getElem? (i := 2) rfl)) (by decide) (by decide)) (g := (mkF m 127 #[.val (.long q1), .second, .val (.long q2), .second, .val (.long q3), .second, .val (.int p1), .val (.int (Int32.ofNat f)), .val (.int (Int32.ofNat t)), .val (.ref b_101), .val (.ref b_103), .val (.ref b_106), .val (.ref b_111), .val (.ref b_118), .val (.double (FP.l2d (own_b q1 (4 : Int32)))), .second, .val (.double (FP.l2d (own_b q1 (5 : Int32)))), .second, .val (.double (FP.l2d (own_b q1 (6 : Int32)))), .second, .val (.double (FP.l2d (own_b q1 (7 : Int32)))), .second] [(.int (Int32.ofNat t)), (.int (Int32.ofNat f)), (.long q3), (.long q2), (.long q1), (.int (0 : Int32)), (.ref b_101)])) rfl (by rw [hml]; rfl) (argsL := [(.ref b_101), (.int (0 : Int32)), (.long q1), (.long q2), (.long q3), (.int (Int32.ofNat f)), (.int (Int32.ofNat t))]) (rest := []) (lenOf pd__28_5bDIJJJII_29Z rfl) rfl (by show 2 * 0 + _ ≤ _; exact Nat.le_of_eq rfl) (hb hby at_127) (fun _ _ => ⟨rfl, rfl, (by decide : 5 + 0 ≤ _), (by decide : 20 + 0 ≤ _)⟩)
  dsimp only [Pt.U, Pt.locs, Pt.cells, Pt.slots] at X137 l137 y137 z137 st137 hQ137
  subst l137 y137 z137
  obtain ⟨rfl, N137q, e137⟩ := hQ137
  have N137 := Fr.app N135 N137q
  obtain ⟨_, _, ⟨T138, L138, kk138, nn138⟩, -, X138, ⟨Lc138, hQ138, l138, y138, z138⟩, st138⟩ := Jvm.LawKit.callS X137 hx (y := (⟨"com/example/orthoform/kernel/LinearCombinationsAddProductsPinLaw", "ok", "([DIJJJII)Z"⟩ : MethodName)) hown (mvT hZ (hw _ (List.mem_of_getElem? (i := 12) rfl))) (mvT hZ (hw _ (List.mem_of_getElem? (i := 13) rfl))) (mvT hZ (hw _ (List.mem_of_getElem? (i := 2) rfl))) (mvT hZ (hw _ (List.mem_of_getElem? (i := 14) rfl))) (by decide) (backOf (W := 0) (rmok1 l Z a0 hw [] b_101 q1 q2 q3 (Int32.ofNat f) (Int32.ofNat t) (own_cur (fun j => FP.l2d (own_b q1 (Int32.ofNat (j)))) (fun j => FP.l2d (own_b q2 (Int32.ofNat (j)))) (fun j => FP.l2d (own_b q2 (Int32.ofNat (4 + j)))) (fun j => FP.l2d (own_b q3 (Int32.ofNat (j)))) (fun j => FP.l2d (own_b q3 (Int32.ofNat (4 + j)))) (FP.l2d (own_b q1 (4 : Int32))) (FP.l2d (own_b q1 (5 : Int32))) (FP.l2d (own_b q1 (6 : Int32))) (FP.l2d (own_b q1 (7 : Int32))) f t) kb_101 T135.heap n0 z136 x135_0 (fun hA' hB' => by
            have c : f ≤ 1 ∧ 1 < t := by
                have u1 := (not_congr (lt32_iff (i := 1) (n := f) (by omega) (by omega))).mp hA'
                have u2 := (lt32_iff (i := 1) (n := t) (by omega) (by omega)).mp hB'
                omega
            show cmpValue (FP.dcmp (own_cur _ _ _ _ _ _ _ _ _ f t 1) _) .l = 0
            unfold own_cur; rw [if_pos c]
            refine own_cmp (hA 1).2 ?_
            have e := own_expi (own_br q1 (1 : Int32)) (own_br q1 4) (own_br q2 (1 : Int32)) (own_br q1 5) (own_br q2 (5 : Int32)) (own_br q1 6) (own_br q3 (1 : Int32)) (own_br q1 7) (own_br q3 (5 : Int32))
            have z := own_mb (own_br q1 4) (own_br q2 (1 : Int32)); have z1 := own_mb (own_br q1 5) (own_br q2 (5 : Int32)); have z2 := own_mb (own_br q1 6) (own_br q3 (1 : Int32)); have z3 := own_mb (own_br q1 7) (own_br q3 (5 : Int32)); have z4 := own_br q1 (1 : Int32)
            exact (e ▸ FP.Core.l2d_int (by rw [e]; omega) : FP.Core.DInt _ _)) (fun hC => by
            have c : ¬ (f ≤ 1 ∧ 1 < t) := by
                have u1 := lt32_iff (i := 1) (n := f) (by omega) (by omega)
                have u2 := lt32_iff (i := 1) (n := t) (by omega) (by omega)
                rcases hC with q | q
                · have := u1.mp q; omega
                · have := (not_congr u2).mp q; omega
            show cmpValue (FP.dcmp (own_cur _ _ _ _ _ _ _ _ _ f t 1) _) .l = 0
            unfold own_cur; rw [if_neg c]
            exact dcmpV_self (Fl.l2d_fin _).noNaN .l)) hZ (hw _ (List.mem_of_getElem? (i := 14) rfl)) (hw _ (List.mem_of_getElem? (i := 2) rfl)) (by decide) (by decide)) (g := (mkF m 144 #[.val (.long q1), .second, .val (.long q2), .second, .val (.long q3), .second, .val (.int p1), .val (.int (Int32.ofNat f)), .val (.int (Int32.ofNat t)), .val (.ref b_101), .val (.ref b_103), .val (.ref b_106), .val (.ref b_111), .val (.ref b_118), .val (.double (FP.l2d (own_b q1 (4 : Int32)))), .second, .val (.double (FP.l2d (own_b q1 (5 : Int32)))), .second, .val (.double (FP.l2d (own_b q1 (6 : Int32)))), .second, .val (.double (FP.l2d (own_b q1 (7 : Int32)))), .second] [(.int (Int32.ofNat t)), (.int (Int32.ofNat f)), (.long q3), (.long q2), (.long q1), (.int (1 : Int32)), (.ref b_101)])) rfl (by rw [hml]; rfl) (argsL := [(.ref b_101), (.int (1 : Int32)), (.long q1), (.long q2), (.long q3), (.int (Int32.ofNat f)), (.int (Int32.ofNat t))]) (rest := []) (lenOf pd__28_5bDIJJJII_29Z rfl) rfl (by show 2 * 0 + _ ≤ _; exact Nat.le_of_eq rfl) (hb hby at_144) (fun _ _ => ⟨rfl, e137, (by decide : 5 + 0 ≤ _), (by decide : 20 + 0 ≤ _)⟩)
  dsimp only [Pt.U, Pt.locs, Pt.cells, Pt.slots] at X138 l138 y138 z138 st138 hQ138
  subst l138 y138 z138
  obtain ⟨rfl, N138q, e138⟩ := hQ138
  have N138 := Fr.app N137 N138q
  obtain ⟨_, _, ⟨T139, L139, kk139, nn139⟩, -, X139, ⟨Lc139, hQ139, l139, y139, z139⟩, st139⟩ := Jvm.LawKit.callS X138 hx (y := (⟨"com/example/orthoform/kernel/LinearCombinationsAddProductsPinLaw", "ok", "([DIJJJII)Z"⟩ : MethodName)) hown (mvT hZ (hw _ (List.mem_of_getElem? (i := 12) rfl))) (mvT hZ (hw _ (List.mem_of_getElem? (i := 13) rfl))) (mvT hZ (hw _ (List.mem_of_getElem? (i := 2) rfl))) (mvT hZ (hw _ (List.mem_of_getElem? (i := 14) rfl))) (by decide) (backOf (W := 0) (rmok2 l Z a0 hw [] b_101 q1 q2 q3 (Int32.ofNat f) (Int32.ofNat t) (own_cur (fun j => FP.l2d (own_b q1 (Int32.ofNat (j)))) (fun j => FP.l2d (own_b q2 (Int32.ofNat (j)))) (fun j => FP.l2d (own_b q2 (Int32.ofNat (4 + j)))) (fun j => FP.l2d (own_b q3 (Int32.ofNat (j)))) (fun j => FP.l2d (own_b q3 (Int32.ofNat (4 + j)))) (FP.l2d (own_b q1 (4 : Int32))) (FP.l2d (own_b q1 (5 : Int32))) (FP.l2d (own_b q1 (6 : Int32))) (FP.l2d (own_b q1 (7 : Int32))) f t) kb_101 T135.heap n0 z136 x135_0 (fun hA' hB' => by
            have c : f ≤ 2 ∧ 2 < t := by
                have u1 := (not_congr (lt32_iff (i := 2) (n := f) (by omega) (by omega))).mp hA'
                have u2 := (lt32_iff (i := 2) (n := t) (by omega) (by omega)).mp hB'
                omega
            show cmpValue (FP.dcmp (own_cur _ _ _ _ _ _ _ _ _ f t 2) _) .l = 0
            unfold own_cur; rw [if_pos c]
            refine own_cmp (hA 2).2 ?_
            have e := own_expi (own_br q1 (2 : Int32)) (own_br q1 4) (own_br q2 (2 : Int32)) (own_br q1 5) (own_br q2 (6 : Int32)) (own_br q1 6) (own_br q3 (2 : Int32)) (own_br q1 7) (own_br q3 (6 : Int32))
            have z := own_mb (own_br q1 4) (own_br q2 (2 : Int32)); have z1 := own_mb (own_br q1 5) (own_br q2 (6 : Int32)); have z2 := own_mb (own_br q1 6) (own_br q3 (2 : Int32)); have z3 := own_mb (own_br q1 7) (own_br q3 (6 : Int32)); have z4 := own_br q1 (2 : Int32)
            exact (e ▸ FP.Core.l2d_int (by rw [e]; omega) : FP.Core.DInt _ _)) (fun hC => by
            have c : ¬ (f ≤ 2 ∧ 2 < t) := by
                have u1 := lt32_iff (i := 2) (n := f) (by omega) (by omega)
                have u2 := lt32_iff (i := 2) (n := t) (by omega) (by omega)
                rcases hC with q | q
                · have := u1.mp q; omega
                · have := (not_congr u2).mp q; omega
            show cmpValue (FP.dcmp (own_cur _ _ _ _ _ _ _ _ _ f t 2) _) .l = 0
            unfold own_cur; rw [if_neg c]
            exact dcmpV_self (Fl.l2d_fin _).noNaN .l)) hZ (hw _ (List.mem_of_getElem? (i := 14) rfl)) (hw _ (List.mem_of_getElem? (i := 2) rfl)) (by decide) (by decide)) (g := (mkF m 161 #[.val (.long q1), .second, .val (.long q2), .second, .val (.long q3), .second, .val (.int p1), .val (.int (Int32.ofNat f)), .val (.int (Int32.ofNat t)), .val (.ref b_101), .val (.ref b_103), .val (.ref b_106), .val (.ref b_111), .val (.ref b_118), .val (.double (FP.l2d (own_b q1 (4 : Int32)))), .second, .val (.double (FP.l2d (own_b q1 (5 : Int32)))), .second, .val (.double (FP.l2d (own_b q1 (6 : Int32)))), .second, .val (.double (FP.l2d (own_b q1 (7 : Int32)))), .second] [(.int (Int32.ofNat t)), (.int (Int32.ofNat f)), (.long q3), (.long q2), (.long q1), (.int (2 : Int32)), (.ref b_101)])) rfl (by rw [hml]; rfl) (argsL := [(.ref b_101), (.int (2 : Int32)), (.long q1), (.long q2), (.long q3), (.int (Int32.ofNat f)), (.int (Int32.ofNat t))]) (rest := []) (lenOf pd__28_5bDIJJJII_29Z rfl) rfl (by show 2 * 0 + _ ≤ _; exact Nat.le_of_eq rfl) (hb hby at_161) (fun _ _ => ⟨rfl, e138, (by decide : 5 + 0 ≤ _), (by decide : 20 + 0 ≤ _)⟩)
  dsimp only [Pt.U, Pt.locs, Pt.cells, Pt.slots] at X139 l139 y139 z139 st139 hQ139
  subst l139 y139 z139
  obtain ⟨rfl, N139q, e139⟩ := hQ139
  have N139 := Fr.app N138 N139q
  obtain ⟨_, _, ⟨T140, L140, kk140, nn140⟩, -, X140, ⟨Lc140, hQ140, l140, y140, z140⟩, st140⟩ := Jvm.LawKit.callS X139 hx (y := (⟨"com/example/orthoform/kernel/LinearCombinationsAddProductsPinLaw", "ok", "([DIJJJII)Z"⟩ : MethodName)) hown (mvT hZ (hw _ (List.mem_of_getElem? (i := 12) rfl))) (mvT hZ (hw _ (List.mem_of_getElem? (i := 13) rfl))) (mvT hZ (hw _ (List.mem_of_getElem? (i := 2) rfl))) (mvT hZ (hw _ (List.mem_of_getElem? (i := 14) rfl))) (by decide) (backOf (W := 0) (rmok3 l Z a0 hw [] b_101 q1 q2 q3 (Int32.ofNat f) (Int32.ofNat t) (own_cur (fun j => FP.l2d (own_b q1 (Int32.ofNat (j)))) (fun j => FP.l2d (own_b q2 (Int32.ofNat (j)))) (fun j => FP.l2d (own_b q2 (Int32.ofNat (4 + j)))) (fun j => FP.l2d (own_b q3 (Int32.ofNat (j)))) (fun j => FP.l2d (own_b q3 (Int32.ofNat (4 + j)))) (FP.l2d (own_b q1 (4 : Int32))) (FP.l2d (own_b q1 (5 : Int32))) (FP.l2d (own_b q1 (6 : Int32))) (FP.l2d (own_b q1 (7 : Int32))) f t) kb_101 T135.heap n0 z136 x135_0 (fun hA' hB' => by
            have c : f ≤ 3 ∧ 3 < t := by
                have u1 := (not_congr (lt32_iff (i := 3) (n := f) (by omega) (by omega))).mp hA'
                have u2 := (lt32_iff (i := 3) (n := t) (by omega) (by omega)).mp hB'
                omega
            show cmpValue (FP.dcmp (own_cur _ _ _ _ _ _ _ _ _ f t 3) _) .l = 0
            unfold own_cur; rw [if_pos c]
            refine own_cmp (hA 3).2 ?_
            have e := own_expi (own_br q1 (3 : Int32)) (own_br q1 4) (own_br q2 (3 : Int32)) (own_br q1 5) (own_br q2 (7 : Int32)) (own_br q1 6) (own_br q3 (3 : Int32)) (own_br q1 7) (own_br q3 (7 : Int32))
            have z := own_mb (own_br q1 4) (own_br q2 (3 : Int32)); have z1 := own_mb (own_br q1 5) (own_br q2 (7 : Int32)); have z2 := own_mb (own_br q1 6) (own_br q3 (3 : Int32)); have z3 := own_mb (own_br q1 7) (own_br q3 (7 : Int32)); have z4 := own_br q1 (3 : Int32)
            exact (e ▸ FP.Core.l2d_int (by rw [e]; omega) : FP.Core.DInt _ _)) (fun hC => by
            have c : ¬ (f ≤ 3 ∧ 3 < t) := by
                have u1 := lt32_iff (i := 3) (n := f) (by omega) (by omega)
                have u2 := lt32_iff (i := 3) (n := t) (by omega) (by omega)
                rcases hC with q | q
                · have := u1.mp q; omega
                · have := (not_congr u2).mp q; omega
            show cmpValue (FP.dcmp (own_cur _ _ _ _ _ _ _ _ _ f t 3) _) .l = 0
            unfold own_cur; rw [if_neg c]
            exact dcmpV_self (Fl.l2d_fin _).noNaN .l)) hZ (hw _ (List.mem_of_getElem? (i := 14) rfl)) (hw _ (List.mem_of_getElem? (i := 2) rfl)) (by decide) (by decide)) (g := (mkF m 178 #[.val (.long q1), .second, .val (.long q2), .second, .val (.long q3), .second, .val (.int p1), .val (.int (Int32.ofNat f)), .val (.int (Int32.ofNat t)), .val (.ref b_101), .val (.ref b_103), .val (.ref b_106), .val (.ref b_111), .val (.ref b_118), .val (.double (FP.l2d (own_b q1 (4 : Int32)))), .second, .val (.double (FP.l2d (own_b q1 (5 : Int32)))), .second, .val (.double (FP.l2d (own_b q1 (6 : Int32)))), .second, .val (.double (FP.l2d (own_b q1 (7 : Int32)))), .second] [(.int (Int32.ofNat t)), (.int (Int32.ofNat f)), (.long q3), (.long q2), (.long q1), (.int (3 : Int32)), (.ref b_101)])) rfl (by rw [hml]; rfl) (argsL := [(.ref b_101), (.int (3 : Int32)), (.long q1), (.long q2), (.long q3), (.int (Int32.ofNat f)), (.int (Int32.ofNat t))]) (rest := []) (lenOf pd__28_5bDIJJJII_29Z rfl) rfl (by show 2 * 0 + _ ≤ _; exact Nat.le_of_eq rfl) (hb hby at_178) (fun _ _ => ⟨rfl, e139, (by decide : 5 + 0 ≤ _), (by decide : 20 + 0 ≤ _)⟩)
  dsimp only [Pt.U, Pt.locs, Pt.cells, Pt.slots] at X140 l140 y140 z140 st140 hQ140
  subst l140 y140 z140
  obtain ⟨rfl, N140q, e140⟩ := hQ140
  have N140 := Fr.app N139 N140q
  have f141 : Arv Z T135.heap b_103 kb_103 .double (4 : Int32) [(.double (FP.l2d (own_b q2 (0 : Int32)))), (.double (FP.l2d (own_b q2 (1 : Int32)))), (.double (FP.l2d (own_b q2 (2 : Int32)))), (.double (FP.l2d (own_b q2 (3 : Int32))))] (.double (0 : UInt64)) := (f132.keep K135 (own_nmc (Ne.symm ne104) own_nm0))
  obtain ⟨_, _, ⟨T142, L142, kk142, nn142⟩, -, X142, ⟨Lc142, hQ142, l142, y142, z142⟩, st142⟩ := Jvm.LawKit.callS X140 hx (y := (⟨"com/example/orthoform/kernel/LinearCombinationsAddProductsPinLaw", "same", "([DJI)Z"⟩ : MethodName)) hown (mvT hZ (hw _ (List.mem_of_getElem? (i := 15) rfl))) (mvT hZ (hw _ (List.mem_of_getElem? (i := 16) rfl))) (mvT hZ (hw _ (List.mem_of_getElem? (i := 2) rfl))) (mvT hZ (hw _ (List.mem_of_getElem? (i := 17) rfl))) (by decide) (backOf (W := 0) (rmsame0 l Z a0 hw [] b_103 q2 kb_103 T135.heap n0 z136 f141) hZ (hw _ (List.mem_of_getElem? (i := 17) rfl)) (hw _ (List.mem_of_getElem? (i := 2) rfl)) (by decide) (by decide)) (g := (mkF m 188 #[.val (.long q1), .second, .val (.long q2), .second, .val (.long q3), .second, .val (.int p1), .val (.int (Int32.ofNat f)), .val (.int (Int32.ofNat t)), .val (.ref b_101), .val (.ref b_103), .val (.ref b_106), .val (.ref b_111), .val (.ref b_118), .val (.double (FP.l2d (own_b q1 (4 : Int32)))), .second, .val (.double (FP.l2d (own_b q1 (5 : Int32)))), .second, .val (.double (FP.l2d (own_b q1 (6 : Int32)))), .second, .val (.double (FP.l2d (own_b q1 (7 : Int32)))), .second] [(.int (0 : Int32)), (.long q2), (.ref b_103)])) rfl (by rw [hml]; rfl) (argsL := [(.ref b_103), (.long q2), (.int (0 : Int32))]) (rest := []) (lenOf pd__28_5bDJI_29Z rfl) rfl (by show 2 * 0 + _ ≤ _; exact Nat.le_of_eq rfl) (hb hby at_188) (fun _ _ => ⟨rfl, e140, (by decide : 5 + 0 ≤ _), (by decide : 20 + 0 ≤ _)⟩)
  dsimp only [Pt.U, Pt.locs, Pt.cells, Pt.slots] at X142 l142 y142 z142 st142 hQ142
  subst l142 y142 z142
  obtain ⟨rfl, N142q, e142⟩ := hQ142
  have N142 := Fr.app N140 N142q
  have f143 : Arv Z T135.heap b_106 kb_106 .double (4 : Int32) [(.double (FP.l2d (own_b q2 (4 : Int32)))), (.double (FP.l2d (own_b q2 (5 : Int32)))), (.double (FP.l2d (own_b q2 (6 : Int32)))), (.double (FP.l2d (own_b q2 (7 : Int32))))] (.double (0 : UInt64)) := (f133.keep K135 (own_nmc (Ne.symm ne108) own_nm0))
  obtain ⟨_, _, ⟨T144, L144, kk144, nn144⟩, -, X144, ⟨Lc144, hQ144, l144, y144, z144⟩, st144⟩ := Jvm.LawKit.callS X142 hx (y := (⟨"com/example/orthoform/kernel/LinearCombinationsAddProductsPinLaw", "same", "([DJI)Z"⟩ : MethodName)) hown (mvT hZ (hw _ (List.mem_of_getElem? (i := 15) rfl))) (mvT hZ (hw _ (List.mem_of_getElem? (i := 16) rfl))) (mvT hZ (hw _ (List.mem_of_getElem? (i := 2) rfl))) (mvT hZ (hw _ (List.mem_of_getElem? (i := 17) rfl))) (by decide) (backOf (W := 0) (rmsame4 l Z a0 hw [] b_106 q2 kb_106 T135.heap n0 z136 f143) hZ (hw _ (List.mem_of_getElem? (i := 17) rfl)) (hw _ (List.mem_of_getElem? (i := 2) rfl)) (by decide) (by decide)) (g := (mkF m 198 #[.val (.long q1), .second, .val (.long q2), .second, .val (.long q3), .second, .val (.int p1), .val (.int (Int32.ofNat f)), .val (.int (Int32.ofNat t)), .val (.ref b_101), .val (.ref b_103), .val (.ref b_106), .val (.ref b_111), .val (.ref b_118), .val (.double (FP.l2d (own_b q1 (4 : Int32)))), .second, .val (.double (FP.l2d (own_b q1 (5 : Int32)))), .second, .val (.double (FP.l2d (own_b q1 (6 : Int32)))), .second, .val (.double (FP.l2d (own_b q1 (7 : Int32)))), .second] [(.int (4 : Int32)), (.long q2), (.ref b_106)])) rfl (by rw [hml]; rfl) (argsL := [(.ref b_106), (.long q2), (.int (4 : Int32))]) (rest := []) (lenOf pd__28_5bDJI_29Z rfl) rfl (by show 2 * 0 + _ ≤ _; exact Nat.le_of_eq rfl) (hb hby at_198) (fun _ _ => ⟨rfl, e142, (by decide : 5 + 0 ≤ _), (by decide : 20 + 0 ≤ _)⟩)
  dsimp only [Pt.U, Pt.locs, Pt.cells, Pt.slots] at X144 l144 y144 z144 st144 hQ144
  subst l144 y144 z144
  obtain ⟨rfl, N144q, e144⟩ := hQ144
  have N144 := Fr.app N142 N144q
  have f145 : Arv Z T135.heap b_111 kb_111 .double (4 : Int32) [(.double (FP.l2d (own_b q3 (0 : Int32)))), (.double (FP.l2d (own_b q3 (1 : Int32)))), (.double (FP.l2d (own_b q3 (2 : Int32)))), (.double (FP.l2d (own_b q3 (3 : Int32))))] (.double (0 : UInt64)) := (f134.keep K135 (own_nmc (Ne.symm ne114) own_nm0))
  obtain ⟨_, _, ⟨T146, L146, kk146, nn146⟩, -, X146, ⟨Lc146, hQ146, l146, y146, z146⟩, st146⟩ := Jvm.LawKit.callS X144 hx (y := (⟨"com/example/orthoform/kernel/LinearCombinationsAddProductsPinLaw", "same", "([DJI)Z"⟩ : MethodName)) hown (mvT hZ (hw _ (List.mem_of_getElem? (i := 15) rfl))) (mvT hZ (hw _ (List.mem_of_getElem? (i := 16) rfl))) (mvT hZ (hw _ (List.mem_of_getElem? (i := 2) rfl))) (mvT hZ (hw _ (List.mem_of_getElem? (i := 17) rfl))) (by decide) (backOf (W := 0) (rmsame0 l Z a0 hw [] b_111 q3 kb_111 T135.heap n0 z136 f145) hZ (hw _ (List.mem_of_getElem? (i := 17) rfl)) (hw _ (List.mem_of_getElem? (i := 2) rfl)) (by decide) (by decide)) (g := (mkF m 209 #[.val (.long q1), .second, .val (.long q2), .second, .val (.long q3), .second, .val (.int p1), .val (.int (Int32.ofNat f)), .val (.int (Int32.ofNat t)), .val (.ref b_101), .val (.ref b_103), .val (.ref b_106), .val (.ref b_111), .val (.ref b_118), .val (.double (FP.l2d (own_b q1 (4 : Int32)))), .second, .val (.double (FP.l2d (own_b q1 (5 : Int32)))), .second, .val (.double (FP.l2d (own_b q1 (6 : Int32)))), .second, .val (.double (FP.l2d (own_b q1 (7 : Int32)))), .second] [(.int (0 : Int32)), (.long q3), (.ref b_111)])) rfl (by rw [hml]; rfl) (argsL := [(.ref b_111), (.long q3), (.int (0 : Int32))]) (rest := []) (lenOf pd__28_5bDJI_29Z rfl) rfl (by show 2 * 0 + _ ≤ _; exact Nat.le_of_eq rfl) (hb hby at_209) (fun _ _ => ⟨rfl, e144, (by decide : 5 + 0 ≤ _), (by decide : 20 + 0 ≤ _)⟩)
  dsimp only [Pt.U, Pt.locs, Pt.cells, Pt.slots] at X146 l146 y146 z146 st146 hQ146
  subst l146 y146 z146
  obtain ⟨rfl, N146q, e146⟩ := hQ146
  have N146 := Fr.app N144 N146q
  have f147 : Arv Z T135.heap b_118 kb_118 .double (4 : Int32) [(.double (FP.l2d (own_b q3 (4 : Int32)))), (.double (FP.l2d (own_b q3 (5 : Int32)))), (.double (FP.l2d (own_b q3 (6 : Int32)))), (.double (FP.l2d (own_b q3 (7 : Int32))))] (.double (0 : UInt64)) := (x118_1.keep K135 (own_nmc (Ne.symm ne122) own_nm0))
  obtain ⟨_, _, ⟨T148, L148, kk148, nn148⟩, -, X148, ⟨Lc148, hQ148, l148, y148, z148⟩, st148⟩ := Jvm.LawKit.callS X146 hx (y := (⟨"com/example/orthoform/kernel/LinearCombinationsAddProductsPinLaw", "same", "([DJI)Z"⟩ : MethodName)) hown (mvT hZ (hw _ (List.mem_of_getElem? (i := 15) rfl))) (mvT hZ (hw _ (List.mem_of_getElem? (i := 16) rfl))) (mvT hZ (hw _ (List.mem_of_getElem? (i := 2) rfl))) (mvT hZ (hw _ (List.mem_of_getElem? (i := 17) rfl))) (by decide) (backOf (W := 0) (rmsame4 l Z a0 hw [] b_118 q3 kb_118 T135.heap n0 z136 f147) hZ (hw _ (List.mem_of_getElem? (i := 17) rfl)) (hw _ (List.mem_of_getElem? (i := 2) rfl)) (by decide) (by decide)) (g := (mkF m 220 #[.val (.long q1), .second, .val (.long q2), .second, .val (.long q3), .second, .val (.int p1), .val (.int (Int32.ofNat f)), .val (.int (Int32.ofNat t)), .val (.ref b_101), .val (.ref b_103), .val (.ref b_106), .val (.ref b_111), .val (.ref b_118), .val (.double (FP.l2d (own_b q1 (4 : Int32)))), .second, .val (.double (FP.l2d (own_b q1 (5 : Int32)))), .second, .val (.double (FP.l2d (own_b q1 (6 : Int32)))), .second, .val (.double (FP.l2d (own_b q1 (7 : Int32)))), .second] [(.int (4 : Int32)), (.long q3), (.ref b_118)])) rfl (by rw [hml]; rfl) (argsL := [(.ref b_118), (.long q3), (.int (4 : Int32))]) (rest := []) (lenOf pd__28_5bDJI_29Z rfl) rfl (by show 2 * 0 + _ ≤ _; exact Nat.le_of_eq rfl) (hb hby at_220) (fun _ _ => ⟨rfl, e146, (by decide : 5 + 0 ≤ _), (by decide : 20 + 0 ≤ _)⟩)
  dsimp only [Pt.U, Pt.locs, Pt.cells, Pt.slots] at X148 l148 y148 z148 st148 hQ148
  subst l148 y148 z148
  obtain ⟨rfl, N148q, e148⟩ := hQ148
  have N148 := Fr.app N146 N148q
  have pre149 : ∀ t_, Steps p.tables e below (T148.setTop (mkF m 231 #[.val (.long q1), .second, .val (.long q2), .second, .val (.long q3), .second, .val (.int p1), .val (.int (Int32.ofNat f)), .val (.int (Int32.ofNat t)), .val (.ref b_101), .val (.ref b_103), .val (.ref b_106), .val (.ref b_111), .val (.ref b_118), .val (.double (FP.l2d (own_b q1 (4 : Int32)))), .second, .val (.double (FP.l2d (own_b q1 (5 : Int32)))), .second, .val (.double (FP.l2d (own_b q1 (6 : Int32)))), .second, .val (.double (FP.l2d (own_b q1 (7 : Int32)))), .second] [(.int (1 : Int32))])) t_ → Steps p.tables e below (s₁.setTop (entryFrame m #[(.long q1), (.long q2), (.long q3), (.int p1)] maxLocals)) t_ := fun t_ kt => pre0 t_ (by
      show Steps p.tables e below (s₁.setTop (mkF m 0 #[.val (.long q1), .second, .val (.long q2), .second, .val (.long q3), .second, .val (.int p1), .unset, .unset, .unset, .unset, .unset, .unset, .unset, .unset, .unset, .unset, .unset, .unset, .unset, .unset, .unset] [])) _
      refine XS.iload X0.here hx rfl (hb hby at_0) rfl ?_
      show Steps p.tables e below (s₁.setTop (mkF m 2 #[.val (.long q1), .second, .val (.long q2), .second, .val (.long q3), .second, .val (.int p1), .unset, .unset, .unset, .unset, .unset, .unset, .unset, .unset, .unset, .unset, .unset, .unset, .unset, .unset, .unset] [(.int p1)])) _
      refine XS.bipush X0.here hx rfl (hb hby at_2) ?_
      show Steps p.tables e below (s₁.setTop (mkF m 4 #[.val (.long q1), .second, .val (.long q2), .second, .val (.long q3), .second, .val (.int p1), .unset, .unset, .unset, .unset, .unset, .unset, .unset, .unset, .unset, .unset, .unset, .unset, .unset, .unset, .unset] [(.int (7 : Int32)), (.int p1)])) _
      refine XS.iand X0.here hx rfl (hb hby at_4) rfl ?_
      show Steps p.tables e below (s₁.setTop (mkF m 5 #[.val (.long q1), .second, .val (.long q2), .second, .val (.long q3), .second, .val (.int p1), .unset, .unset, .unset, .unset, .unset, .unset, .unset, .unset, .unset, .unset, .unset, .unset, .unset, .unset, .unset] [(.int (p1 &&& (7 : Int32)))])) _
      refine XS.iconst X0.here hx rfl (hb hby at_5) ?_
      show Steps p.tables e below (s₁.setTop (mkF m 6 #[.val (.long q1), .second, .val (.long q2), .second, .val (.long q3), .second, .val (.int p1), .unset, .unset, .unset, .unset, .unset, .unset, .unset, .unset, .unset, .unset, .unset, .unset, .unset, .unset, .unset] [(.int (5 : Int32)), (.int (p1 &&& (7 : Int32)))])) _
      refine iremM X0 hx rfl (hb hby at_6) rfl (by decide) ?_
      show Steps p.tables e below (s₁.setTop (mkF m 7 #[.val (.long q1), .second, .val (.long q2), .second, .val (.long q3), .second, .val (.int p1), .unset, .unset, .unset, .unset, .unset, .unset, .unset, .unset, .unset, .unset, .unset, .unset, .unset, .unset, .unset] [(.int ((p1 &&& (7 : Int32)) % (5 : Int32)))])) _
      rw [hf]
      show Steps p.tables e below (s₁.setTop (mkF m 7 #[.val (.long q1), .second, .val (.long q2), .second, .val (.long q3), .second, .val (.int p1), .unset, .unset, .unset, .unset, .unset, .unset, .unset, .unset, .unset, .unset, .unset, .unset, .unset, .unset, .unset] [(.int (Int32.ofNat f))])) _
      refine XS.istore X0.here hx rfl (hb hby at_7) rfl (l' := #[.val (.long q1), .second, .val (.long q2), .second, .val (.long q3), .second, .val (.int p1), .val (.int (Int32.ofNat f)), .unset, .unset, .unset, .unset, .unset, .unset, .unset, .unset, .unset, .unset, .unset, .unset, .unset, .unset]) rfl ?_
      show Steps p.tables e below (s₁.setTop (mkF m 9 #[.val (.long q1), .second, .val (.long q2), .second, .val (.long q3), .second, .val (.int p1), .val (.int (Int32.ofNat f)), .unset, .unset, .unset, .unset, .unset, .unset, .unset, .unset, .unset, .unset, .unset, .unset, .unset, .unset] [])) _
      refine XS.iload X0.here hx rfl (hb hby at_9) rfl ?_
      show Steps p.tables e below (s₁.setTop (mkF m 11 #[.val (.long q1), .second, .val (.long q2), .second, .val (.long q3), .second, .val (.int p1), .val (.int (Int32.ofNat f)), .unset, .unset, .unset, .unset, .unset, .unset, .unset, .unset, .unset, .unset, .unset, .unset, .unset, .unset] [(.int p1)])) _
      refine XS.iconst X0.here hx rfl (hb hby at_11) ?_
      show Steps p.tables e below (s₁.setTop (mkF m 12 #[.val (.long q1), .second, .val (.long q2), .second, .val (.long q3), .second, .val (.int p1), .val (.int (Int32.ofNat f)), .unset, .unset, .unset, .unset, .unset, .unset, .unset, .unset, .unset, .unset, .unset, .unset, .unset, .unset] [(.int (3 : Int32)), (.int p1)])) _
      refine XS.iushr X0.here hx rfl (hb hby at_12) rfl ?_
      show Steps p.tables e below (s₁.setTop (mkF m 13 #[.val (.long q1), .second, .val (.long q2), .second, .val (.long q3), .second, .val (.int p1), .val (.int (Int32.ofNat f)), .unset, .unset, .unset, .unset, .unset, .unset, .unset, .unset, .unset, .unset, .unset, .unset, .unset, .unset] [(.int ((p1.toUInt32 >>> ((3 : Int32) &&& 31).toUInt32).toInt32))])) _
      refine XS.bipush X0.here hx rfl (hb hby at_13) ?_
      show Steps p.tables e below (s₁.setTop (mkF m 15 #[.val (.long q1), .second, .val (.long q2), .second, .val (.long q3), .second, .val (.int p1), .val (.int (Int32.ofNat f)), .unset, .unset, .unset, .unset, .unset, .unset, .unset, .unset, .unset, .unset, .unset, .unset, .unset, .unset] [(.int (7 : Int32)), (.int ((p1.toUInt32 >>> ((3 : Int32) &&& 31).toUInt32).toInt32))])) _
      refine XS.iand X0.here hx rfl (hb hby at_15) rfl ?_
      show Steps p.tables e below (s₁.setTop (mkF m 16 #[.val (.long q1), .second, .val (.long q2), .second, .val (.long q3), .second, .val (.int p1), .val (.int (Int32.ofNat f)), .unset, .unset, .unset, .unset, .unset, .unset, .unset, .unset, .unset, .unset, .unset, .unset, .unset, .unset] [(.int (((p1.toUInt32 >>> ((3 : Int32) &&& 31).toUInt32).toInt32) &&& (7 : Int32)))])) _
      refine XS.iconst X0.here hx rfl (hb hby at_16) ?_
      show Steps p.tables e below (s₁.setTop (mkF m 17 #[.val (.long q1), .second, .val (.long q2), .second, .val (.long q3), .second, .val (.int p1), .val (.int (Int32.ofNat f)), .unset, .unset, .unset, .unset, .unset, .unset, .unset, .unset, .unset, .unset, .unset, .unset, .unset, .unset] [(.int (5 : Int32)), (.int (((p1.toUInt32 >>> ((3 : Int32) &&& 31).toUInt32).toInt32) &&& (7 : Int32)))])) _
      refine iremM X0 hx rfl (hb hby at_17) rfl (by decide) ?_
      show Steps p.tables e below (s₁.setTop (mkF m 18 #[.val (.long q1), .second, .val (.long q2), .second, .val (.long q3), .second, .val (.int p1), .val (.int (Int32.ofNat f)), .unset, .unset, .unset, .unset, .unset, .unset, .unset, .unset, .unset, .unset, .unset, .unset, .unset, .unset] [(.int ((((p1.toUInt32 >>> ((3 : Int32) &&& 31).toUInt32).toInt32) &&& (7 : Int32)) % (5 : Int32)))])) _
      rw [ht]
      show Steps p.tables e below (s₁.setTop (mkF m 18 #[.val (.long q1), .second, .val (.long q2), .second, .val (.long q3), .second, .val (.int p1), .val (.int (Int32.ofNat f)), .unset, .unset, .unset, .unset, .unset, .unset, .unset, .unset, .unset, .unset, .unset, .unset, .unset, .unset] [(.int (Int32.ofNat t))])) _
      refine XS.istore X0.here hx rfl (hb hby at_18) rfl (l' := #[.val (.long q1), .second, .val (.long q2), .second, .val (.long q3), .second, .val (.int p1), .val (.int (Int32.ofNat f)), .val (.int (Int32.ofNat t)), .unset, .unset, .unset, .unset, .unset, .unset, .unset, .unset, .unset, .unset, .unset, .unset, .unset]) rfl ?_
      show Steps p.tables e below (s₁.setTop (mkF m 20 #[.val (.long q1), .second, .val (.long q2), .second, .val (.long q3), .second, .val (.int p1), .val (.int (Int32.ofNat f)), .val (.int (Int32.ofNat t)), .unset, .unset, .unset, .unset, .unset, .unset, .unset, .unset, .unset, .unset, .unset, .unset, .unset] [])) _
      refine XS.lloadN X0.here hx rfl (hb hby at_20) rfl ?_
      show Steps p.tables e below (s₁.setTop (mkF m 21 #[.val (.long q1), .second, .val (.long q2), .second, .val (.long q3), .second, .val (.int p1), .val (.int (Int32.ofNat f)), .val (.int (Int32.ofNat t)), .unset, .unset, .unset, .unset, .unset, .unset, .unset, .unset, .unset, .unset, .unset, .unset, .unset] [(.long q1)])) _
      refine XS.iconst X0.here hx rfl (hb hby at_21) ?_
      show Steps p.tables e below (s₁.setTop (mkF m 22 #[.val (.long q1), .second, .val (.long q2), .second, .val (.long q3), .second, .val (.int p1), .val (.int (Int32.ofNat f)), .val (.int (Int32.ofNat t)), .unset, .unset, .unset, .unset, .unset, .unset, .unset, .unset, .unset, .unset, .unset, .unset, .unset] [(.int (0 : Int32)), (.long q1)])) _
      refine st101 _ ?_
      show Steps p.tables e below (T101.setTop (mkF m 25 #[.val (.long q1), .second, .val (.long q2), .second, .val (.long q3), .second, .val (.int p1), .val (.int (Int32.ofNat f)), .val (.int (Int32.ofNat t)), .unset, .unset, .unset, .unset, .unset, .unset, .unset, .unset, .unset, .unset, .unset, .unset, .unset] [(.ref b_101)])) _
      refine XS.astore X101.here hx rfl (hb hby at_25) rfl rfl (l' := #[.val (.long q1), .second, .val (.long q2), .second, .val (.long q3), .second, .val (.int p1), .val (.int (Int32.ofNat f)), .val (.int (Int32.ofNat t)), .val (.ref b_101), .unset, .unset, .unset, .unset, .unset, .unset, .unset, .unset, .unset, .unset, .unset, .unset]) rfl ?_
      show Steps p.tables e below (T101.setTop (mkF m 27 #[.val (.long q1), .second, .val (.long q2), .second, .val (.long q3), .second, .val (.int p1), .val (.int (Int32.ofNat f)), .val (.int (Int32.ofNat t)), .val (.ref b_101), .unset, .unset, .unset, .unset, .unset, .unset, .unset, .unset, .unset, .unset, .unset, .unset] [])) _
      refine XS.lloadN X101.here hx rfl (hb hby at_27) rfl ?_
      show Steps p.tables e below (T101.setTop (mkF m 28 #[.val (.long q1), .second, .val (.long q2), .second, .val (.long q3), .second, .val (.int p1), .val (.int (Int32.ofNat f)), .val (.int (Int32.ofNat t)), .val (.ref b_101), .unset, .unset, .unset, .unset, .unset, .unset, .unset, .unset, .unset, .unset, .unset, .unset] [(.long q2)])) _
      refine XS.iconst X101.here hx rfl (hb hby at_28) ?_
      show Steps p.tables e below (T101.setTop (mkF m 29 #[.val (.long q1), .second, .val (.long q2), .second, .val (.long q3), .second, .val (.int p1), .val (.int (Int32.ofNat f)), .val (.int (Int32.ofNat t)), .val (.ref b_101), .unset, .unset, .unset, .unset, .unset, .unset, .unset, .unset, .unset, .unset, .unset, .unset] [(.int (0 : Int32)), (.long q2)])) _
      refine st103 _ ?_
      show Steps p.tables e below (T103.setTop (mkF m 32 #[.val (.long q1), .second, .val (.long q2), .second, .val (.long q3), .second, .val (.int p1), .val (.int (Int32.ofNat f)), .val (.int (Int32.ofNat t)), .val (.ref b_101), .unset, .unset, .unset, .unset, .unset, .unset, .unset, .unset, .unset, .unset, .unset, .unset] [(.ref b_103)])) _
      refine XS.astore X103.here hx rfl (hb hby at_32) rfl rfl (l' := #[.val (.long q1), .second, .val (.long q2), .second, .val (.long q3), .second, .val (.int p1), .val (.int (Int32.ofNat f)), .val (.int (Int32.ofNat t)), .val (.ref b_101), .val (.ref b_103), .unset, .unset, .unset, .unset, .unset, .unset, .unset, .unset, .unset, .unset, .unset]) rfl ?_
      show Steps p.tables e below (T103.setTop (mkF m 34 #[.val (.long q1), .second, .val (.long q2), .second, .val (.long q3), .second, .val (.int p1), .val (.int (Int32.ofNat f)), .val (.int (Int32.ofNat t)), .val (.ref b_101), .val (.ref b_103), .unset, .unset, .unset, .unset, .unset, .unset, .unset, .unset, .unset, .unset, .unset] [])) _
      refine XS.lloadN X103.here hx rfl (hb hby at_34) rfl ?_
      show Steps p.tables e below (T103.setTop (mkF m 35 #[.val (.long q1), .second, .val (.long q2), .second, .val (.long q3), .second, .val (.int p1), .val (.int (Int32.ofNat f)), .val (.int (Int32.ofNat t)), .val (.ref b_101), .val (.ref b_103), .unset, .unset, .unset, .unset, .unset, .unset, .unset, .unset, .unset, .unset, .unset] [(.long q2)])) _
      refine XS.iconst X103.here hx rfl (hb hby at_35) ?_
      show Steps p.tables e below (T103.setTop (mkF m 36 #[.val (.long q1), .second, .val (.long q2), .second, .val (.long q3), .second, .val (.int p1), .val (.int (Int32.ofNat f)), .val (.int (Int32.ofNat t)), .val (.ref b_101), .val (.ref b_103), .unset, .unset, .unset, .unset, .unset, .unset, .unset, .unset, .unset, .unset, .unset] [(.int (4 : Int32)), (.long q2)])) _
      refine st106 _ ?_
      show Steps p.tables e below (T106.setTop (mkF m 39 #[.val (.long q1), .second, .val (.long q2), .second, .val (.long q3), .second, .val (.int p1), .val (.int (Int32.ofNat f)), .val (.int (Int32.ofNat t)), .val (.ref b_101), .val (.ref b_103), .unset, .unset, .unset, .unset, .unset, .unset, .unset, .unset, .unset, .unset, .unset] [(.ref b_106)])) _
      refine XS.astore X106.here hx rfl (hb hby at_39) rfl rfl (l' := #[.val (.long q1), .second, .val (.long q2), .second, .val (.long q3), .second, .val (.int p1), .val (.int (Int32.ofNat f)), .val (.int (Int32.ofNat t)), .val (.ref b_101), .val (.ref b_103), .val (.ref b_106), .unset, .unset, .unset, .unset, .unset, .unset, .unset, .unset, .unset, .unset]) rfl ?_
      show Steps p.tables e below (T106.setTop (mkF m 41 #[.val (.long q1), .second, .val (.long q2), .second, .val (.long q3), .second, .val (.int p1), .val (.int (Int32.ofNat f)), .val (.int (Int32.ofNat t)), .val (.ref b_101), .val (.ref b_103), .val (.ref b_106), .unset, .unset, .unset, .unset, .unset, .unset, .unset, .unset, .unset, .unset] [])) _
      refine XS.lload X106.here hx rfl (hb hby at_41) rfl ?_
      show Steps p.tables e below (T106.setTop (mkF m 43 #[.val (.long q1), .second, .val (.long q2), .second, .val (.long q3), .second, .val (.int p1), .val (.int (Int32.ofNat f)), .val (.int (Int32.ofNat t)), .val (.ref b_101), .val (.ref b_103), .val (.ref b_106), .unset, .unset, .unset, .unset, .unset, .unset, .unset, .unset, .unset, .unset] [(.long q3)])) _
      refine XS.iconst X106.here hx rfl (hb hby at_43) ?_
      show Steps p.tables e below (T106.setTop (mkF m 44 #[.val (.long q1), .second, .val (.long q2), .second, .val (.long q3), .second, .val (.int p1), .val (.int (Int32.ofNat f)), .val (.int (Int32.ofNat t)), .val (.ref b_101), .val (.ref b_103), .val (.ref b_106), .unset, .unset, .unset, .unset, .unset, .unset, .unset, .unset, .unset, .unset] [(.int (0 : Int32)), (.long q3)])) _
      refine st111 _ ?_
      show Steps p.tables e below (T111.setTop (mkF m 47 #[.val (.long q1), .second, .val (.long q2), .second, .val (.long q3), .second, .val (.int p1), .val (.int (Int32.ofNat f)), .val (.int (Int32.ofNat t)), .val (.ref b_101), .val (.ref b_103), .val (.ref b_106), .unset, .unset, .unset, .unset, .unset, .unset, .unset, .unset, .unset, .unset] [(.ref b_111)])) _
      refine XS.astore X111.here hx rfl (hb hby at_47) rfl rfl (l' := #[.val (.long q1), .second, .val (.long q2), .second, .val (.long q3), .second, .val (.int p1), .val (.int (Int32.ofNat f)), .val (.int (Int32.ofNat t)), .val (.ref b_101), .val (.ref b_103), .val (.ref b_106), .val (.ref b_111), .unset, .unset, .unset, .unset, .unset, .unset, .unset, .unset, .unset]) rfl ?_
      show Steps p.tables e below (T111.setTop (mkF m 49 #[.val (.long q1), .second, .val (.long q2), .second, .val (.long q3), .second, .val (.int p1), .val (.int (Int32.ofNat f)), .val (.int (Int32.ofNat t)), .val (.ref b_101), .val (.ref b_103), .val (.ref b_106), .val (.ref b_111), .unset, .unset, .unset, .unset, .unset, .unset, .unset, .unset, .unset] [])) _
      refine XS.lload X111.here hx rfl (hb hby at_49) rfl ?_
      show Steps p.tables e below (T111.setTop (mkF m 51 #[.val (.long q1), .second, .val (.long q2), .second, .val (.long q3), .second, .val (.int p1), .val (.int (Int32.ofNat f)), .val (.int (Int32.ofNat t)), .val (.ref b_101), .val (.ref b_103), .val (.ref b_106), .val (.ref b_111), .unset, .unset, .unset, .unset, .unset, .unset, .unset, .unset, .unset] [(.long q3)])) _
      refine XS.iconst X111.here hx rfl (hb hby at_51) ?_
      show Steps p.tables e below (T111.setTop (mkF m 52 #[.val (.long q1), .second, .val (.long q2), .second, .val (.long q3), .second, .val (.int p1), .val (.int (Int32.ofNat f)), .val (.int (Int32.ofNat t)), .val (.ref b_101), .val (.ref b_103), .val (.ref b_106), .val (.ref b_111), .unset, .unset, .unset, .unset, .unset, .unset, .unset, .unset, .unset] [(.int (4 : Int32)), (.long q3)])) _
      refine st118 _ ?_
      show Steps p.tables e below (T118.setTop (mkF m 55 #[.val (.long q1), .second, .val (.long q2), .second, .val (.long q3), .second, .val (.int p1), .val (.int (Int32.ofNat f)), .val (.int (Int32.ofNat t)), .val (.ref b_101), .val (.ref b_103), .val (.ref b_106), .val (.ref b_111), .unset, .unset, .unset, .unset, .unset, .unset, .unset, .unset, .unset] [(.ref b_118)])) _
      refine XS.astore X118.here hx rfl (hb hby at_55) rfl rfl (l' := #[.val (.long q1), .second, .val (.long q2), .second, .val (.long q3), .second, .val (.int p1), .val (.int (Int32.ofNat f)), .val (.int (Int32.ofNat t)), .val (.ref b_101), .val (.ref b_103), .val (.ref b_106), .val (.ref b_111), .val (.ref b_118), .unset, .unset, .unset, .unset, .unset, .unset, .unset, .unset]) rfl ?_
      show Steps p.tables e below (T118.setTop (mkF m 57 #[.val (.long q1), .second, .val (.long q2), .second, .val (.long q3), .second, .val (.int p1), .val (.int (Int32.ofNat f)), .val (.int (Int32.ofNat t)), .val (.ref b_101), .val (.ref b_103), .val (.ref b_106), .val (.ref b_111), .val (.ref b_118), .unset, .unset, .unset, .unset, .unset, .unset, .unset, .unset] [])) _
      refine XS.lloadN X118.here hx rfl (hb hby at_57) rfl ?_
      show Steps p.tables e below (T118.setTop (mkF m 58 #[.val (.long q1), .second, .val (.long q2), .second, .val (.long q3), .second, .val (.int p1), .val (.int (Int32.ofNat f)), .val (.int (Int32.ofNat t)), .val (.ref b_101), .val (.ref b_103), .val (.ref b_106), .val (.ref b_111), .val (.ref b_118), .unset, .unset, .unset, .unset, .unset, .unset, .unset, .unset] [(.long q1)])) _
      refine XS.iconst X118.here hx rfl (hb hby at_58) ?_
      show Steps p.tables e below (T118.setTop (mkF m 59 #[.val (.long q1), .second, .val (.long q2), .second, .val (.long q3), .second, .val (.int p1), .val (.int (Int32.ofNat f)), .val (.int (Int32.ofNat t)), .val (.ref b_101), .val (.ref b_103), .val (.ref b_106), .val (.ref b_111), .val (.ref b_118), .unset, .unset, .unset, .unset, .unset, .unset, .unset, .unset] [(.int (4 : Int32)), (.long q1)])) _
      refine st127 _ ?_
      show Steps p.tables e below (T127.setTop (mkF m 62 #[.val (.long q1), .second, .val (.long q2), .second, .val (.long q3), .second, .val (.int p1), .val (.int (Int32.ofNat f)), .val (.int (Int32.ofNat t)), .val (.ref b_101), .val (.ref b_103), .val (.ref b_106), .val (.ref b_111), .val (.ref b_118), .unset, .unset, .unset, .unset, .unset, .unset, .unset, .unset] [(.long (own_b q1 (4 : Int32)))])) _
      refine XS.l2dS X127.here hx rfl (hb hby at_62) rfl (v := (FP.l2d (own_b q1 (4 : Int32)))) rfl ?_
      show Steps p.tables e below (T127.setTop (mkF m 63 #[.val (.long q1), .second, .val (.long q2), .second, .val (.long q3), .second, .val (.int p1), .val (.int (Int32.ofNat f)), .val (.int (Int32.ofNat t)), .val (.ref b_101), .val (.ref b_103), .val (.ref b_106), .val (.ref b_111), .val (.ref b_118), .unset, .unset, .unset, .unset, .unset, .unset, .unset, .unset] [(.double (FP.l2d (own_b q1 (4 : Int32))))])) _
      refine XS.dstore X127.here hx rfl (hb hby at_63) rfl (l' := #[.val (.long q1), .second, .val (.long q2), .second, .val (.long q3), .second, .val (.int p1), .val (.int (Int32.ofNat f)), .val (.int (Int32.ofNat t)), .val (.ref b_101), .val (.ref b_103), .val (.ref b_106), .val (.ref b_111), .val (.ref b_118), .val (.double (FP.l2d (own_b q1 (4 : Int32)))), .second, .unset, .unset, .unset, .unset, .unset, .unset]) rfl ?_
      show Steps p.tables e below (T127.setTop (mkF m 65 #[.val (.long q1), .second, .val (.long q2), .second, .val (.long q3), .second, .val (.int p1), .val (.int (Int32.ofNat f)), .val (.int (Int32.ofNat t)), .val (.ref b_101), .val (.ref b_103), .val (.ref b_106), .val (.ref b_111), .val (.ref b_118), .val (.double (FP.l2d (own_b q1 (4 : Int32)))), .second, .unset, .unset, .unset, .unset, .unset, .unset] [])) _
      refine XS.lloadN X127.here hx rfl (hb hby at_65) rfl ?_
      show Steps p.tables e below (T127.setTop (mkF m 66 #[.val (.long q1), .second, .val (.long q2), .second, .val (.long q3), .second, .val (.int p1), .val (.int (Int32.ofNat f)), .val (.int (Int32.ofNat t)), .val (.ref b_101), .val (.ref b_103), .val (.ref b_106), .val (.ref b_111), .val (.ref b_118), .val (.double (FP.l2d (own_b q1 (4 : Int32)))), .second, .unset, .unset, .unset, .unset, .unset, .unset] [(.long q1)])) _
      refine XS.iconst X127.here hx rfl (hb hby at_66) ?_
      show Steps p.tables e below (T127.setTop (mkF m 67 #[.val (.long q1), .second, .val (.long q2), .second, .val (.long q3), .second, .val (.int p1), .val (.int (Int32.ofNat f)), .val (.int (Int32.ofNat t)), .val (.ref b_101), .val (.ref b_103), .val (.ref b_106), .val (.ref b_111), .val (.ref b_118), .val (.double (FP.l2d (own_b q1 (4 : Int32)))), .second, .unset, .unset, .unset, .unset, .unset, .unset] [(.int (5 : Int32)), (.long q1)])) _
      refine st128 _ ?_
      show Steps p.tables e below (T128.setTop (mkF m 70 #[.val (.long q1), .second, .val (.long q2), .second, .val (.long q3), .second, .val (.int p1), .val (.int (Int32.ofNat f)), .val (.int (Int32.ofNat t)), .val (.ref b_101), .val (.ref b_103), .val (.ref b_106), .val (.ref b_111), .val (.ref b_118), .val (.double (FP.l2d (own_b q1 (4 : Int32)))), .second, .unset, .unset, .unset, .unset, .unset, .unset] [(.long (own_b q1 (5 : Int32)))])) _
      refine XS.l2dS X128.here hx rfl (hb hby at_70) rfl (v := (FP.l2d (own_b q1 (5 : Int32)))) rfl ?_
      show Steps p.tables e below (T128.setTop (mkF m 71 #[.val (.long q1), .second, .val (.long q2), .second, .val (.long q3), .second, .val (.int p1), .val (.int (Int32.ofNat f)), .val (.int (Int32.ofNat t)), .val (.ref b_101), .val (.ref b_103), .val (.ref b_106), .val (.ref b_111), .val (.ref b_118), .val (.double (FP.l2d (own_b q1 (4 : Int32)))), .second, .unset, .unset, .unset, .unset, .unset, .unset] [(.double (FP.l2d (own_b q1 (5 : Int32))))])) _
      refine XS.dstore X128.here hx rfl (hb hby at_71) rfl (l' := #[.val (.long q1), .second, .val (.long q2), .second, .val (.long q3), .second, .val (.int p1), .val (.int (Int32.ofNat f)), .val (.int (Int32.ofNat t)), .val (.ref b_101), .val (.ref b_103), .val (.ref b_106), .val (.ref b_111), .val (.ref b_118), .val (.double (FP.l2d (own_b q1 (4 : Int32)))), .second, .val (.double (FP.l2d (own_b q1 (5 : Int32)))), .second, .unset, .unset, .unset, .unset]) rfl ?_
      show Steps p.tables e below (T128.setTop (mkF m 73 #[.val (.long q1), .second, .val (.long q2), .second, .val (.long q3), .second, .val (.int p1), .val (.int (Int32.ofNat f)), .val (.int (Int32.ofNat t)), .val (.ref b_101), .val (.ref b_103), .val (.ref b_106), .val (.ref b_111), .val (.ref b_118), .val (.double (FP.l2d (own_b q1 (4 : Int32)))), .second, .val (.double (FP.l2d (own_b q1 (5 : Int32)))), .second, .unset, .unset, .unset, .unset] [])) _
      refine XS.lloadN X128.here hx rfl (hb hby at_73) rfl ?_
      show Steps p.tables e below (T128.setTop (mkF m 74 #[.val (.long q1), .second, .val (.long q2), .second, .val (.long q3), .second, .val (.int p1), .val (.int (Int32.ofNat f)), .val (.int (Int32.ofNat t)), .val (.ref b_101), .val (.ref b_103), .val (.ref b_106), .val (.ref b_111), .val (.ref b_118), .val (.double (FP.l2d (own_b q1 (4 : Int32)))), .second, .val (.double (FP.l2d (own_b q1 (5 : Int32)))), .second, .unset, .unset, .unset, .unset] [(.long q1)])) _
      refine XS.bipush X128.here hx rfl (hb hby at_74) ?_
      show Steps p.tables e below (T128.setTop (mkF m 76 #[.val (.long q1), .second, .val (.long q2), .second, .val (.long q3), .second, .val (.int p1), .val (.int (Int32.ofNat f)), .val (.int (Int32.ofNat t)), .val (.ref b_101), .val (.ref b_103), .val (.ref b_106), .val (.ref b_111), .val (.ref b_118), .val (.double (FP.l2d (own_b q1 (4 : Int32)))), .second, .val (.double (FP.l2d (own_b q1 (5 : Int32)))), .second, .unset, .unset, .unset, .unset] [(.int (6 : Int32)), (.long q1)])) _
      refine st129 _ ?_
      show Steps p.tables e below (T129.setTop (mkF m 79 #[.val (.long q1), .second, .val (.long q2), .second, .val (.long q3), .second, .val (.int p1), .val (.int (Int32.ofNat f)), .val (.int (Int32.ofNat t)), .val (.ref b_101), .val (.ref b_103), .val (.ref b_106), .val (.ref b_111), .val (.ref b_118), .val (.double (FP.l2d (own_b q1 (4 : Int32)))), .second, .val (.double (FP.l2d (own_b q1 (5 : Int32)))), .second, .unset, .unset, .unset, .unset] [(.long (own_b q1 (6 : Int32)))])) _
      refine XS.l2dS X129.here hx rfl (hb hby at_79) rfl (v := (FP.l2d (own_b q1 (6 : Int32)))) rfl ?_
      show Steps p.tables e below (T129.setTop (mkF m 80 #[.val (.long q1), .second, .val (.long q2), .second, .val (.long q3), .second, .val (.int p1), .val (.int (Int32.ofNat f)), .val (.int (Int32.ofNat t)), .val (.ref b_101), .val (.ref b_103), .val (.ref b_106), .val (.ref b_111), .val (.ref b_118), .val (.double (FP.l2d (own_b q1 (4 : Int32)))), .second, .val (.double (FP.l2d (own_b q1 (5 : Int32)))), .second, .unset, .unset, .unset, .unset] [(.double (FP.l2d (own_b q1 (6 : Int32))))])) _
      refine XS.dstore X129.here hx rfl (hb hby at_80) rfl (l' := #[.val (.long q1), .second, .val (.long q2), .second, .val (.long q3), .second, .val (.int p1), .val (.int (Int32.ofNat f)), .val (.int (Int32.ofNat t)), .val (.ref b_101), .val (.ref b_103), .val (.ref b_106), .val (.ref b_111), .val (.ref b_118), .val (.double (FP.l2d (own_b q1 (4 : Int32)))), .second, .val (.double (FP.l2d (own_b q1 (5 : Int32)))), .second, .val (.double (FP.l2d (own_b q1 (6 : Int32)))), .second, .unset, .unset]) rfl ?_
      show Steps p.tables e below (T129.setTop (mkF m 82 #[.val (.long q1), .second, .val (.long q2), .second, .val (.long q3), .second, .val (.int p1), .val (.int (Int32.ofNat f)), .val (.int (Int32.ofNat t)), .val (.ref b_101), .val (.ref b_103), .val (.ref b_106), .val (.ref b_111), .val (.ref b_118), .val (.double (FP.l2d (own_b q1 (4 : Int32)))), .second, .val (.double (FP.l2d (own_b q1 (5 : Int32)))), .second, .val (.double (FP.l2d (own_b q1 (6 : Int32)))), .second, .unset, .unset] [])) _
      refine XS.lloadN X129.here hx rfl (hb hby at_82) rfl ?_
      show Steps p.tables e below (T129.setTop (mkF m 83 #[.val (.long q1), .second, .val (.long q2), .second, .val (.long q3), .second, .val (.int p1), .val (.int (Int32.ofNat f)), .val (.int (Int32.ofNat t)), .val (.ref b_101), .val (.ref b_103), .val (.ref b_106), .val (.ref b_111), .val (.ref b_118), .val (.double (FP.l2d (own_b q1 (4 : Int32)))), .second, .val (.double (FP.l2d (own_b q1 (5 : Int32)))), .second, .val (.double (FP.l2d (own_b q1 (6 : Int32)))), .second, .unset, .unset] [(.long q1)])) _
      refine XS.bipush X129.here hx rfl (hb hby at_83) ?_
      show Steps p.tables e below (T129.setTop (mkF m 85 #[.val (.long q1), .second, .val (.long q2), .second, .val (.long q3), .second, .val (.int p1), .val (.int (Int32.ofNat f)), .val (.int (Int32.ofNat t)), .val (.ref b_101), .val (.ref b_103), .val (.ref b_106), .val (.ref b_111), .val (.ref b_118), .val (.double (FP.l2d (own_b q1 (4 : Int32)))), .second, .val (.double (FP.l2d (own_b q1 (5 : Int32)))), .second, .val (.double (FP.l2d (own_b q1 (6 : Int32)))), .second, .unset, .unset] [(.int (7 : Int32)), (.long q1)])) _
      refine st130 _ ?_
      show Steps p.tables e below (T130.setTop (mkF m 88 #[.val (.long q1), .second, .val (.long q2), .second, .val (.long q3), .second, .val (.int p1), .val (.int (Int32.ofNat f)), .val (.int (Int32.ofNat t)), .val (.ref b_101), .val (.ref b_103), .val (.ref b_106), .val (.ref b_111), .val (.ref b_118), .val (.double (FP.l2d (own_b q1 (4 : Int32)))), .second, .val (.double (FP.l2d (own_b q1 (5 : Int32)))), .second, .val (.double (FP.l2d (own_b q1 (6 : Int32)))), .second, .unset, .unset] [(.long (own_b q1 (7 : Int32)))])) _
      refine XS.l2dS X130.here hx rfl (hb hby at_88) rfl (v := (FP.l2d (own_b q1 (7 : Int32)))) rfl ?_
      show Steps p.tables e below (T130.setTop (mkF m 89 #[.val (.long q1), .second, .val (.long q2), .second, .val (.long q3), .second, .val (.int p1), .val (.int (Int32.ofNat f)), .val (.int (Int32.ofNat t)), .val (.ref b_101), .val (.ref b_103), .val (.ref b_106), .val (.ref b_111), .val (.ref b_118), .val (.double (FP.l2d (own_b q1 (4 : Int32)))), .second, .val (.double (FP.l2d (own_b q1 (5 : Int32)))), .second, .val (.double (FP.l2d (own_b q1 (6 : Int32)))), .second, .unset, .unset] [(.double (FP.l2d (own_b q1 (7 : Int32))))])) _
      refine XS.dstore X130.here hx rfl (hb hby at_89) rfl (l' := #[.val (.long q1), .second, .val (.long q2), .second, .val (.long q3), .second, .val (.int p1), .val (.int (Int32.ofNat f)), .val (.int (Int32.ofNat t)), .val (.ref b_101), .val (.ref b_103), .val (.ref b_106), .val (.ref b_111), .val (.ref b_118), .val (.double (FP.l2d (own_b q1 (4 : Int32)))), .second, .val (.double (FP.l2d (own_b q1 (5 : Int32)))), .second, .val (.double (FP.l2d (own_b q1 (6 : Int32)))), .second, .val (.double (FP.l2d (own_b q1 (7 : Int32)))), .second]) rfl ?_
      show Steps p.tables e below (T130.setTop (mkF m 91 #[.val (.long q1), .second, .val (.long q2), .second, .val (.long q3), .second, .val (.int p1), .val (.int (Int32.ofNat f)), .val (.int (Int32.ofNat t)), .val (.ref b_101), .val (.ref b_103), .val (.ref b_106), .val (.ref b_111), .val (.ref b_118), .val (.double (FP.l2d (own_b q1 (4 : Int32)))), .second, .val (.double (FP.l2d (own_b q1 (5 : Int32)))), .second, .val (.double (FP.l2d (own_b q1 (6 : Int32)))), .second, .val (.double (FP.l2d (own_b q1 (7 : Int32)))), .second] [])) _
      refine XS.aload X130.here hx rfl (hb hby at_91) rfl rfl ?_
      show Steps p.tables e below (T130.setTop (mkF m 93 #[.val (.long q1), .second, .val (.long q2), .second, .val (.long q3), .second, .val (.int p1), .val (.int (Int32.ofNat f)), .val (.int (Int32.ofNat t)), .val (.ref b_101), .val (.ref b_103), .val (.ref b_106), .val (.ref b_111), .val (.ref b_118), .val (.double (FP.l2d (own_b q1 (4 : Int32)))), .second, .val (.double (FP.l2d (own_b q1 (5 : Int32)))), .second, .val (.double (FP.l2d (own_b q1 (6 : Int32)))), .second, .val (.double (FP.l2d (own_b q1 (7 : Int32)))), .second] [(.ref b_101)])) _
      refine XS.dload X130.here hx rfl (hb hby at_93) rfl ?_
      show Steps p.tables e below (T130.setTop (mkF m 95 #[.val (.long q1), .second, .val (.long q2), .second, .val (.long q3), .second, .val (.int p1), .val (.int (Int32.ofNat f)), .val (.int (Int32.ofNat t)), .val (.ref b_101), .val (.ref b_103), .val (.ref b_106), .val (.ref b_111), .val (.ref b_118), .val (.double (FP.l2d (own_b q1 (4 : Int32)))), .second, .val (.double (FP.l2d (own_b q1 (5 : Int32)))), .second, .val (.double (FP.l2d (own_b q1 (6 : Int32)))), .second, .val (.double (FP.l2d (own_b q1 (7 : Int32)))), .second] [(.double (FP.l2d (own_b q1 (4 : Int32)))), (.ref b_101)])) _
      refine XS.aload X130.here hx rfl (hb hby at_95) rfl rfl ?_
      show Steps p.tables e below (T130.setTop (mkF m 97 #[.val (.long q1), .second, .val (.long q2), .second, .val (.long q3), .second, .val (.int p1), .val (.int (Int32.ofNat f)), .val (.int (Int32.ofNat t)), .val (.ref b_101), .val (.ref b_103), .val (.ref b_106), .val (.ref b_111), .val (.ref b_118), .val (.double (FP.l2d (own_b q1 (4 : Int32)))), .second, .val (.double (FP.l2d (own_b q1 (5 : Int32)))), .second, .val (.double (FP.l2d (own_b q1 (6 : Int32)))), .second, .val (.double (FP.l2d (own_b q1 (7 : Int32)))), .second] [(.ref b_103), (.double (FP.l2d (own_b q1 (4 : Int32)))), (.ref b_101)])) _
      refine XS.dload X130.here hx rfl (hb hby at_97) rfl ?_
      show Steps p.tables e below (T130.setTop (mkF m 99 #[.val (.long q1), .second, .val (.long q2), .second, .val (.long q3), .second, .val (.int p1), .val (.int (Int32.ofNat f)), .val (.int (Int32.ofNat t)), .val (.ref b_101), .val (.ref b_103), .val (.ref b_106), .val (.ref b_111), .val (.ref b_118), .val (.double (FP.l2d (own_b q1 (4 : Int32)))), .second, .val (.double (FP.l2d (own_b q1 (5 : Int32)))), .second, .val (.double (FP.l2d (own_b q1 (6 : Int32)))), .second, .val (.double (FP.l2d (own_b q1 (7 : Int32)))), .second] [(.double (FP.l2d (own_b q1 (5 : Int32)))), (.ref b_103), (.double (FP.l2d (own_b q1 (4 : Int32)))), (.ref b_101)])) _
      refine XS.aload X130.here hx rfl (hb hby at_99) rfl rfl ?_
      show Steps p.tables e below (T130.setTop (mkF m 101 #[.val (.long q1), .second, .val (.long q2), .second, .val (.long q3), .second, .val (.int p1), .val (.int (Int32.ofNat f)), .val (.int (Int32.ofNat t)), .val (.ref b_101), .val (.ref b_103), .val (.ref b_106), .val (.ref b_111), .val (.ref b_118), .val (.double (FP.l2d (own_b q1 (4 : Int32)))), .second, .val (.double (FP.l2d (own_b q1 (5 : Int32)))), .second, .val (.double (FP.l2d (own_b q1 (6 : Int32)))), .second, .val (.double (FP.l2d (own_b q1 (7 : Int32)))), .second] [(.ref b_106), (.double (FP.l2d (own_b q1 (5 : Int32)))), (.ref b_103), (.double (FP.l2d (own_b q1 (4 : Int32)))), (.ref b_101)])) _
      refine XS.dload X130.here hx rfl (hb hby at_101) rfl ?_
      show Steps p.tables e below (T130.setTop (mkF m 103 #[.val (.long q1), .second, .val (.long q2), .second, .val (.long q3), .second, .val (.int p1), .val (.int (Int32.ofNat f)), .val (.int (Int32.ofNat t)), .val (.ref b_101), .val (.ref b_103), .val (.ref b_106), .val (.ref b_111), .val (.ref b_118), .val (.double (FP.l2d (own_b q1 (4 : Int32)))), .second, .val (.double (FP.l2d (own_b q1 (5 : Int32)))), .second, .val (.double (FP.l2d (own_b q1 (6 : Int32)))), .second, .val (.double (FP.l2d (own_b q1 (7 : Int32)))), .second] [(.double (FP.l2d (own_b q1 (6 : Int32)))), (.ref b_106), (.double (FP.l2d (own_b q1 (5 : Int32)))), (.ref b_103), (.double (FP.l2d (own_b q1 (4 : Int32)))), (.ref b_101)])) _
      refine XS.aload X130.here hx rfl (hb hby at_103) rfl rfl ?_
      show Steps p.tables e below (T130.setTop (mkF m 105 #[.val (.long q1), .second, .val (.long q2), .second, .val (.long q3), .second, .val (.int p1), .val (.int (Int32.ofNat f)), .val (.int (Int32.ofNat t)), .val (.ref b_101), .val (.ref b_103), .val (.ref b_106), .val (.ref b_111), .val (.ref b_118), .val (.double (FP.l2d (own_b q1 (4 : Int32)))), .second, .val (.double (FP.l2d (own_b q1 (5 : Int32)))), .second, .val (.double (FP.l2d (own_b q1 (6 : Int32)))), .second, .val (.double (FP.l2d (own_b q1 (7 : Int32)))), .second] [(.ref b_111), (.double (FP.l2d (own_b q1 (6 : Int32)))), (.ref b_106), (.double (FP.l2d (own_b q1 (5 : Int32)))), (.ref b_103), (.double (FP.l2d (own_b q1 (4 : Int32)))), (.ref b_101)])) _
      refine XS.dload X130.here hx rfl (hb hby at_105) rfl ?_
      show Steps p.tables e below (T130.setTop (mkF m 107 #[.val (.long q1), .second, .val (.long q2), .second, .val (.long q3), .second, .val (.int p1), .val (.int (Int32.ofNat f)), .val (.int (Int32.ofNat t)), .val (.ref b_101), .val (.ref b_103), .val (.ref b_106), .val (.ref b_111), .val (.ref b_118), .val (.double (FP.l2d (own_b q1 (4 : Int32)))), .second, .val (.double (FP.l2d (own_b q1 (5 : Int32)))), .second, .val (.double (FP.l2d (own_b q1 (6 : Int32)))), .second, .val (.double (FP.l2d (own_b q1 (7 : Int32)))), .second] [(.double (FP.l2d (own_b q1 (7 : Int32)))), (.ref b_111), (.double (FP.l2d (own_b q1 (6 : Int32)))), (.ref b_106), (.double (FP.l2d (own_b q1 (5 : Int32)))), (.ref b_103), (.double (FP.l2d (own_b q1 (4 : Int32)))), (.ref b_101)])) _
      refine XS.aload X130.here hx rfl (hb hby at_107) rfl rfl ?_
      show Steps p.tables e below (T130.setTop (mkF m 109 #[.val (.long q1), .second, .val (.long q2), .second, .val (.long q3), .second, .val (.int p1), .val (.int (Int32.ofNat f)), .val (.int (Int32.ofNat t)), .val (.ref b_101), .val (.ref b_103), .val (.ref b_106), .val (.ref b_111), .val (.ref b_118), .val (.double (FP.l2d (own_b q1 (4 : Int32)))), .second, .val (.double (FP.l2d (own_b q1 (5 : Int32)))), .second, .val (.double (FP.l2d (own_b q1 (6 : Int32)))), .second, .val (.double (FP.l2d (own_b q1 (7 : Int32)))), .second] [(.ref b_118), (.double (FP.l2d (own_b q1 (7 : Int32)))), (.ref b_111), (.double (FP.l2d (own_b q1 (6 : Int32)))), (.ref b_106), (.double (FP.l2d (own_b q1 (5 : Int32)))), (.ref b_103), (.double (FP.l2d (own_b q1 (4 : Int32)))), (.ref b_101)])) _
      refine XS.iload X130.here hx rfl (hb hby at_109) rfl ?_
      show Steps p.tables e below (T130.setTop (mkF m 111 #[.val (.long q1), .second, .val (.long q2), .second, .val (.long q3), .second, .val (.int p1), .val (.int (Int32.ofNat f)), .val (.int (Int32.ofNat t)), .val (.ref b_101), .val (.ref b_103), .val (.ref b_106), .val (.ref b_111), .val (.ref b_118), .val (.double (FP.l2d (own_b q1 (4 : Int32)))), .second, .val (.double (FP.l2d (own_b q1 (5 : Int32)))), .second, .val (.double (FP.l2d (own_b q1 (6 : Int32)))), .second, .val (.double (FP.l2d (own_b q1 (7 : Int32)))), .second] [(.int (Int32.ofNat f)), (.ref b_118), (.double (FP.l2d (own_b q1 (7 : Int32)))), (.ref b_111), (.double (FP.l2d (own_b q1 (6 : Int32)))), (.ref b_106), (.double (FP.l2d (own_b q1 (5 : Int32)))), (.ref b_103), (.double (FP.l2d (own_b q1 (4 : Int32)))), (.ref b_101)])) _
      refine XS.iload X130.here hx rfl (hb hby at_111) rfl ?_
      show Steps p.tables e below (T130.setTop (mkF m 113 #[.val (.long q1), .second, .val (.long q2), .second, .val (.long q3), .second, .val (.int p1), .val (.int (Int32.ofNat f)), .val (.int (Int32.ofNat t)), .val (.ref b_101), .val (.ref b_103), .val (.ref b_106), .val (.ref b_111), .val (.ref b_118), .val (.double (FP.l2d (own_b q1 (4 : Int32)))), .second, .val (.double (FP.l2d (own_b q1 (5 : Int32)))), .second, .val (.double (FP.l2d (own_b q1 (6 : Int32)))), .second, .val (.double (FP.l2d (own_b q1 (7 : Int32)))), .second] [(.int (Int32.ofNat t)), (.int (Int32.ofNat f)), (.ref b_118), (.double (FP.l2d (own_b q1 (7 : Int32)))), (.ref b_111), (.double (FP.l2d (own_b q1 (6 : Int32)))), (.ref b_106), (.double (FP.l2d (own_b q1 (5 : Int32)))), (.ref b_103), (.double (FP.l2d (own_b q1 (4 : Int32)))), (.ref b_101)])) _
      refine st135 _ ?_
      show Steps p.tables e below (T135.setTop (mkF m 116 #[.val (.long q1), .second, .val (.long q2), .second, .val (.long q3), .second, .val (.int p1), .val (.int (Int32.ofNat f)), .val (.int (Int32.ofNat t)), .val (.ref b_101), .val (.ref b_103), .val (.ref b_106), .val (.ref b_111), .val (.ref b_118), .val (.double (FP.l2d (own_b q1 (4 : Int32)))), .second, .val (.double (FP.l2d (own_b q1 (5 : Int32)))), .second, .val (.double (FP.l2d (own_b q1 (6 : Int32)))), .second, .val (.double (FP.l2d (own_b q1 (7 : Int32)))), .second] [])) _
      refine XS.aload X135.here hx rfl (hb hby at_116) rfl rfl ?_
      show Steps p.tables e below (T135.setTop (mkF m 118 #[.val (.long q1), .second, .val (.long q2), .second, .val (.long q3), .second, .val (.int p1), .val (.int (Int32.ofNat f)), .val (.int (Int32.ofNat t)), .val (.ref b_101), .val (.ref b_103), .val (.ref b_106), .val (.ref b_111), .val (.ref b_118), .val (.double (FP.l2d (own_b q1 (4 : Int32)))), .second, .val (.double (FP.l2d (own_b q1 (5 : Int32)))), .second, .val (.double (FP.l2d (own_b q1 (6 : Int32)))), .second, .val (.double (FP.l2d (own_b q1 (7 : Int32)))), .second] [(.ref b_101)])) _
      refine XS.iconst X135.here hx rfl (hb hby at_118) ?_
      show Steps p.tables e below (T135.setTop (mkF m 119 #[.val (.long q1), .second, .val (.long q2), .second, .val (.long q3), .second, .val (.int p1), .val (.int (Int32.ofNat f)), .val (.int (Int32.ofNat t)), .val (.ref b_101), .val (.ref b_103), .val (.ref b_106), .val (.ref b_111), .val (.ref b_118), .val (.double (FP.l2d (own_b q1 (4 : Int32)))), .second, .val (.double (FP.l2d (own_b q1 (5 : Int32)))), .second, .val (.double (FP.l2d (own_b q1 (6 : Int32)))), .second, .val (.double (FP.l2d (own_b q1 (7 : Int32)))), .second] [(.int (0 : Int32)), (.ref b_101)])) _
      refine XS.lloadN X135.here hx rfl (hb hby at_119) rfl ?_
      show Steps p.tables e below (T135.setTop (mkF m 120 #[.val (.long q1), .second, .val (.long q2), .second, .val (.long q3), .second, .val (.int p1), .val (.int (Int32.ofNat f)), .val (.int (Int32.ofNat t)), .val (.ref b_101), .val (.ref b_103), .val (.ref b_106), .val (.ref b_111), .val (.ref b_118), .val (.double (FP.l2d (own_b q1 (4 : Int32)))), .second, .val (.double (FP.l2d (own_b q1 (5 : Int32)))), .second, .val (.double (FP.l2d (own_b q1 (6 : Int32)))), .second, .val (.double (FP.l2d (own_b q1 (7 : Int32)))), .second] [(.long q1), (.int (0 : Int32)), (.ref b_101)])) _
      refine XS.lloadN X135.here hx rfl (hb hby at_120) rfl ?_
      show Steps p.tables e below (T135.setTop (mkF m 121 #[.val (.long q1), .second, .val (.long q2), .second, .val (.long q3), .second, .val (.int p1), .val (.int (Int32.ofNat f)), .val (.int (Int32.ofNat t)), .val (.ref b_101), .val (.ref b_103), .val (.ref b_106), .val (.ref b_111), .val (.ref b_118), .val (.double (FP.l2d (own_b q1 (4 : Int32)))), .second, .val (.double (FP.l2d (own_b q1 (5 : Int32)))), .second, .val (.double (FP.l2d (own_b q1 (6 : Int32)))), .second, .val (.double (FP.l2d (own_b q1 (7 : Int32)))), .second] [(.long q2), (.long q1), (.int (0 : Int32)), (.ref b_101)])) _
      refine XS.lload X135.here hx rfl (hb hby at_121) rfl ?_
      show Steps p.tables e below (T135.setTop (mkF m 123 #[.val (.long q1), .second, .val (.long q2), .second, .val (.long q3), .second, .val (.int p1), .val (.int (Int32.ofNat f)), .val (.int (Int32.ofNat t)), .val (.ref b_101), .val (.ref b_103), .val (.ref b_106), .val (.ref b_111), .val (.ref b_118), .val (.double (FP.l2d (own_b q1 (4 : Int32)))), .second, .val (.double (FP.l2d (own_b q1 (5 : Int32)))), .second, .val (.double (FP.l2d (own_b q1 (6 : Int32)))), .second, .val (.double (FP.l2d (own_b q1 (7 : Int32)))), .second] [(.long q3), (.long q2), (.long q1), (.int (0 : Int32)), (.ref b_101)])) _
      refine XS.iload X135.here hx rfl (hb hby at_123) rfl ?_
      show Steps p.tables e below (T135.setTop (mkF m 125 #[.val (.long q1), .second, .val (.long q2), .second, .val (.long q3), .second, .val (.int p1), .val (.int (Int32.ofNat f)), .val (.int (Int32.ofNat t)), .val (.ref b_101), .val (.ref b_103), .val (.ref b_106), .val (.ref b_111), .val (.ref b_118), .val (.double (FP.l2d (own_b q1 (4 : Int32)))), .second, .val (.double (FP.l2d (own_b q1 (5 : Int32)))), .second, .val (.double (FP.l2d (own_b q1 (6 : Int32)))), .second, .val (.double (FP.l2d (own_b q1 (7 : Int32)))), .second] [(.int (Int32.ofNat f)), (.long q3), (.long q2), (.long q1), (.int (0 : Int32)), (.ref b_101)])) _
      refine XS.iload X135.here hx rfl (hb hby at_125) rfl ?_
      show Steps p.tables e below (T135.setTop (mkF m 127 #[.val (.long q1), .second, .val (.long q2), .second, .val (.long q3), .second, .val (.int p1), .val (.int (Int32.ofNat f)), .val (.int (Int32.ofNat t)), .val (.ref b_101), .val (.ref b_103), .val (.ref b_106), .val (.ref b_111), .val (.ref b_118), .val (.double (FP.l2d (own_b q1 (4 : Int32)))), .second, .val (.double (FP.l2d (own_b q1 (5 : Int32)))), .second, .val (.double (FP.l2d (own_b q1 (6 : Int32)))), .second, .val (.double (FP.l2d (own_b q1 (7 : Int32)))), .second] [(.int (Int32.ofNat t)), (.int (Int32.ofNat f)), (.long q3), (.long q2), (.long q1), (.int (0 : Int32)), (.ref b_101)])) _
      refine st137 _ ?_
      show Steps p.tables e below (T137.setTop (mkF m 130 #[.val (.long q1), .second, .val (.long q2), .second, .val (.long q3), .second, .val (.int p1), .val (.int (Int32.ofNat f)), .val (.int (Int32.ofNat t)), .val (.ref b_101), .val (.ref b_103), .val (.ref b_106), .val (.ref b_111), .val (.ref b_118), .val (.double (FP.l2d (own_b q1 (4 : Int32)))), .second, .val (.double (FP.l2d (own_b q1 (5 : Int32)))), .second, .val (.double (FP.l2d (own_b q1 (6 : Int32)))), .second, .val (.double (FP.l2d (own_b q1 (7 : Int32)))), .second] [(.int (1 : Int32))])) _
      refine XS.ifNo X137.here hx rfl (hb hby at_130) rfl ((if0 _ _).trans (feq ((by decide) : ¬ ((1 : Int32) = (0 : Int32)))).1) ?_
      show Steps p.tables e below (T137.setTop (mkF m 133 #[.val (.long q1), .second, .val (.long q2), .second, .val (.long q3), .second, .val (.int p1), .val (.int (Int32.ofNat f)), .val (.int (Int32.ofNat t)), .val (.ref b_101), .val (.ref b_103), .val (.ref b_106), .val (.ref b_111), .val (.ref b_118), .val (.double (FP.l2d (own_b q1 (4 : Int32)))), .second, .val (.double (FP.l2d (own_b q1 (5 : Int32)))), .second, .val (.double (FP.l2d (own_b q1 (6 : Int32)))), .second, .val (.double (FP.l2d (own_b q1 (7 : Int32)))), .second] [])) _
      refine XS.aload X137.here hx rfl (hb hby at_133) rfl rfl ?_
      show Steps p.tables e below (T137.setTop (mkF m 135 #[.val (.long q1), .second, .val (.long q2), .second, .val (.long q3), .second, .val (.int p1), .val (.int (Int32.ofNat f)), .val (.int (Int32.ofNat t)), .val (.ref b_101), .val (.ref b_103), .val (.ref b_106), .val (.ref b_111), .val (.ref b_118), .val (.double (FP.l2d (own_b q1 (4 : Int32)))), .second, .val (.double (FP.l2d (own_b q1 (5 : Int32)))), .second, .val (.double (FP.l2d (own_b q1 (6 : Int32)))), .second, .val (.double (FP.l2d (own_b q1 (7 : Int32)))), .second] [(.ref b_101)])) _
      refine XS.iconst X137.here hx rfl (hb hby at_135) ?_
      show Steps p.tables e below (T137.setTop (mkF m 136 #[.val (.long q1), .second, .val (.long q2), .second, .val (.long q3), .second, .val (.int p1), .val (.int (Int32.ofNat f)), .val (.int (Int32.ofNat t)), .val (.ref b_101), .val (.ref b_103), .val (.ref b_106), .val (.ref b_111), .val (.ref b_118), .val (.double (FP.l2d (own_b q1 (4 : Int32)))), .second, .val (.double (FP.l2d (own_b q1 (5 : Int32)))), .second, .val (.double (FP.l2d (own_b q1 (6 : Int32)))), .second, .val (.double (FP.l2d (own_b q1 (7 : Int32)))), .second] [(.int (1 : Int32)), (.ref b_101)])) _
      refine XS.lloadN X137.here hx rfl (hb hby at_136) rfl ?_
      show Steps p.tables e below (T137.setTop (mkF m 137 #[.val (.long q1), .second, .val (.long q2), .second, .val (.long q3), .second, .val (.int p1), .val (.int (Int32.ofNat f)), .val (.int (Int32.ofNat t)), .val (.ref b_101), .val (.ref b_103), .val (.ref b_106), .val (.ref b_111), .val (.ref b_118), .val (.double (FP.l2d (own_b q1 (4 : Int32)))), .second, .val (.double (FP.l2d (own_b q1 (5 : Int32)))), .second, .val (.double (FP.l2d (own_b q1 (6 : Int32)))), .second, .val (.double (FP.l2d (own_b q1 (7 : Int32)))), .second] [(.long q1), (.int (1 : Int32)), (.ref b_101)])) _
      refine XS.lloadN X137.here hx rfl (hb hby at_137) rfl ?_
      show Steps p.tables e below (T137.setTop (mkF m 138 #[.val (.long q1), .second, .val (.long q2), .second, .val (.long q3), .second, .val (.int p1), .val (.int (Int32.ofNat f)), .val (.int (Int32.ofNat t)), .val (.ref b_101), .val (.ref b_103), .val (.ref b_106), .val (.ref b_111), .val (.ref b_118), .val (.double (FP.l2d (own_b q1 (4 : Int32)))), .second, .val (.double (FP.l2d (own_b q1 (5 : Int32)))), .second, .val (.double (FP.l2d (own_b q1 (6 : Int32)))), .second, .val (.double (FP.l2d (own_b q1 (7 : Int32)))), .second] [(.long q2), (.long q1), (.int (1 : Int32)), (.ref b_101)])) _
      refine XS.lload X137.here hx rfl (hb hby at_138) rfl ?_
      show Steps p.tables e below (T137.setTop (mkF m 140 #[.val (.long q1), .second, .val (.long q2), .second, .val (.long q3), .second, .val (.int p1), .val (.int (Int32.ofNat f)), .val (.int (Int32.ofNat t)), .val (.ref b_101), .val (.ref b_103), .val (.ref b_106), .val (.ref b_111), .val (.ref b_118), .val (.double (FP.l2d (own_b q1 (4 : Int32)))), .second, .val (.double (FP.l2d (own_b q1 (5 : Int32)))), .second, .val (.double (FP.l2d (own_b q1 (6 : Int32)))), .second, .val (.double (FP.l2d (own_b q1 (7 : Int32)))), .second] [(.long q3), (.long q2), (.long q1), (.int (1 : Int32)), (.ref b_101)])) _
      refine XS.iload X137.here hx rfl (hb hby at_140) rfl ?_
      show Steps p.tables e below (T137.setTop (mkF m 142 #[.val (.long q1), .second, .val (.long q2), .second, .val (.long q3), .second, .val (.int p1), .val (.int (Int32.ofNat f)), .val (.int (Int32.ofNat t)), .val (.ref b_101), .val (.ref b_103), .val (.ref b_106), .val (.ref b_111), .val (.ref b_118), .val (.double (FP.l2d (own_b q1 (4 : Int32)))), .second, .val (.double (FP.l2d (own_b q1 (5 : Int32)))), .second, .val (.double (FP.l2d (own_b q1 (6 : Int32)))), .second, .val (.double (FP.l2d (own_b q1 (7 : Int32)))), .second] [(.int (Int32.ofNat f)), (.long q3), (.long q2), (.long q1), (.int (1 : Int32)), (.ref b_101)])) _
      refine XS.iload X137.here hx rfl (hb hby at_142) rfl ?_
      show Steps p.tables e below (T137.setTop (mkF m 144 #[.val (.long q1), .second, .val (.long q2), .second, .val (.long q3), .second, .val (.int p1), .val (.int (Int32.ofNat f)), .val (.int (Int32.ofNat t)), .val (.ref b_101), .val (.ref b_103), .val (.ref b_106), .val (.ref b_111), .val (.ref b_118), .val (.double (FP.l2d (own_b q1 (4 : Int32)))), .second, .val (.double (FP.l2d (own_b q1 (5 : Int32)))), .second, .val (.double (FP.l2d (own_b q1 (6 : Int32)))), .second, .val (.double (FP.l2d (own_b q1 (7 : Int32)))), .second] [(.int (Int32.ofNat t)), (.int (Int32.ofNat f)), (.long q3), (.long q2), (.long q1), (.int (1 : Int32)), (.ref b_101)])) _
      refine st138 _ ?_
      show Steps p.tables e below (T138.setTop (mkF m 147 #[.val (.long q1), .second, .val (.long q2), .second, .val (.long q3), .second, .val (.int p1), .val (.int (Int32.ofNat f)), .val (.int (Int32.ofNat t)), .val (.ref b_101), .val (.ref b_103), .val (.ref b_106), .val (.ref b_111), .val (.ref b_118), .val (.double (FP.l2d (own_b q1 (4 : Int32)))), .second, .val (.double (FP.l2d (own_b q1 (5 : Int32)))), .second, .val (.double (FP.l2d (own_b q1 (6 : Int32)))), .second, .val (.double (FP.l2d (own_b q1 (7 : Int32)))), .second] [(.int (1 : Int32))])) _
      refine XS.ifNo X138.here hx rfl (hb hby at_147) rfl ((if0 _ _).trans (feq ((by decide) : ¬ ((1 : Int32) = (0 : Int32)))).1) ?_
      show Steps p.tables e below (T138.setTop (mkF m 150 #[.val (.long q1), .second, .val (.long q2), .second, .val (.long q3), .second, .val (.int p1), .val (.int (Int32.ofNat f)), .val (.int (Int32.ofNat t)), .val (.ref b_101), .val (.ref b_103), .val (.ref b_106), .val (.ref b_111), .val (.ref b_118), .val (.double (FP.l2d (own_b q1 (4 : Int32)))), .second, .val (.double (FP.l2d (own_b q1 (5 : Int32)))), .second, .val (.double (FP.l2d (own_b q1 (6 : Int32)))), .second, .val (.double (FP.l2d (own_b q1 (7 : Int32)))), .second] [])) _
      refine XS.aload X138.here hx rfl (hb hby at_150) rfl rfl ?_
      show Steps p.tables e below (T138.setTop (mkF m 152 #[.val (.long q1), .second, .val (.long q2), .second, .val (.long q3), .second, .val (.int p1), .val (.int (Int32.ofNat f)), .val (.int (Int32.ofNat t)), .val (.ref b_101), .val (.ref b_103), .val (.ref b_106), .val (.ref b_111), .val (.ref b_118), .val (.double (FP.l2d (own_b q1 (4 : Int32)))), .second, .val (.double (FP.l2d (own_b q1 (5 : Int32)))), .second, .val (.double (FP.l2d (own_b q1 (6 : Int32)))), .second, .val (.double (FP.l2d (own_b q1 (7 : Int32)))), .second] [(.ref b_101)])) _
      refine XS.iconst X138.here hx rfl (hb hby at_152) ?_
      show Steps p.tables e below (T138.setTop (mkF m 153 #[.val (.long q1), .second, .val (.long q2), .second, .val (.long q3), .second, .val (.int p1), .val (.int (Int32.ofNat f)), .val (.int (Int32.ofNat t)), .val (.ref b_101), .val (.ref b_103), .val (.ref b_106), .val (.ref b_111), .val (.ref b_118), .val (.double (FP.l2d (own_b q1 (4 : Int32)))), .second, .val (.double (FP.l2d (own_b q1 (5 : Int32)))), .second, .val (.double (FP.l2d (own_b q1 (6 : Int32)))), .second, .val (.double (FP.l2d (own_b q1 (7 : Int32)))), .second] [(.int (2 : Int32)), (.ref b_101)])) _
      refine XS.lloadN X138.here hx rfl (hb hby at_153) rfl ?_
      show Steps p.tables e below (T138.setTop (mkF m 154 #[.val (.long q1), .second, .val (.long q2), .second, .val (.long q3), .second, .val (.int p1), .val (.int (Int32.ofNat f)), .val (.int (Int32.ofNat t)), .val (.ref b_101), .val (.ref b_103), .val (.ref b_106), .val (.ref b_111), .val (.ref b_118), .val (.double (FP.l2d (own_b q1 (4 : Int32)))), .second, .val (.double (FP.l2d (own_b q1 (5 : Int32)))), .second, .val (.double (FP.l2d (own_b q1 (6 : Int32)))), .second, .val (.double (FP.l2d (own_b q1 (7 : Int32)))), .second] [(.long q1), (.int (2 : Int32)), (.ref b_101)])) _
      refine XS.lloadN X138.here hx rfl (hb hby at_154) rfl ?_
      show Steps p.tables e below (T138.setTop (mkF m 155 #[.val (.long q1), .second, .val (.long q2), .second, .val (.long q3), .second, .val (.int p1), .val (.int (Int32.ofNat f)), .val (.int (Int32.ofNat t)), .val (.ref b_101), .val (.ref b_103), .val (.ref b_106), .val (.ref b_111), .val (.ref b_118), .val (.double (FP.l2d (own_b q1 (4 : Int32)))), .second, .val (.double (FP.l2d (own_b q1 (5 : Int32)))), .second, .val (.double (FP.l2d (own_b q1 (6 : Int32)))), .second, .val (.double (FP.l2d (own_b q1 (7 : Int32)))), .second] [(.long q2), (.long q1), (.int (2 : Int32)), (.ref b_101)])) _
      refine XS.lload X138.here hx rfl (hb hby at_155) rfl ?_
      show Steps p.tables e below (T138.setTop (mkF m 157 #[.val (.long q1), .second, .val (.long q2), .second, .val (.long q3), .second, .val (.int p1), .val (.int (Int32.ofNat f)), .val (.int (Int32.ofNat t)), .val (.ref b_101), .val (.ref b_103), .val (.ref b_106), .val (.ref b_111), .val (.ref b_118), .val (.double (FP.l2d (own_b q1 (4 : Int32)))), .second, .val (.double (FP.l2d (own_b q1 (5 : Int32)))), .second, .val (.double (FP.l2d (own_b q1 (6 : Int32)))), .second, .val (.double (FP.l2d (own_b q1 (7 : Int32)))), .second] [(.long q3), (.long q2), (.long q1), (.int (2 : Int32)), (.ref b_101)])) _
      refine XS.iload X138.here hx rfl (hb hby at_157) rfl ?_
      show Steps p.tables e below (T138.setTop (mkF m 159 #[.val (.long q1), .second, .val (.long q2), .second, .val (.long q3), .second, .val (.int p1), .val (.int (Int32.ofNat f)), .val (.int (Int32.ofNat t)), .val (.ref b_101), .val (.ref b_103), .val (.ref b_106), .val (.ref b_111), .val (.ref b_118), .val (.double (FP.l2d (own_b q1 (4 : Int32)))), .second, .val (.double (FP.l2d (own_b q1 (5 : Int32)))), .second, .val (.double (FP.l2d (own_b q1 (6 : Int32)))), .second, .val (.double (FP.l2d (own_b q1 (7 : Int32)))), .second] [(.int (Int32.ofNat f)), (.long q3), (.long q2), (.long q1), (.int (2 : Int32)), (.ref b_101)])) _
      refine XS.iload X138.here hx rfl (hb hby at_159) rfl ?_
      show Steps p.tables e below (T138.setTop (mkF m 161 #[.val (.long q1), .second, .val (.long q2), .second, .val (.long q3), .second, .val (.int p1), .val (.int (Int32.ofNat f)), .val (.int (Int32.ofNat t)), .val (.ref b_101), .val (.ref b_103), .val (.ref b_106), .val (.ref b_111), .val (.ref b_118), .val (.double (FP.l2d (own_b q1 (4 : Int32)))), .second, .val (.double (FP.l2d (own_b q1 (5 : Int32)))), .second, .val (.double (FP.l2d (own_b q1 (6 : Int32)))), .second, .val (.double (FP.l2d (own_b q1 (7 : Int32)))), .second] [(.int (Int32.ofNat t)), (.int (Int32.ofNat f)), (.long q3), (.long q2), (.long q1), (.int (2 : Int32)), (.ref b_101)])) _
      refine st139 _ ?_
      show Steps p.tables e below (T139.setTop (mkF m 164 #[.val (.long q1), .second, .val (.long q2), .second, .val (.long q3), .second, .val (.int p1), .val (.int (Int32.ofNat f)), .val (.int (Int32.ofNat t)), .val (.ref b_101), .val (.ref b_103), .val (.ref b_106), .val (.ref b_111), .val (.ref b_118), .val (.double (FP.l2d (own_b q1 (4 : Int32)))), .second, .val (.double (FP.l2d (own_b q1 (5 : Int32)))), .second, .val (.double (FP.l2d (own_b q1 (6 : Int32)))), .second, .val (.double (FP.l2d (own_b q1 (7 : Int32)))), .second] [(.int (1 : Int32))])) _
      refine XS.ifNo X139.here hx rfl (hb hby at_164) rfl ((if0 _ _).trans (feq ((by decide) : ¬ ((1 : Int32) = (0 : Int32)))).1) ?_
      show Steps p.tables e below (T139.setTop (mkF m 167 #[.val (.long q1), .second, .val (.long q2), .second, .val (.long q3), .second, .val (.int p1), .val (.int (Int32.ofNat f)), .val (.int (Int32.ofNat t)), .val (.ref b_101), .val (.ref b_103), .val (.ref b_106), .val (.ref b_111), .val (.ref b_118), .val (.double (FP.l2d (own_b q1 (4 : Int32)))), .second, .val (.double (FP.l2d (own_b q1 (5 : Int32)))), .second, .val (.double (FP.l2d (own_b q1 (6 : Int32)))), .second, .val (.double (FP.l2d (own_b q1 (7 : Int32)))), .second] [])) _
      refine XS.aload X139.here hx rfl (hb hby at_167) rfl rfl ?_
      show Steps p.tables e below (T139.setTop (mkF m 169 #[.val (.long q1), .second, .val (.long q2), .second, .val (.long q3), .second, .val (.int p1), .val (.int (Int32.ofNat f)), .val (.int (Int32.ofNat t)), .val (.ref b_101), .val (.ref b_103), .val (.ref b_106), .val (.ref b_111), .val (.ref b_118), .val (.double (FP.l2d (own_b q1 (4 : Int32)))), .second, .val (.double (FP.l2d (own_b q1 (5 : Int32)))), .second, .val (.double (FP.l2d (own_b q1 (6 : Int32)))), .second, .val (.double (FP.l2d (own_b q1 (7 : Int32)))), .second] [(.ref b_101)])) _
      refine XS.iconst X139.here hx rfl (hb hby at_169) ?_
      show Steps p.tables e below (T139.setTop (mkF m 170 #[.val (.long q1), .second, .val (.long q2), .second, .val (.long q3), .second, .val (.int p1), .val (.int (Int32.ofNat f)), .val (.int (Int32.ofNat t)), .val (.ref b_101), .val (.ref b_103), .val (.ref b_106), .val (.ref b_111), .val (.ref b_118), .val (.double (FP.l2d (own_b q1 (4 : Int32)))), .second, .val (.double (FP.l2d (own_b q1 (5 : Int32)))), .second, .val (.double (FP.l2d (own_b q1 (6 : Int32)))), .second, .val (.double (FP.l2d (own_b q1 (7 : Int32)))), .second] [(.int (3 : Int32)), (.ref b_101)])) _
      refine XS.lloadN X139.here hx rfl (hb hby at_170) rfl ?_
      show Steps p.tables e below (T139.setTop (mkF m 171 #[.val (.long q1), .second, .val (.long q2), .second, .val (.long q3), .second, .val (.int p1), .val (.int (Int32.ofNat f)), .val (.int (Int32.ofNat t)), .val (.ref b_101), .val (.ref b_103), .val (.ref b_106), .val (.ref b_111), .val (.ref b_118), .val (.double (FP.l2d (own_b q1 (4 : Int32)))), .second, .val (.double (FP.l2d (own_b q1 (5 : Int32)))), .second, .val (.double (FP.l2d (own_b q1 (6 : Int32)))), .second, .val (.double (FP.l2d (own_b q1 (7 : Int32)))), .second] [(.long q1), (.int (3 : Int32)), (.ref b_101)])) _
      refine XS.lloadN X139.here hx rfl (hb hby at_171) rfl ?_
      show Steps p.tables e below (T139.setTop (mkF m 172 #[.val (.long q1), .second, .val (.long q2), .second, .val (.long q3), .second, .val (.int p1), .val (.int (Int32.ofNat f)), .val (.int (Int32.ofNat t)), .val (.ref b_101), .val (.ref b_103), .val (.ref b_106), .val (.ref b_111), .val (.ref b_118), .val (.double (FP.l2d (own_b q1 (4 : Int32)))), .second, .val (.double (FP.l2d (own_b q1 (5 : Int32)))), .second, .val (.double (FP.l2d (own_b q1 (6 : Int32)))), .second, .val (.double (FP.l2d (own_b q1 (7 : Int32)))), .second] [(.long q2), (.long q1), (.int (3 : Int32)), (.ref b_101)])) _
      refine XS.lload X139.here hx rfl (hb hby at_172) rfl ?_
      show Steps p.tables e below (T139.setTop (mkF m 174 #[.val (.long q1), .second, .val (.long q2), .second, .val (.long q3), .second, .val (.int p1), .val (.int (Int32.ofNat f)), .val (.int (Int32.ofNat t)), .val (.ref b_101), .val (.ref b_103), .val (.ref b_106), .val (.ref b_111), .val (.ref b_118), .val (.double (FP.l2d (own_b q1 (4 : Int32)))), .second, .val (.double (FP.l2d (own_b q1 (5 : Int32)))), .second, .val (.double (FP.l2d (own_b q1 (6 : Int32)))), .second, .val (.double (FP.l2d (own_b q1 (7 : Int32)))), .second] [(.long q3), (.long q2), (.long q1), (.int (3 : Int32)), (.ref b_101)])) _
      refine XS.iload X139.here hx rfl (hb hby at_174) rfl ?_
      show Steps p.tables e below (T139.setTop (mkF m 176 #[.val (.long q1), .second, .val (.long q2), .second, .val (.long q3), .second, .val (.int p1), .val (.int (Int32.ofNat f)), .val (.int (Int32.ofNat t)), .val (.ref b_101), .val (.ref b_103), .val (.ref b_106), .val (.ref b_111), .val (.ref b_118), .val (.double (FP.l2d (own_b q1 (4 : Int32)))), .second, .val (.double (FP.l2d (own_b q1 (5 : Int32)))), .second, .val (.double (FP.l2d (own_b q1 (6 : Int32)))), .second, .val (.double (FP.l2d (own_b q1 (7 : Int32)))), .second] [(.int (Int32.ofNat f)), (.long q3), (.long q2), (.long q1), (.int (3 : Int32)), (.ref b_101)])) _
      refine XS.iload X139.here hx rfl (hb hby at_176) rfl ?_
      show Steps p.tables e below (T139.setTop (mkF m 178 #[.val (.long q1), .second, .val (.long q2), .second, .val (.long q3), .second, .val (.int p1), .val (.int (Int32.ofNat f)), .val (.int (Int32.ofNat t)), .val (.ref b_101), .val (.ref b_103), .val (.ref b_106), .val (.ref b_111), .val (.ref b_118), .val (.double (FP.l2d (own_b q1 (4 : Int32)))), .second, .val (.double (FP.l2d (own_b q1 (5 : Int32)))), .second, .val (.double (FP.l2d (own_b q1 (6 : Int32)))), .second, .val (.double (FP.l2d (own_b q1 (7 : Int32)))), .second] [(.int (Int32.ofNat t)), (.int (Int32.ofNat f)), (.long q3), (.long q2), (.long q1), (.int (3 : Int32)), (.ref b_101)])) _
      refine st140 _ ?_
      show Steps p.tables e below (T140.setTop (mkF m 181 #[.val (.long q1), .second, .val (.long q2), .second, .val (.long q3), .second, .val (.int p1), .val (.int (Int32.ofNat f)), .val (.int (Int32.ofNat t)), .val (.ref b_101), .val (.ref b_103), .val (.ref b_106), .val (.ref b_111), .val (.ref b_118), .val (.double (FP.l2d (own_b q1 (4 : Int32)))), .second, .val (.double (FP.l2d (own_b q1 (5 : Int32)))), .second, .val (.double (FP.l2d (own_b q1 (6 : Int32)))), .second, .val (.double (FP.l2d (own_b q1 (7 : Int32)))), .second] [(.int (1 : Int32))])) _
      refine XS.ifNo X140.here hx rfl (hb hby at_181) rfl ((if0 _ _).trans (feq ((by decide) : ¬ ((1 : Int32) = (0 : Int32)))).1) ?_
      show Steps p.tables e below (T140.setTop (mkF m 184 #[.val (.long q1), .second, .val (.long q2), .second, .val (.long q3), .second, .val (.int p1), .val (.int (Int32.ofNat f)), .val (.int (Int32.ofNat t)), .val (.ref b_101), .val (.ref b_103), .val (.ref b_106), .val (.ref b_111), .val (.ref b_118), .val (.double (FP.l2d (own_b q1 (4 : Int32)))), .second, .val (.double (FP.l2d (own_b q1 (5 : Int32)))), .second, .val (.double (FP.l2d (own_b q1 (6 : Int32)))), .second, .val (.double (FP.l2d (own_b q1 (7 : Int32)))), .second] [])) _
      refine XS.aload X140.here hx rfl (hb hby at_184) rfl rfl ?_
      show Steps p.tables e below (T140.setTop (mkF m 186 #[.val (.long q1), .second, .val (.long q2), .second, .val (.long q3), .second, .val (.int p1), .val (.int (Int32.ofNat f)), .val (.int (Int32.ofNat t)), .val (.ref b_101), .val (.ref b_103), .val (.ref b_106), .val (.ref b_111), .val (.ref b_118), .val (.double (FP.l2d (own_b q1 (4 : Int32)))), .second, .val (.double (FP.l2d (own_b q1 (5 : Int32)))), .second, .val (.double (FP.l2d (own_b q1 (6 : Int32)))), .second, .val (.double (FP.l2d (own_b q1 (7 : Int32)))), .second] [(.ref b_103)])) _
      refine XS.lloadN X140.here hx rfl (hb hby at_186) rfl ?_
      show Steps p.tables e below (T140.setTop (mkF m 187 #[.val (.long q1), .second, .val (.long q2), .second, .val (.long q3), .second, .val (.int p1), .val (.int (Int32.ofNat f)), .val (.int (Int32.ofNat t)), .val (.ref b_101), .val (.ref b_103), .val (.ref b_106), .val (.ref b_111), .val (.ref b_118), .val (.double (FP.l2d (own_b q1 (4 : Int32)))), .second, .val (.double (FP.l2d (own_b q1 (5 : Int32)))), .second, .val (.double (FP.l2d (own_b q1 (6 : Int32)))), .second, .val (.double (FP.l2d (own_b q1 (7 : Int32)))), .second] [(.long q2), (.ref b_103)])) _
      refine XS.iconst X140.here hx rfl (hb hby at_187) ?_
      show Steps p.tables e below (T140.setTop (mkF m 188 #[.val (.long q1), .second, .val (.long q2), .second, .val (.long q3), .second, .val (.int p1), .val (.int (Int32.ofNat f)), .val (.int (Int32.ofNat t)), .val (.ref b_101), .val (.ref b_103), .val (.ref b_106), .val (.ref b_111), .val (.ref b_118), .val (.double (FP.l2d (own_b q1 (4 : Int32)))), .second, .val (.double (FP.l2d (own_b q1 (5 : Int32)))), .second, .val (.double (FP.l2d (own_b q1 (6 : Int32)))), .second, .val (.double (FP.l2d (own_b q1 (7 : Int32)))), .second] [(.int (0 : Int32)), (.long q2), (.ref b_103)])) _
      refine st142 _ ?_
      show Steps p.tables e below (T142.setTop (mkF m 191 #[.val (.long q1), .second, .val (.long q2), .second, .val (.long q3), .second, .val (.int p1), .val (.int (Int32.ofNat f)), .val (.int (Int32.ofNat t)), .val (.ref b_101), .val (.ref b_103), .val (.ref b_106), .val (.ref b_111), .val (.ref b_118), .val (.double (FP.l2d (own_b q1 (4 : Int32)))), .second, .val (.double (FP.l2d (own_b q1 (5 : Int32)))), .second, .val (.double (FP.l2d (own_b q1 (6 : Int32)))), .second, .val (.double (FP.l2d (own_b q1 (7 : Int32)))), .second] [(.int (1 : Int32))])) _
      refine XS.ifNo X142.here hx rfl (hb hby at_191) rfl ((if0 _ _).trans (feq ((by decide) : ¬ ((1 : Int32) = (0 : Int32)))).1) ?_
      show Steps p.tables e below (T142.setTop (mkF m 194 #[.val (.long q1), .second, .val (.long q2), .second, .val (.long q3), .second, .val (.int p1), .val (.int (Int32.ofNat f)), .val (.int (Int32.ofNat t)), .val (.ref b_101), .val (.ref b_103), .val (.ref b_106), .val (.ref b_111), .val (.ref b_118), .val (.double (FP.l2d (own_b q1 (4 : Int32)))), .second, .val (.double (FP.l2d (own_b q1 (5 : Int32)))), .second, .val (.double (FP.l2d (own_b q1 (6 : Int32)))), .second, .val (.double (FP.l2d (own_b q1 (7 : Int32)))), .second] [])) _
      refine XS.aload X142.here hx rfl (hb hby at_194) rfl rfl ?_
      show Steps p.tables e below (T142.setTop (mkF m 196 #[.val (.long q1), .second, .val (.long q2), .second, .val (.long q3), .second, .val (.int p1), .val (.int (Int32.ofNat f)), .val (.int (Int32.ofNat t)), .val (.ref b_101), .val (.ref b_103), .val (.ref b_106), .val (.ref b_111), .val (.ref b_118), .val (.double (FP.l2d (own_b q1 (4 : Int32)))), .second, .val (.double (FP.l2d (own_b q1 (5 : Int32)))), .second, .val (.double (FP.l2d (own_b q1 (6 : Int32)))), .second, .val (.double (FP.l2d (own_b q1 (7 : Int32)))), .second] [(.ref b_106)])) _
      refine XS.lloadN X142.here hx rfl (hb hby at_196) rfl ?_
      show Steps p.tables e below (T142.setTop (mkF m 197 #[.val (.long q1), .second, .val (.long q2), .second, .val (.long q3), .second, .val (.int p1), .val (.int (Int32.ofNat f)), .val (.int (Int32.ofNat t)), .val (.ref b_101), .val (.ref b_103), .val (.ref b_106), .val (.ref b_111), .val (.ref b_118), .val (.double (FP.l2d (own_b q1 (4 : Int32)))), .second, .val (.double (FP.l2d (own_b q1 (5 : Int32)))), .second, .val (.double (FP.l2d (own_b q1 (6 : Int32)))), .second, .val (.double (FP.l2d (own_b q1 (7 : Int32)))), .second] [(.long q2), (.ref b_106)])) _
      refine XS.iconst X142.here hx rfl (hb hby at_197) ?_
      show Steps p.tables e below (T142.setTop (mkF m 198 #[.val (.long q1), .second, .val (.long q2), .second, .val (.long q3), .second, .val (.int p1), .val (.int (Int32.ofNat f)), .val (.int (Int32.ofNat t)), .val (.ref b_101), .val (.ref b_103), .val (.ref b_106), .val (.ref b_111), .val (.ref b_118), .val (.double (FP.l2d (own_b q1 (4 : Int32)))), .second, .val (.double (FP.l2d (own_b q1 (5 : Int32)))), .second, .val (.double (FP.l2d (own_b q1 (6 : Int32)))), .second, .val (.double (FP.l2d (own_b q1 (7 : Int32)))), .second] [(.int (4 : Int32)), (.long q2), (.ref b_106)])) _
      refine st144 _ ?_
      show Steps p.tables e below (T144.setTop (mkF m 201 #[.val (.long q1), .second, .val (.long q2), .second, .val (.long q3), .second, .val (.int p1), .val (.int (Int32.ofNat f)), .val (.int (Int32.ofNat t)), .val (.ref b_101), .val (.ref b_103), .val (.ref b_106), .val (.ref b_111), .val (.ref b_118), .val (.double (FP.l2d (own_b q1 (4 : Int32)))), .second, .val (.double (FP.l2d (own_b q1 (5 : Int32)))), .second, .val (.double (FP.l2d (own_b q1 (6 : Int32)))), .second, .val (.double (FP.l2d (own_b q1 (7 : Int32)))), .second] [(.int (1 : Int32))])) _
      refine XS.ifNo X144.here hx rfl (hb hby at_201) rfl ((if0 _ _).trans (feq ((by decide) : ¬ ((1 : Int32) = (0 : Int32)))).1) ?_
      show Steps p.tables e below (T144.setTop (mkF m 204 #[.val (.long q1), .second, .val (.long q2), .second, .val (.long q3), .second, .val (.int p1), .val (.int (Int32.ofNat f)), .val (.int (Int32.ofNat t)), .val (.ref b_101), .val (.ref b_103), .val (.ref b_106), .val (.ref b_111), .val (.ref b_118), .val (.double (FP.l2d (own_b q1 (4 : Int32)))), .second, .val (.double (FP.l2d (own_b q1 (5 : Int32)))), .second, .val (.double (FP.l2d (own_b q1 (6 : Int32)))), .second, .val (.double (FP.l2d (own_b q1 (7 : Int32)))), .second] [])) _
      refine XS.aload X144.here hx rfl (hb hby at_204) rfl rfl ?_
      show Steps p.tables e below (T144.setTop (mkF m 206 #[.val (.long q1), .second, .val (.long q2), .second, .val (.long q3), .second, .val (.int p1), .val (.int (Int32.ofNat f)), .val (.int (Int32.ofNat t)), .val (.ref b_101), .val (.ref b_103), .val (.ref b_106), .val (.ref b_111), .val (.ref b_118), .val (.double (FP.l2d (own_b q1 (4 : Int32)))), .second, .val (.double (FP.l2d (own_b q1 (5 : Int32)))), .second, .val (.double (FP.l2d (own_b q1 (6 : Int32)))), .second, .val (.double (FP.l2d (own_b q1 (7 : Int32)))), .second] [(.ref b_111)])) _
      refine XS.lload X144.here hx rfl (hb hby at_206) rfl ?_
      show Steps p.tables e below (T144.setTop (mkF m 208 #[.val (.long q1), .second, .val (.long q2), .second, .val (.long q3), .second, .val (.int p1), .val (.int (Int32.ofNat f)), .val (.int (Int32.ofNat t)), .val (.ref b_101), .val (.ref b_103), .val (.ref b_106), .val (.ref b_111), .val (.ref b_118), .val (.double (FP.l2d (own_b q1 (4 : Int32)))), .second, .val (.double (FP.l2d (own_b q1 (5 : Int32)))), .second, .val (.double (FP.l2d (own_b q1 (6 : Int32)))), .second, .val (.double (FP.l2d (own_b q1 (7 : Int32)))), .second] [(.long q3), (.ref b_111)])) _
      refine XS.iconst X144.here hx rfl (hb hby at_208) ?_
      show Steps p.tables e below (T144.setTop (mkF m 209 #[.val (.long q1), .second, .val (.long q2), .second, .val (.long q3), .second, .val (.int p1), .val (.int (Int32.ofNat f)), .val (.int (Int32.ofNat t)), .val (.ref b_101), .val (.ref b_103), .val (.ref b_106), .val (.ref b_111), .val (.ref b_118), .val (.double (FP.l2d (own_b q1 (4 : Int32)))), .second, .val (.double (FP.l2d (own_b q1 (5 : Int32)))), .second, .val (.double (FP.l2d (own_b q1 (6 : Int32)))), .second, .val (.double (FP.l2d (own_b q1 (7 : Int32)))), .second] [(.int (0 : Int32)), (.long q3), (.ref b_111)])) _
      refine st146 _ ?_
      show Steps p.tables e below (T146.setTop (mkF m 212 #[.val (.long q1), .second, .val (.long q2), .second, .val (.long q3), .second, .val (.int p1), .val (.int (Int32.ofNat f)), .val (.int (Int32.ofNat t)), .val (.ref b_101), .val (.ref b_103), .val (.ref b_106), .val (.ref b_111), .val (.ref b_118), .val (.double (FP.l2d (own_b q1 (4 : Int32)))), .second, .val (.double (FP.l2d (own_b q1 (5 : Int32)))), .second, .val (.double (FP.l2d (own_b q1 (6 : Int32)))), .second, .val (.double (FP.l2d (own_b q1 (7 : Int32)))), .second] [(.int (1 : Int32))])) _
      refine XS.ifNo X146.here hx rfl (hb hby at_212) rfl ((if0 _ _).trans (feq ((by decide) : ¬ ((1 : Int32) = (0 : Int32)))).1) ?_
      show Steps p.tables e below (T146.setTop (mkF m 215 #[.val (.long q1), .second, .val (.long q2), .second, .val (.long q3), .second, .val (.int p1), .val (.int (Int32.ofNat f)), .val (.int (Int32.ofNat t)), .val (.ref b_101), .val (.ref b_103), .val (.ref b_106), .val (.ref b_111), .val (.ref b_118), .val (.double (FP.l2d (own_b q1 (4 : Int32)))), .second, .val (.double (FP.l2d (own_b q1 (5 : Int32)))), .second, .val (.double (FP.l2d (own_b q1 (6 : Int32)))), .second, .val (.double (FP.l2d (own_b q1 (7 : Int32)))), .second] [])) _
      refine XS.aload X146.here hx rfl (hb hby at_215) rfl rfl ?_
      show Steps p.tables e below (T146.setTop (mkF m 217 #[.val (.long q1), .second, .val (.long q2), .second, .val (.long q3), .second, .val (.int p1), .val (.int (Int32.ofNat f)), .val (.int (Int32.ofNat t)), .val (.ref b_101), .val (.ref b_103), .val (.ref b_106), .val (.ref b_111), .val (.ref b_118), .val (.double (FP.l2d (own_b q1 (4 : Int32)))), .second, .val (.double (FP.l2d (own_b q1 (5 : Int32)))), .second, .val (.double (FP.l2d (own_b q1 (6 : Int32)))), .second, .val (.double (FP.l2d (own_b q1 (7 : Int32)))), .second] [(.ref b_118)])) _
      refine XS.lload X146.here hx rfl (hb hby at_217) rfl ?_
      show Steps p.tables e below (T146.setTop (mkF m 219 #[.val (.long q1), .second, .val (.long q2), .second, .val (.long q3), .second, .val (.int p1), .val (.int (Int32.ofNat f)), .val (.int (Int32.ofNat t)), .val (.ref b_101), .val (.ref b_103), .val (.ref b_106), .val (.ref b_111), .val (.ref b_118), .val (.double (FP.l2d (own_b q1 (4 : Int32)))), .second, .val (.double (FP.l2d (own_b q1 (5 : Int32)))), .second, .val (.double (FP.l2d (own_b q1 (6 : Int32)))), .second, .val (.double (FP.l2d (own_b q1 (7 : Int32)))), .second] [(.long q3), (.ref b_118)])) _
      refine XS.iconst X146.here hx rfl (hb hby at_219) ?_
      show Steps p.tables e below (T146.setTop (mkF m 220 #[.val (.long q1), .second, .val (.long q2), .second, .val (.long q3), .second, .val (.int p1), .val (.int (Int32.ofNat f)), .val (.int (Int32.ofNat t)), .val (.ref b_101), .val (.ref b_103), .val (.ref b_106), .val (.ref b_111), .val (.ref b_118), .val (.double (FP.l2d (own_b q1 (4 : Int32)))), .second, .val (.double (FP.l2d (own_b q1 (5 : Int32)))), .second, .val (.double (FP.l2d (own_b q1 (6 : Int32)))), .second, .val (.double (FP.l2d (own_b q1 (7 : Int32)))), .second] [(.int (4 : Int32)), (.long q3), (.ref b_118)])) _
      refine st148 _ ?_
      show Steps p.tables e below (T148.setTop (mkF m 223 #[.val (.long q1), .second, .val (.long q2), .second, .val (.long q3), .second, .val (.int p1), .val (.int (Int32.ofNat f)), .val (.int (Int32.ofNat t)), .val (.ref b_101), .val (.ref b_103), .val (.ref b_106), .val (.ref b_111), .val (.ref b_118), .val (.double (FP.l2d (own_b q1 (4 : Int32)))), .second, .val (.double (FP.l2d (own_b q1 (5 : Int32)))), .second, .val (.double (FP.l2d (own_b q1 (6 : Int32)))), .second, .val (.double (FP.l2d (own_b q1 (7 : Int32)))), .second] [(.int (1 : Int32))])) _
      refine XS.ifNo X148.here hx rfl (hb hby at_223) rfl ((if0 _ _).trans (feq ((by decide) : ¬ ((1 : Int32) = (0 : Int32)))).1) ?_
      show Steps p.tables e below (T148.setTop (mkF m 226 #[.val (.long q1), .second, .val (.long q2), .second, .val (.long q3), .second, .val (.int p1), .val (.int (Int32.ofNat f)), .val (.int (Int32.ofNat t)), .val (.ref b_101), .val (.ref b_103), .val (.ref b_106), .val (.ref b_111), .val (.ref b_118), .val (.double (FP.l2d (own_b q1 (4 : Int32)))), .second, .val (.double (FP.l2d (own_b q1 (5 : Int32)))), .second, .val (.double (FP.l2d (own_b q1 (6 : Int32)))), .second, .val (.double (FP.l2d (own_b q1 (7 : Int32)))), .second] [])) _
      refine XS.iconst X148.here hx rfl (hb hby at_226) ?_
      show Steps p.tables e below (T148.setTop (mkF m 227 #[.val (.long q1), .second, .val (.long q2), .second, .val (.long q3), .second, .val (.int p1), .val (.int (Int32.ofNat f)), .val (.int (Int32.ofNat t)), .val (.ref b_101), .val (.ref b_103), .val (.ref b_106), .val (.ref b_111), .val (.ref b_118), .val (.double (FP.l2d (own_b q1 (4 : Int32)))), .second, .val (.double (FP.l2d (own_b q1 (5 : Int32)))), .second, .val (.double (FP.l2d (own_b q1 (6 : Int32)))), .second, .val (.double (FP.l2d (own_b q1 (7 : Int32)))), .second] [(.int (1 : Int32))])) _
      refine XS.goto X148.here hx rfl (pc0 := 227) (pc' := 231) rfl (hb hby at_227) (by decide) (by decide) ?_
      exact kt)
  obtain ⟨fs, hr, hrun, hended, hW, hsame⟩ := X148.leave (v := some (.int (1 : Int32))) (fun h => by rw [Bd.returns] at h; cases h)
  refine ⟨_, _, pre149 _ ?_, hrun, hended, _, _, rfl, ?_, ⟨_, rfl⟩, hW, hsame.mono (by decide) (by decide)⟩
  · show Steps p.tables e below (T148.setTop (mkF m 231 #[.val (.long q1), .second, .val (.long q2), .second, .val (.long q3), .second, .val (.int p1), .val (.int (Int32.ofNat f)), .val (.int (Int32.ofNat t)), .val (.ref b_101), .val (.ref b_103), .val (.ref b_106), .val (.ref b_111), .val (.ref b_118), .val (.double (FP.l2d (own_b q1 (4 : Int32)))), .second, .val (.double (FP.l2d (own_b q1 (5 : Int32)))), .second, .val (.double (FP.l2d (own_b q1 (6 : Int32)))), .second, .val (.double (FP.l2d (own_b q1 (7 : Int32)))), .second] [(.int (1 : Int32))])) _
    exact retN X148 hx (t := .boolean) Bd.returns (by simp) (hb hby at_231) hr
  · show Q0 Z q1 q2 q3 p1 h0 n0 _ T148.heap _
    rw [e148]
    exact ⟨rfl, N148⟩
set_option maxRecDepth 65536 in
set_option maxHeartbeats 40000000 in
theorem comes_1 {Post : Tables → Env → Array Value → State → Outcome → State → Prop} (hpost : ∀ tb e args s v u, (limb_1_1.after args s (.returned v) u = true ∧ limb_1_2.after args s (.returned v) u = true ∧ True) → FrameEnd s (.returned v) u (Jvm.fieldLocs frame_1_writes args s ++ Jvm.arrayLocs frame_1_arrays args s ++ Jvm.staticLocs frame_1_statics s) 24 128 → Post tb e args s (.returned v) u) :
    ArmFor flags0 classFile x code maxLocals ret World_1 tables_1 room_1 Calls_1 rest_1 Pre_1 Post := by
  intro l hfl _ _ p e ha hc hk s m args below hf hA hF happ hP
  obtain ⟨hcalls, hrest, hpre⟩ := hP
  obtain ⟨-, -, -, hnamed, -, -, -, hat⟩ := (Spec.applies_iff hf).mp happ
  obtain ⟨hg, hn⟩ := and_e (Cond.before_iff.mp (show (Jvm.Cond.and given_1 narrow_1).before args s = true from hpre))
  obtain ⟨g1, g2⟩ := and_e hg
  obtain ⟨g3, g4⟩ := and_e g2
  obtain ⟨g5, g6⟩ := and_e g4
  obtain ⟨g7, g8⟩ := and_e g6
  obtain ⟨w0, w1, w2, w3, rfl⟩ : ∃ w0 w1 w2 w3 : Value, args = #[w0, w1, w2, w3] := by
    have hs : args.size = 4 := by simpa [Cond.value, given_1] using g1
    obtain ⟨L⟩ := args
    match L, hs with
    | [w0, w1, w2, w3], _ => exact ⟨w0, w1, w2, w3, rfl⟩
  have hw := fun d (hd : d ∈ tables_1) => atoms_spec (ws := Jvm.Cond.code x code maxLocals ret :: tables_1) hat d (List.mem_cons_of_mem _ hd)
  have hfit : Fit s := fun {y c} hc i hi => by
    obtain ⟨ha, rfl⟩ := Array.getElem?_eq_some_iff.mp hc
    have q := List.all_eq_true.mp ((Array.all_eq_true_iff_forall_mem.mp hF) _ (Array.getElem_mem ha)) i (List.mem_range.mpr hi)
    simpa [Array.getElem?_eq_getElem hi] using q
  obtain ⟨i0, ei0⟩ := isL_v g3
  obtain rfl : w0 = (.long i0) := Option.some.inj ei0
  obtain ⟨i1, ei1⟩ := isL_v g5
  obtain rfl : w1 = (.long i1) := Option.some.inj ei1
  obtain ⟨i2, ei2⟩ := isL_v g7
  obtain rfl : w2 = (.long i2) := Option.some.inj ei2
  obtain ⟨i3, ei3⟩ := is_v g8
  obtain rfl : w3 = (.int i3) := Option.some.inj ei3
  obtain ⟨n, o, h1, h2, h3, _, L, rfl, ⟨rfl, N⟩, hq⟩ := rm0 l s _ hw tables_1 i0 i1 i2 i3 s.heap s.heap.size (Nat.le_refl _)  p e ha hc hk s m _ below hf ((Spec.applies_iff_loose hf).mp happ).1 ⟨rfl, State.Warmed39.refl s, rfl⟩ trivial
  refine ⟨n, _, h1, h2, h3, hpost _ _ _ _ _ _ ⟨Cond.after_iff.mpr rfl, Cond.after_iff.mpr (eq_i res_at (Term.int_eval (1)) rfl), trivial⟩ ⟨hq.1, hq.2.1, (hq.2.2.sift fun y hy => Or.inr (N y hy)).mono (by decide) (by decide)⟩⟩
theorem main_1_1 : Claimed_1_1 := comes_1 fun _ _ _ _ _ _ h hF => ⟨h.1, hF⟩
theorem main_1_2 : Claimed_1_2 := comes_1 fun _ _ _ _ _ _ h hF => ⟨h.2.1, hF⟩
end Jvm.Pilot.@@N@@
namespace Jvm.Pilot.@@N@@
open Jvm Jvm.ClassFile Sem Op Lib Jvm.Free Jvm.Stand Jvm.Pilot.@@N@@.Jvm.D
/-! MADE BY PROGRAM (witnessworld.py) out of the Statement's table words and the real class files: 11 classes; the members and pool entries that the words name. The judged class is class 1, her method 5. -/
namespace start1
open Jvm.ClassFile
def u (s : String) : CpInfo := .utf8 (stringToUtf16 s)
/-- a pool by its gaps: so many unusable entries, then the entry; so many at the end -/
def gap : Nat → List CpInfo → List CpInfo
  | 0, r => r
  | n + 1, r => .unusable :: gap n r
def poolList (es : List (Nat × CpInfo)) (last : Nat) : List CpInfo := es.foldr (fun e r => gap e.1 (e.2 :: r)) (gap last [])
def pool (es : List (Nat × CpInfo)) (last : Nat) : Array CpInfo := ⟨poolList es last⟩
def fileOf (pool : Array CpInfo) (this : Nat) (attrs : Array Attribute := #[]) (ms : Array MethodInfo := #[]) (fl : Nat := 33) (sup : Nat := 0) (ifs : Array Nat := #[]) (fds : Array FieldInfo := #[]) : ClassFile where
  minorVersion := 0
  majorVersion := 65
  constantPool := pool
  accessFlags := fl
  thisClass := this
  superClass := sup
  interfaces := ifs
  fields := fds
  methods := ms
  attributes := attrs
def plain (name : String) (sup : Option ClassId) : Class where
  name := name
  kind := .ordinary
  loader := none
  accessFlags := 33
  super := sup
  interfaces := #[]
  cf := none
  fields := #[]
  methods := #[]
  instanceTypes := #[]
  staticTypes := #[]
  resolved := #[]
  callSites := []
  init := .initialized
  statics := none
  mirror := none

def pool0 : Array CpInfo := pool [(5, u "<init>"), (0, u "()V"), (1, .class_ 10), (1, u "java/lang/Object")] 113

def k0m0 : Method := { name := "<init>", desc := "()V", sig := { parameters := [], returnType := none }, accessFlags := 1, code := none }
/-- java/lang/Object -/
def k0 : Class := { plain "java/lang/Object" none with
  accessFlags := 33
  interfaces := #[]
  cf := some (fileOf pool0 8 #[] #[{ accessFlags := 1, nameIndex := 5, descriptorIndex := 6, attributes := #[] }] 33 0 #[] #[])
  fields := #[]
  methods := #[k0m0]
  instanceTypes := #[]
  staticTypes := #[]
  resolved := Array.replicate 124 none
  statics := none }

def pool1 : Array CpInfo := pool [(2, .class_ 4), (1, u "java/lang/Object"), (0, u "<init>"), (0, u "()V"), (0, .methodref 8 9), (0, .class_ 10), (0, .nameAndType 11 12), (0, u "com/example/orthoform/kernel/LinearCombinationsAddProductsPinLaw"), (0, u "b"), (0, u "(JI)J"), (0, .methodref 8 14), (0, .nameAndType 15 16), (0, u "arr"), (0, u "(JI)[D"), (0, .methodref 18 19), (0, .class_ 20), (0, .nameAndType 21 22), (0, u "com/example/orthoform/kernel/LinearCombinations"), (0, u "addProducts"), (0, u "([DD[DD[DD[DD[DII)V"), (0, .methodref 8 24), (0, .nameAndType 25 26), (0, u "ok"), (0, u "([DIJJJII)Z"), (0, .methodref 8 28), (0, .nameAndType 29 30), (0, u "same"), (0, u "([DJI)Z"), (3, u "law"), (0, u "(JJJI)Z")] 4

def k1m0 : Method := { name := "<init>", desc := "()V", sig := { parameters := [], returnType := none }, accessFlags := 2, code := none }
def k1c1 : Code := { maxStack := 4, maxLocals := 3, code := method_2_code, exceptionTable := #[], attributes := #[] }
def k1m1 : Method := { name := "b", desc := "(JI)J", sig := { parameters := [.long, .int], returnType := some .long }, accessFlags := 10, code := some k1c1 }
def k1c2 : Code := { maxStack := 7, maxLocals := 3, code := method_3_code, exceptionTable := #[], attributes := #[] }
def k1m2 : Method := { name := "arr", desc := "(JI)[D", sig := { parameters := [.long, .int], returnType := some (.array .double) }, accessFlags := 10, code := some k1c2 }
def k1c3 : Code := { maxStack := 6, maxLocals := 4, code := method_4_code, exceptionTable := #[], attributes := #[] }
def k1m3 : Method := { name := "same", desc := "([DJI)Z", sig := { parameters := [(.array .double), .long, .int], returnType := some .boolean }, accessFlags := 10, code := some k1c3 }
def k1c4 : Code := { maxStack := 8, maxLocals := 12, code := method_5_code, exceptionTable := #[], attributes := #[] }
def k1m4 : Method := { name := "ok", desc := "([DIJJJII)Z", sig := { parameters := [(.array .double), .int, .long, .long, .long, .int, .int], returnType := some .boolean }, accessFlags := 10, code := some k1c4 }
def k1c5 : Code := { maxStack := 15, maxLocals := 22, code := code, exceptionTable := #[], attributes := #[] }
def k1m5 : Method := { name := "law", desc := "(JJJI)Z", sig := { parameters := [.long, .long, .long, .int], returnType := some .boolean }, accessFlags := 9, code := some k1c5 }
/-- com/example/orthoform/kernel/LinearCombinationsAddProductsPinLaw -/
def k1 : Class := { plain "com/example/orthoform/kernel/LinearCombinationsAddProductsPinLaw" (some 0) with
  accessFlags := 49
  interfaces := #[]
  cf := some (fileOf pool1 8 #[] #[{ accessFlags := 2, nameIndex := 5, descriptorIndex := 6, attributes := #[] }, { accessFlags := 10, nameIndex := 11, descriptorIndex := 12, attributes := #[] }, { accessFlags := 10, nameIndex := 15, descriptorIndex := 16, attributes := #[] }, { accessFlags := 10, nameIndex := 29, descriptorIndex := 30, attributes := #[] }, { accessFlags := 10, nameIndex := 25, descriptorIndex := 26, attributes := #[] }, { accessFlags := 9, nameIndex := 34, descriptorIndex := 35, attributes := #[] }] 49 2 #[] #[])
  fields := #[]
  methods := #[k1m0, k1m1, k1m2, k1m3, k1m4, k1m5]
  instanceTypes := #[]
  staticTypes := #[]
  resolved := Array.replicate 40 none
  statics := none }

def pool2 : Array CpInfo := pool [(2, .class_ 4), (1, u "java/lang/Object"), (0, u "<init>"), (0, u "()V"), (1, .class_ 10), (1, u "com/example/orthoform/kernel/LinearCombinations"), (0, u "addProducts"), (0, u "([DD[DD[DD[DD[DII)V")] 11

def k2m0 : Method := { name := "<init>", desc := "()V", sig := { parameters := [], returnType := none }, accessFlags := 2, code := none }
def k2c1 : Code := { maxStack := 10, maxLocals := 16, code := prog_6_method_2_code, exceptionTable := #[], attributes := #[] }
def k2m1 : Method := { name := "addProducts", desc := "([DD[DD[DD[DD[DII)V", sig := { parameters := [(.array .double), .double, (.array .double), .double, (.array .double), .double, (.array .double), .double, (.array .double), .int, .int], returnType := none }, accessFlags := 8, code := some k2c1 }
/-- com/example/orthoform/kernel/LinearCombinations -/
def k2 : Class := { plain "com/example/orthoform/kernel/LinearCombinations" (some 0) with
  accessFlags := 48
  interfaces := #[]
  cf := some (fileOf pool2 8 #[] #[{ accessFlags := 2, nameIndex := 5, descriptorIndex := 6, attributes := #[] }, { accessFlags := 8, nameIndex := 11, descriptorIndex := 12, attributes := #[] }] 48 2 #[] #[])
  fields := #[]
  methods := #[k2m0, k2m1]
  instanceTypes := #[]
  staticTypes := #[]
  resolved := Array.replicate 24 none
  statics := none }

def pool3 : Array CpInfo := pool [(1, u "java/lang/Cloneable"), (0, .class_ 1), (0, u "java/lang/Object"), (0, .class_ 3)] 3

/-- java/lang/Cloneable -/
def k3 : Class := { plain "java/lang/Cloneable" (some 0) with
  accessFlags := 1537
  interfaces := #[]
  cf := some (fileOf pool3 2 #[] #[] 1537 4 #[] #[])
  fields := #[]
  methods := #[]
  instanceTypes := #[]
  staticTypes := #[]
  resolved := Array.replicate 8 none
  statics := none }

def pool4 : Array CpInfo := pool [(1, u "java/io/Serializable"), (0, .class_ 1), (0, u "java/lang/Object"), (0, .class_ 3)] 3

/-- java/io/Serializable -/
def k4 : Class := { plain "java/io/Serializable" (some 0) with
  accessFlags := 1537
  interfaces := #[]
  cf := some (fileOf pool4 2 #[] #[] 1537 4 #[] #[])
  fields := #[]
  methods := #[]
  instanceTypes := #[]
  staticTypes := #[]
  resolved := Array.replicate 8 none
  statics := none }

/-- the primitive byte -/
def k5 : Class := { plain "byte" none with kind := .primitive 'B', accessFlags := 0x411 }
/-- [B -/
def k6 : Class := { plain "[B" (some 0) with kind := .array 5 .byte, interfaces := #[3, 4], accessFlags := 1041 }

/-- the primitive double -/
def k7 : Class := { plain "double" none with kind := .primitive 'D', accessFlags := 0x411 }
/-- [D -/
def k8 : Class := { plain "[D" (some 0) with kind := .array 7 .double, interfaces := #[3, 4], accessFlags := 1041 }

/-- the primitive int -/
def k9 : Class := { plain "int" none with kind := .primitive 'I', accessFlags := 0x411 }
/-- [I -/
def k10 : Class := { plain "[I" (some 0) with kind := .array 9 .int, interfaces := #[3, 4], accessFlags := 1041 }

def heap : Heap := #[]
def classes : Array Class := #[k0, k1, k2, k3, k4, k5, k6, k7, k8, k9, k10]
def interned : List (Array UInt16 × Addr) := []
def slotsUsed : Nat := 0
def theMethod : MethodId := ⟨1, 5⟩
def args0 : Array Value := #[.long 5, .long 5, .long 5, .int 3]
def aboutOver (below : List Frame) : State where
  vm := { classes := classes, interned := interned.toArray }
  heap := heap
  slotsUsed := slotsUsed
  threads := #[{ frames := .invoking theMethod args0 :: below }]
def below0 : List Frame := [.native { method := ⟨0, 0⟩, args := #[] }]
def about1 : State := aboutOver below0
def p0 : Program := .bare "" "" ""
def e0 : Env := launch0.env 0 0 0
theorem w_frames : about1.frames = Frame.invoking theMethod args0 :: below0 := rfl
set_option maxRecDepth 65536 in
theorem w_args : argsFit about1.vm theMethod args0 = true := by decide +kernel
set_option maxRecDepth 65536 in
theorem w_heap : heapFits about1 = true := by decide +kernel
set_option maxRecDepth 65536 in
theorem w_runnable : about1.curStatus? = some .runnable := by decide +kernel
set_option maxRecDepth 65536 in
theorem w_alone : about1.alone = true := by decide +kernel
set_option maxRecDepth 65536 in
theorem w_named : about1.methodNamed? x = some theMethod := by decide +kernel
set_option maxRecDepth 65536 in
theorem w_hears : about1.hears theMethod below0 = true := by decide +kernel
set_option maxRecDepth 65536 in
theorem w_ripe : about1.ripe theMethod args0 below0 = true := by decide +kernel
theorem w_running : about1.status = .running := rfl
set_option maxRecDepth 65536 in
theorem w_room : about1.hasRoom e0.platform room_1 = true :=
  launch0.hasRoom_least _ room_1 (by decide +kernel) (by decide +kernel) (by decide +kernel) (by decide +kernel) (by decide +kernel) (by decide +kernel)
theorem allAtoms_all (ts : List Jvm.Cond) (a : Array Jvm.Value) (st : Jvm.State) : (allAtoms ts).before a st = ts.all (fun c => c.before a st) := by
  induction ts with
  | nil => rfl
  | cons c t ih =>
    show (Jvm.Cond.and c (allAtoms t)).before a st = _
    rw [Jvm.Cond.before_and, ih, List.all_cons]
def words1 : List Jvm.Cond := Jvm.Cond.code x code maxLocals ret :: tables_1
/-- a 'code' word, met by the world's own term for the bytes: nothing is compared byte by byte -/
theorem code_word {y : MethodName} {bytes : ByteArray} {mx : Nat} {rt : Option FieldType} {a : Array Value} {s : State} {m : MethodId} {meth : Method} {c : Code} (h1 : s.methodNamed? y = some m) (h2 : s.vm.method? m = some meth) (h3 : meth.code = some c) (h4 : c.code = bytes)
    (h5 : (c.maxLocals == mx && c.exceptionTable.isEmpty && decide (c.maxStack ≤ mostOperands) && decide (meth.sig.returnType = rt) && !meth.locks && decide (parseMethodDescriptor y.desc = some meth.sig)) = true) : (Jvm.Cond.code y bytes mx rt).before a s = true := by
  simp only [Bool.and_eq_true, beq_iff_eq, Bool.not_eq_true', decide_eq_true_eq] at h5
  obtain ⟨⟨⟨⟨⟨g1, g2⟩, g3⟩, g4⟩, g5⟩, g6⟩ := h5
  simp [Cond.before, Cond.holds, Cond.value, h1, h2, h3, h4, g1, g2, g3, g4, g5, g6]
def isCode : Jvm.Cond → Bool
  | .code _ _ _ _ => true
  | _ => false
theorem all_split {L : List Jvm.Cond} {P : Jvm.Cond → Bool} (h1 : L.all (fun c => isCode c || P c) = true) (h2 : ∀ c ∈ L.filter isCode, P c = true) : L.all P = true := by
  refine List.all_eq_true.mpr fun c hc => ?_
  have h := List.all_eq_true.mp h1 c hc
  rcases Bool.eq_false_or_eq_true (isCode c) with hi | hi
  · exact h2 c (List.mem_filter.mpr ⟨hc, hi⟩)
  · simpa [hi] using h
set_option maxRecDepth 65536 in
theorem w_c0 : (Jvm.Cond.code x code maxLocals ret).before args0 about1 = true := code_word (m := ⟨1, 5⟩) (meth := k1m5) (c := k1c5) (by decide +kernel) rfl rfl rfl (by decide +kernel)
set_option maxRecDepth 65536 in
theorem w_c1 : (Jvm.Cond.code ({ cls := "com/example/orthoform/kernel/LinearCombinationsAddProductsPinLaw", name := "arr", desc := "(JI)[D" } : Jvm.MethodName) method_3_code (3 : Nat) (Option.some (Jvm.ClassFile.FieldType.array Jvm.ClassFile.FieldType.double))).before args0 about1 = true := code_word (m := ⟨1, 2⟩) (meth := k1m2) (c := k1c2) (by decide +kernel) rfl rfl rfl (by decide +kernel)
set_option maxRecDepth 65536 in
theorem w_c2 : (Jvm.Cond.code ({ cls := "com/example/orthoform/kernel/LinearCombinationsAddProductsPinLaw", name := "b", desc := "(JI)J" } : Jvm.MethodName) method_2_code (3 : Nat) (Option.some Jvm.ClassFile.FieldType.long)).before args0 about1 = true := code_word (m := ⟨1, 1⟩) (meth := k1m1) (c := k1c1) (by decide +kernel) rfl rfl rfl (by decide +kernel)
set_option maxRecDepth 65536 in
theorem w_c3 : (Jvm.Cond.code ({ cls := "com/example/orthoform/kernel/LinearCombinations", name := "addProducts", desc := "([DD[DD[DD[DD[DII)V" } : Jvm.MethodName) prog_6_method_2_code (16 : Nat) (Option.none : Option Jvm.ClassFile.FieldType)).before args0 about1 = true := code_word (m := ⟨2, 1⟩) (meth := k2m1) (c := k2c1) (by decide +kernel) rfl rfl rfl (by decide +kernel)
set_option maxRecDepth 65536 in
theorem w_c4 : (Jvm.Cond.code ({ cls := "com/example/orthoform/kernel/LinearCombinationsAddProductsPinLaw", name := "ok", desc := "([DIJJJII)Z" } : Jvm.MethodName) method_5_code (12 : Nat) (Option.some Jvm.ClassFile.FieldType.boolean)).before args0 about1 = true := code_word (m := ⟨1, 4⟩) (meth := k1m4) (c := k1c4) (by decide +kernel) rfl rfl rfl (by decide +kernel)
set_option maxRecDepth 65536 in
theorem w_c5 : (Jvm.Cond.code ({ cls := "com/example/orthoform/kernel/LinearCombinationsAddProductsPinLaw", name := "same", desc := "([DJI)Z" } : Jvm.MethodName) method_4_code (4 : Nat) (Option.some Jvm.ClassFile.FieldType.boolean)).before args0 about1 = true := code_word (m := ⟨1, 3⟩) (meth := k1m3) (c := k1c3) (by decide +kernel) rfl rfl rfl (by decide +kernel)
def codes1 : List Jvm.Cond := [Jvm.Cond.code x code maxLocals ret, Jvm.Cond.code ({ cls := "com/example/orthoform/kernel/LinearCombinationsAddProductsPinLaw", name := "arr", desc := "(JI)[D" } : Jvm.MethodName) method_3_code (3 : Nat) (Option.some (Jvm.ClassFile.FieldType.array Jvm.ClassFile.FieldType.double)), Jvm.Cond.code ({ cls := "com/example/orthoform/kernel/LinearCombinationsAddProductsPinLaw", name := "b", desc := "(JI)J" } : Jvm.MethodName) method_2_code (3 : Nat) (Option.some Jvm.ClassFile.FieldType.long), Jvm.Cond.code ({ cls := "com/example/orthoform/kernel/LinearCombinations", name := "addProducts", desc := "([DD[DD[DD[DD[DII)V" } : Jvm.MethodName) prog_6_method_2_code (16 : Nat) (Option.none : Option Jvm.ClassFile.FieldType), Jvm.Cond.code ({ cls := "com/example/orthoform/kernel/LinearCombinationsAddProductsPinLaw", name := "ok", desc := "([DIJJJII)Z" } : Jvm.MethodName) method_5_code (12 : Nat) (Option.some Jvm.ClassFile.FieldType.boolean), Jvm.Cond.code ({ cls := "com/example/orthoform/kernel/LinearCombinationsAddProductsPinLaw", name := "same", desc := "([DJI)Z" } : Jvm.MethodName) method_4_code (4 : Nat) (Option.some Jvm.ClassFile.FieldType.boolean)]
set_option maxRecDepth 65536 in
theorem codes_eq : words1.filter isCode = codes1 := rfl
theorem w_codes : ∀ c ∈ words1.filter isCode, c.before args0 about1 = true := by
  rw [codes_eq]
  intro c hc
  simp only [codes1, List.mem_cons, List.not_mem_nil, or_false] at hc
  rcases hc with rfl | rfl | rfl | rfl | rfl | rfl
  · exact w_c0
  · exact w_c1
  · exact w_c2
  · exact w_c3
  · exact w_c4
  · exact w_c5
set_option maxRecDepth 65536 in
theorem w_t1 : words1.all (fun c => isCode c || c.before args0 about1) = true := by decide +kernel
theorem w_tables : (allAtoms (Jvm.Cond.code x code maxLocals ret :: tables_1)).before args0 about1 = true := by
  rw [allAtoms_all]
  show words1.all (fun c => c.before args0 about1) = true
  refine all_split ?_ w_codes
  rw [w_t1]
set_option maxRecDepth 65536 in
theorem w_case : (Jvm.Cond.and given_1 narrow_1).before args0 about1 = true := by decide +kernel
theorem w_applies : (headSpec (Jvm.Cond.code x code maxLocals ret :: tables_1) room_1).applies x e0.platform about1 = true :=
  (Spec.applies_iff w_frames).mpr ⟨w_running, w_runnable, w_alone, w_named, w_hears, w_ripe, w_room, w_tables⟩
theorem atStart : AtStart classFile x code maxLocals ret World_1 tables_1 room_1 Calls_1 rest_1 Pre_1 launch0 p0 e0 about1 theMethod args0 below0 :=
  ⟨lists_1, trivial, launch0.admits_env _ _ _, launch0.least_env, fairChoices_fair.cas, fairChoices_fair.clock, w_frames, w_args, w_heap, w_applies, trivial, trivial, w_case⟩
end start1
theorem witness_1 : WitnessClaimed_1 := ⟨start1.p0, start1.e0, start1.about1, start1.theMethod, start1.args0, start1.below0, start1.atStart⟩
end Jvm.Pilot.@@N@@
