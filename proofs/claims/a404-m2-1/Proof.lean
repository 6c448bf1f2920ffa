import JvmDerived
import JvmDerived.Pilot.@@N@@Statement
import JvmDerived.Pilot.@@N@@Code
set_option linter.unusedVariables false
set_option linter.unusedSimpArgs false
namespace Jvm.RoadKit
open Sem ClassFile Op Lib Jvm.Stand Jvm.Free Jvm.LawKit
section New
variable {p : Program} {l : Launch} {e : Env} {R : Room} {s : State} {m : MethodId} {args : Array Value} {below : List Frame} {meth : Method} {c : Code} {T : State} {locs : List Loc} {cells slots : Nat}
theorem retI (X : Stand p l e R s m args below meth c T locs cells slots) (hx : p.tables.exec = Jvm.exec) {pc : Nat} {Ls : Array Slot} {z : Int32} {rest : List Value} (hret : meth.sig.returnType = some .int) (hd : decode c.code pc = .ok (.ireturn, 1)) {fs : List Frame}
    (hl : ∀ (f : JFrame) (acts : List Action), f.method = m → f.locked = none → f.entered = [] → (doReturn e (T.setTop f) acts (some (.int z))).1 = T.setFrames fs) : Steps p.tables e below (T.setTop (mkF m pc Ls (.int z :: rest))) (T.setFrames fs) := by
  have hm' : T.vm.method? m = some meth := X.method'
  have hn : narrow .int (.int z) = .int z := rfl
  show Steps p.tables e below (T.setTop { method := m, pc := pc, locals := Ls, stack := _ :: rest, locked := none }) _
  jvm_step X.here [X.here.top, hx, hd, hm', hret, hn]
  first | (intro acts; rw [hl _ acts rfl rfl rfl]) | rw [hl _ _ rfl rfl rfl]
  exact Steps.refl _
theorem own_retJ (X : Stand p l e R s m args below meth c T locs cells slots) (hx : p.tables.exec = Jvm.exec) {pc : Nat} {Ls : Array Slot} {z : Int64} {rest : List Value} (hret : meth.sig.returnType = some .long) (hd : decode c.code pc = .ok (.lreturn, 1)) {fs : List Frame}
    (hl : ∀ (f : JFrame) (acts : List Action), f.method = m → f.locked = none → f.entered = [] → (doReturn e (T.setTop f) acts (some (.long z))).1 = T.setFrames fs) : Steps p.tables e below (T.setTop (mkF m pc Ls (.long z :: rest))) (T.setFrames fs) := by
  have hm' : T.vm.method? m = some meth := X.method'
  show Steps p.tables e below (T.setTop { method := m, pc := pc, locals := Ls, stack := _ :: rest, locked := none }) _
  jvm_step X.here [X.here.top, hx, hd, hm', hret, narrow]
  first | (intro acts; rw [hl _ acts rfl rfl rfl]) | rw [hl _ _ rfl rfl rfl]
  exact Steps.refl _
theorem own_retD (X : Stand p l e R s m args below meth c T locs cells slots) (hx : p.tables.exec = Jvm.exec) {pc : Nat} {Ls : Array Slot} {z : UInt64} {rest : List Value} (hret : meth.sig.returnType = some .double) (hd : decode c.code pc = .ok (.dreturn, 1)) {fs : List Frame}
    (hl : ∀ (f : JFrame) (acts : List Action), f.method = m → f.locked = none → f.entered = [] → (doReturn e (T.setTop f) acts (some (.double z))).1 = T.setFrames fs) : Steps p.tables e below (T.setTop (mkF m pc Ls (.double z :: rest))) (T.setFrames fs) := by
  have hm' : T.vm.method? m = some meth := X.method'
  show Steps p.tables e below (T.setTop { method := m, pc := pc, locals := Ls, stack := _ :: rest, locked := none }) _
  jvm_step X.here [X.here.top, hx, hd, hm', hret, narrow]
  first | (intro acts; rw [hl _ acts rfl rfl rfl]) | rw [hl _ _ rfl rfl rfl]
  exact Steps.refl _
theorem own_retR (X : Stand p l e R s m args below meth c T locs cells slots) (hx : p.tables.exec = Jvm.exec) {pc : Nat} {Ls : Array Slot} {z : Addr} {rest : List Value} {ty : FieldType} (hret : meth.sig.returnType = some ty) (hty : ty.isReference = true) (hd : decode c.code pc = .ok (.areturn, 1)) {fs : List Frame}
    (hl : ∀ (f : JFrame) (acts : List Action), f.method = m → f.locked = none → f.entered = [] → (doReturn e (T.setTop f) acts (some (.ref z))).1 = T.setFrames fs) : Steps p.tables e below (T.setTop (mkF m pc Ls (.ref z :: rest))) (T.setFrames fs) := by
  have hm' : T.vm.method? m = some meth := X.method'
  show Steps p.tables e below (T.setTop { method := m, pc := pc, locals := Ls, stack := _ :: rest, locked := none }) _
  jvm_step X.here [X.here.top, hx, hd, hm', hret, hty, Value.isRef]
  first | (intro acts; rw [hl _ acts rfl rfl rfl]) | rw [hl _ _ rfl rfl rfl]
  exact Steps.refl _
theorem own_nm0 {a : Addr} : a ∉ ([] : List Addr) := List.not_mem_nil
theorem own_nmc {a w : Addr} {ws : List Addr} (h : a ≠ w) (r : a ∉ ws) : a ∉ w :: ws := fun q => (List.mem_cons.mp q).elim h r
theorem own_wm0 {P : Addr → Prop} : ∀ x ∈ ([] : List Addr), P x := fun _ q => nomatch q
theorem own_wmc {P : Addr → Prop} {w : Addr} {ws : List Addr} (h : P w) (r : ∀ x ∈ ws, P x) : ∀ x ∈ w :: ws, P x := fun x q => (List.mem_cons.mp q).elim (fun z => z ▸ h) (r x)
end New
end Jvm.RoadKit
namespace Jvm.OwnFP
open Jvm.FP Jvm.Free.Fl Sem ClassFile Op
/-- the double's value in units of 2 ^ -1074 -/
def zv (x : UInt64) : Int := Core.zval Core.b64 (Core.val64 x)
def zm (x : UInt64) : Nat := Core.zmag Core.b64 (Core.val64 x)
theorem nn {x : UInt64} (h : NoNaN64 x) : Core.val64 x ≠ .nan := (Core.notNaN_iff x).mp (noNaN64_no.mp h)
theorem nnF {x : UInt64} (h : Fin64 x) : NoNaN64 x := h.noNaN
theorem cv {x y : UInt64} (hx : NoNaN64 x) (hy : NoNaN64 y) (o : CmpOp) : cmpValue (FP.dcmp x y) o = if zv x < zv y then -1 else if zv x = zv y then 0 else 1 := by
  have h : FP.dcmp x y = some (compare (zv x) (zv y)) := Core.dcmp_zval (nn hx) (nn hy)
  rw [h, Core.compare_ite]
  by_cases h1 : zv x < zv y
  · rw [if_pos h1, if_pos h1]; cases o <;> rfl
  · rw [if_neg h1, if_neg h1]
    by_cases h2 : zv x = zv y
    · rw [if_pos h2, if_pos h2]; cases o <;> rfl
    · rw [if_neg h2, if_neg h2]; cases o <;> rfl
theorem cv_lt {x y : UInt64} (hx : NoNaN64 x) (hy : NoNaN64 y) (h : zv x < zv y) (o : CmpOp) : cmpValue (FP.dcmp x y) o = -1 := by rw [cv hx hy, if_pos h]
theorem cv_eq {x y : UInt64} (hx : NoNaN64 x) (hy : NoNaN64 y) (h : zv x = zv y) (o : CmpOp) : cmpValue (FP.dcmp x y) o = 0 := by rw [cv hx hy, if_neg (by omega), if_pos h]
theorem cv_gt {x y : UInt64} (hx : NoNaN64 x) (hy : NoNaN64 y) (h : zv y < zv x) (o : CmpOp) : cmpValue (FP.dcmp x y) o = 1 := by rw [cv hx hy, if_neg (by omega), if_neg (by omega)]
theorem cv_ge {x y : UInt64} (hx : NoNaN64 x) (hy : NoNaN64 y) (h : zv y ≤ zv x) (o : CmpOp) : ¬ cmpValue (FP.dcmp x y) o < 0 := by
  rw [cv hx hy, if_neg (by omega)]; split <;> decide
theorem cv_le {x y : UInt64} (hx : NoNaN64 x) (hy : NoNaN64 y) (h : zv x ≤ zv y) (o : CmpOp) : ¬ 0 < cmpValue (FP.dcmp x y) o := by
  rw [cv hx hy]; split
  · decide
  · rw [if_pos (by omega)]; decide
theorem sh {x : UInt64} (h : Fin64 x) : ∃ s c q, Core.val64 x = .fin s c q := fin64_core.mp h
theorem zv_dint {i : Int} {x : UInt64} (h : Core.DInt i x) : zv x = i * (Core.one64 : Int) := Core.DInt_zval h
theorem zv_zero : zv 0 = 0 := Core.zval64_zero
theorem fin_zero : Fin64 0 := by unfold Fin64; decide
theorem fin_one : Fin64 4607182418800017408 := by unfold Fin64; decide
theorem one_pos : (0 : Int) < (Core.one64 : Int) := by have := Core.one64_pos; omega
theorem zv_sgn (x : UInt64) : zv x = Core.signed (Core.sgn (Core.val64 x)) (zm x) := rfl
theorem zm_abs (x : UInt64) : (zv x).natAbs = zm x := by rw [zv_sgn, Core.natAbs_signed]
theorem add_le {x y v : UInt64} (hx : Fin64 x) (hy : Fin64 y) (hv : NoNaN64 v) (h : zv x + zv y ≤ zv v) : zv (FP.dadd x y) ≤ zv v := by
  show Core.zval Core.b64 (Core.val64 (Core.dadd x y)) ≤ _
  rw [Core.val64_dadd]
  exact Core.sum_le Core.good_b64 (sh hx) (sh hy) (Core.val64_fits x) (Core.val64_fits y) (Core.val64_fits v) (nn hv) h
theorem add_ge {x y v : UInt64} (hx : Fin64 x) (hy : Fin64 y) (hv : NoNaN64 v) (h : zv v ≤ zv x + zv y) : zv v ≤ zv (FP.dadd x y) := by
  show _ ≤ Core.zval Core.b64 (Core.val64 (Core.dadd x y))
  rw [Core.val64_dadd]
  exact Core.sum_ge Core.good_b64 (sh hx) (sh hy) (Core.val64_fits x) (Core.val64_fits y) (Core.val64_fits v) (nn hv) h
theorem shn {x : UInt64} (h : Fin64 x) : ∃ s c q, Core.negate (Core.val64 x) = .fin s c q := by
  obtain ⟨s, c, q, e⟩ := sh h; exact ⟨!s, c, q, by rw [e]; rfl⟩
theorem sub_le {x y v : UInt64} (hx : Fin64 x) (hy : Fin64 y) (hv : NoNaN64 v) (h : zv x - zv y ≤ zv v) : zv (FP.dsub x y) ≤ zv v := by
  show Core.zval Core.b64 (Core.val64 (Core.dsub x y)) ≤ _
  rw [Core.val64_dsub]
  exact Core.sum_le Core.good_b64 (sh hx) (shn hy) (Core.val64_fits x) (Core.negate_fits (Core.val64_fits y)) (Core.val64_fits v) (nn hv) (by rw [Core.zval_negate]; exact h)
theorem sub_ge {x y v : UInt64} (hx : Fin64 x) (hy : Fin64 y) (hv : NoNaN64 v) (h : zv v ≤ zv x - zv y) : zv v ≤ zv (FP.dsub x y) := by
  show _ ≤ Core.zval Core.b64 (Core.val64 (Core.dsub x y))
  rw [Core.val64_dsub]
  exact Core.sum_ge Core.good_b64 (sh hx) (shn hy) (Core.val64_fits x) (Core.negate_fits (Core.val64_fits y)) (Core.val64_fits v) (nn hv) (by rw [Core.zval_negate]; exact h)
/-- no NaN and no greater than something finite: finite -/
theorem fin_of {x v : UInt64} (hx : NoNaN64 x) (hv : Fin64 v) (h : zm x ≤ zm v) : Fin64 x := by
  refine fin64_core.mpr ?_
  have h1 : Core.zmag Core.b64 (Core.val64 v) < _ := (fin64_core.mp hv).zval_lt
  have h2 := nn hx
  unfold zm at h
  cases e : Core.val64 x with
  | nan => exact absurd e h2
  | inf s => rw [e] at h; exact absurd (Nat.lt_of_le_of_lt h h1) (Nat.lt_irrefl _)
  | fin s c q => exact ⟨s, c, q, e⟩
/-- 2 ^ -k in those units -/
def U (k : Nat) : Int := ((2 ^ (1074 - k) : Nat) : Int)
theorem U_pos (k : Nat) : 0 < U k := by unfold U; have := Nat.two_pow_pos (1074 - k); omega
theorem U_zero : U 0 = (Core.one64 : Int) := rfl
theorem U_add {k j : Nat} (h : k + j ≤ 1074) : U k = ((2 ^ j : Nat) : Int) * U (k + j) := by
  unfold U
  rw [← Int.natCast_mul, ← Nat.pow_add, show j + (1074 - (k + j)) = 1074 - k by omega]
/-- x is i / 2 ^ k, exactly -/
def Is (x : UInt64) (i : Int) (k : Nat) : Prop := Fin64 x ∧ zv x = i * U k
theorem signed_abs (i : Int) : Core.signed (decide (i < 0)) i.natAbs = i := by
  unfold Core.signed
  by_cases h : i < 0
  · simp [h]; omega
  · simp [h]; omega
theorem repr (i : Int) (k : Nat) (hk : k ≤ 1074) (hi : i.natAbs < 2 ^ 53) : ∃ v : UInt64, Is v i k := by
  obtain ⟨c', q', h1, h2⟩ := Core.round_exact Core.good_b64 (decide (i < 0)) (c := i.natAbs) (q := -(k : Int)) hi (by rw [Core.qmin_b64]; omega) (by show _ ≤ (971 : Int); omega)
  have hf : Core.fits Core.b64 (.fin (decide (i < 0)) c' q') := h1 ▸ Core.round_fits Core.good_b64 _
  have hv := Core.val64_of64 hf
  refine ⟨Core.of64 (.fin (decide (i < 0)) c' q'), fin64_core.mpr ⟨_, _, _, hv⟩, ?_⟩
  unfold zv Core.zval
  rw [hv]
  show Core.signed (decide (i < 0)) (Core.inUnits c' q' Core.b64.qmin) = _
  rw [h2]
  unfold Core.inUnits
  rw [Core.signed_mul, signed_abs, Core.qmin_b64]
  unfold U
  rw [show (-(k : Int) - -1074).toNat = 1074 - k by omega]
theorem is_dint {i : Int} {x : UInt64} (h : Core.DInt i x) (hf : Fin64 x) : Is x i 0 := ⟨hf, by rw [zv_dint h, U_zero]⟩
theorem is_i2d (v : Int32) : Is (FP.i2d v) v.toInt 0 := is_dint (Core.i2d_int v) (i2d_fin v)
theorem is_l2d {v : Int64} (h : v.toInt.natAbs ≤ 2 ^ 53) : Is (FP.l2d v) v.toInt 0 := is_dint (Core.l2d_int h) (l2d_fin v)
theorem is_zero (k : Nat) : Is 0 0 k := ⟨fin_zero, by rw [zv_zero, Int.zero_mul]⟩
theorem is_one : Is 4607182418800017408 1 0 := is_dint Core.dint_one fin_one
theorem Is.nn {x : UInt64} {i : Int} {k : Nat} (h : Is x i k) : NoNaN64 x := h.1.noNaN
theorem Is.up {x : UInt64} {i : Int} {k : Nat} (h : Is x i k) (j : Nat) (hj : k + j ≤ 1074) : Is x (i * ((2 ^ j : Nat) : Int)) (k + j) := ⟨h.1, by rw [h.2, U_add hj, Int.mul_assoc]⟩
theorem is_val {x v : UInt64} {i : Int} {k : Nat} (hn : NoNaN64 x) (hv : Is v i k) (h : zv x = zv v) : Is x i k := ⟨fin_of hn hv.1 (by rw [← zm_abs, ← zm_abs, h]; exact Nat.le_refl _), h.trans hv.2⟩
theorem Is.add {x y : UInt64} {i j : Int} {k : Nat} (hx : Is x i k) (hy : Is y j k) (hk : k ≤ 1074) (h : (i + j).natAbs < 2 ^ 53) : Is (FP.dadd x y) (i + j) k := by
  obtain ⟨v, hv⟩ := repr (i + j) k hk h
  have e : zv x + zv y = zv v := by rw [hx.2, hy.2, hv.2, Int.add_mul]
  exact is_val (dadd_out hx.nn hy.1) hv (Int.le_antisymm (add_le hx.1 hy.1 hv.nn (by omega)) (add_ge hx.1 hy.1 hv.nn (by omega)))
theorem Is.sub {x y : UInt64} {i j : Int} {k : Nat} (hx : Is x i k) (hy : Is y j k) (hk : k ≤ 1074) (h : (i - j).natAbs < 2 ^ 53) : Is (FP.dsub x y) (i - j) k := by
  obtain ⟨v, hv⟩ := repr (i - j) k hk h
  have e : zv x - zv y = zv v := by rw [hx.2, hy.2, hv.2, Int.sub_mul]
  exact is_val (dsub_out hx.nn hy.1) hv (Int.le_antisymm (sub_le hx.1 hy.1 hv.nn (by omega)) (sub_ge hx.1 hy.1 hv.nn (by omega)))
theorem Is.lt_iff {x y : UInt64} {i j : Int} {k : Nat} (hx : Is x i k) (hy : Is y j k) : zv x < zv y ↔ i < j := by
  rw [hx.2, hy.2]; exact Int.mul_lt_mul_right (U_pos k)
theorem Is.eq_iff {x y : UInt64} {i j : Int} {k : Nat} (hx : Is x i k) (hy : Is y j k) : zv x = zv y ↔ i = j := by
  rw [hx.2, hy.2]; exact ⟨fun h => Int.eq_of_mul_eq_mul_right (Int.ne_of_gt (U_pos k)) h, fun h => by rw [h]⟩
theorem Is.cmp {x y : UInt64} {i j : Int} {k : Nat} (hx : Is x i k) (hy : Is y j k) (o : CmpOp) : cmpValue (FP.dcmp x y) o = if i < j then -1 else if i = j then 0 else 1 := by
  rw [cv hx.nn hy.nn]
  simp only [hx.lt_iff hy, hx.eq_iff hy]
/-- a quotient: her magnitude lies on the same side of any double as the true one; her sign is the signs' product -/
theorem div_shape {x y : UInt64} (hx : Fin64 x) (hy : Fin64 y) (hz : zm y ≠ 0) : ∃ (s t : Bool) (c d : Nat) (q r : Int), Core.val64 x = .fin s c q ∧ Core.val64 y = .fin t d r ∧ 0 < d ∧ Core.val64 (FP.ddiv x y) = Core.roundRatio Core.b64 (s != t) c d (q - r) := by
  obtain ⟨s, c, q, e1⟩ := sh hx
  obtain ⟨t, d, r, e2⟩ := sh hy
  have hd : d ≠ 0 := fun h => hz (by unfold zm; rw [e2]; show Core.inUnits d r _ = 0; rw [h]; simp [Core.inUnits])
  refine ⟨s, t, c, d, q, r, e1, e2, by omega, ?_⟩
  have := Core.val64_ddiv x y
  rw [e1, e2] at this
  show Core.val64 (Core.ddiv x y) = _
  rw [this]
  simp [Core.quotient, hd]
theorem units2 (c : Nat) (q r : Int) (hq : -1074 ≤ q) (hr : -1074 ≤ r) : Core.inUnits c (q - r) (-1074 - (r + 1074)) = Core.inUnits c q (-1074) * Core.one64 := by
  unfold Core.inUnits Core.one64
  rw [Nat.mul_assoc, ← Nat.pow_add]
  congr 2
  omega
theorem div_le {x y v : UInt64} (hx : Fin64 x) (hy : Fin64 y) (hz : zm y ≠ 0) (hv : NoNaN64 v) (h : zm x * Core.one64 ≤ zm v * zm y) : zm (FP.ddiv x y) ≤ zm v := by
  obtain ⟨s, t, c, d, q, r, e1, e2, hd, e3⟩ := div_shape hx hy hz
  have f1 := Core.val64_fits x; have f2 := Core.val64_fits y
  rw [e1] at f1; rw [e2] at f2
  have q1 := f1.2.1; have r1 := f2.2.1
  rw [Core.qmin_b64] at q1 r1
  unfold zm at h ⊢
  rw [e3]
  rw [e1, e2] at h
  refine Core.zmag_roundRatio_le Core.good_b64 hd (Core.val64_fits v) (nn hv) (e0 := -1074 - (r + 1074)) (by rw [Core.qmin_b64]; omega) (by omega) ?_
  rw [units2 c q r q1 r1, Core.qmin_b64, show (-1074 - (-1074 - (r + 1074))).toNat = (r + 1074).toNat by omega]
  change Core.inUnits c q Core.b64.qmin * _ ≤ _ * Core.inUnits d r Core.b64.qmin at h
  rw [Core.qmin_b64] at h
  refine Nat.le_trans h (Nat.le_of_eq ?_)
  unfold Core.inUnits
  rw [show (r - -1074).toNat = (r + 1074).toNat by omega]
  ac_rfl
theorem div_ge {x y v : UInt64} (hx : Fin64 x) (hy : Fin64 y) (hz : zm y ≠ 0) (h : zm v * zm y ≤ zm x * Core.one64) : zm v ≤ zm (FP.ddiv x y) := by
  obtain ⟨s, t, c, d, q, r, e1, e2, hd, e3⟩ := div_shape hx hy hz
  have f1 := Core.val64_fits x; have f2 := Core.val64_fits y
  rw [e1] at f1; rw [e2] at f2
  have q1 := f1.2.1; have r1 := f2.2.1
  rw [Core.qmin_b64] at q1 r1
  unfold zm at h ⊢
  rw [e3]
  rw [e1, e2] at h
  refine Core.zmag_roundRatio_ge Core.good_b64 hd (Core.val64_fits v) (e0 := -1074 - (r + 1074)) (by rw [Core.qmin_b64]; omega) (by omega) ?_
  rw [units2 c q r q1 r1, Core.qmin_b64, show (-1074 - (-1074 - (r + 1074))).toNat = (r + 1074).toNat by omega]
  change _ * Core.inUnits d r Core.b64.qmin ≤ Core.inUnits c q Core.b64.qmin * _ at h
  rw [Core.qmin_b64] at h
  refine Nat.le_trans (Nat.le_of_eq ?_) h
  unfold Core.inUnits
  rw [show (r - -1074).toNat = (r + 1074).toNat by omega]
  ac_rfl
theorem div_sgn {x y : UInt64} (hx : Fin64 x) (hy : Fin64 y) (hz : zm y ≠ 0) : Core.sgn (Core.val64 (FP.ddiv x y)) = (Core.sgn (Core.val64 x) != Core.sgn (Core.val64 y)) := by
  obtain ⟨s, t, c, d, q, r, e1, e2, hd, e3⟩ := div_shape hx hy hz
  rw [e3, Core.sgn_roundRatio, e1, e2]; rfl
theorem nz_of {y : UInt64} (hy : Fin64 y) (hz : zm y ≠ 0) : Nz64 y := by
  refine nz64_core.mpr fun ⟨s, q, e⟩ => hz ?_
  unfold zm; rw [e]; simp [Core.zmag, Core.inUnits]
theorem div_nn {x y : UInt64} (hx : Fin64 x) (hy : Fin64 y) (hz : zm y ≠ 0) : NoNaN64 (FP.ddiv x y) := ddiv_out hx.noNaN hy (nz_of hy hz)
theorem sgn_pos {x : UInt64} (h : 0 < zv x) : Core.sgn (Core.val64 x) = false := by
  rw [zv_sgn] at h
  cases e : Core.sgn (Core.val64 x)
  · rfl
  · rw [e] at h; simp [Core.signed] at h; omega
theorem zv_of_pos {x : UInt64} (h : Core.sgn (Core.val64 x) = false) : zv x = (zm x : Int) := by rw [zv_sgn, h]; rfl
theorem Is.zm {x : UInt64} {i : Int} {k : Nat} (h : Is x i k) : (OwnFP.zm x : Int) = (i.natAbs : Int) * U k := by
  rw [← zm_abs, h.2, Int.natAbs_mul, Int.natCast_mul, Int.natAbs_of_nonneg (Int.le_of_lt (U_pos k))]
/-- i / 2 ^ j is exact -/
theorem Is.div2 {x y : UInt64} {i : Int} {j : Nat} (hx : Is x i 0) (hy : Is y ((2 ^ j : Nat) : Int) 0) (hj : j ≤ 1074) (hi : i.natAbs < 2 ^ 53) : Is (FP.ddiv x y) i j := by
  obtain ⟨v, hv⟩ := repr i j hj hi
  have p2 := Nat.two_pow_pos j
  have hyz : (OwnFP.zm y : Int) = ((2 ^ j : Nat) : Int) * U 0 := by rw [hy.zm]; simp
  have hz : OwnFP.zm y ≠ 0 := fun h => by
    rw [h] at hyz
    have := Int.mul_pos (Int.natCast_pos.mpr p2) (U_pos 0)
    omega
  have e : OwnFP.zm x * Core.one64 = OwnFP.zm v * OwnFP.zm y := by
    have : ((OwnFP.zm x * Core.one64 : Nat) : Int) = ((OwnFP.zm v * OwnFP.zm y : Nat) : Int) := by
      rw [Int.natCast_mul, Int.natCast_mul, hx.zm, hv.zm, hyz, ← U_zero, U_add (k := 0) (j := j) (by omega), Nat.zero_add]
      ac_rfl
    exact Int.ofNat.inj this
  have em : OwnFP.zm (FP.ddiv x y) = OwnFP.zm v := Nat.le_antisymm (div_le hx.1 hy.1 hz hv.nn (Nat.le_of_eq e)) (div_ge hx.1 hy.1 hz (Nat.le_of_eq e.symm))
  have sy : Core.sgn (Core.val64 y) = false := sgn_pos (by rw [hy.2]; exact Int.mul_pos (Int.natCast_pos.mpr p2) (U_pos 0))
  refine ⟨fin_of (div_nn hx.1 hy.1 hz) hv.1 (Nat.le_of_eq em), ?_⟩
  rw [zv_sgn, div_sgn hx.1 hy.1 hz, sy, em]
  by_cases h0 : i = 0
  · have : OwnFP.zm v = 0 := by have := hv.zm; rw [h0] at this; simp at this; exact this
    rw [this, h0]; simp [Core.signed_zero]
  · have ex : Core.signed (Core.sgn (Core.val64 x)) (OwnFP.zm x) = i * U 0 := hx.2
    have hz2 := hv.zm
    have hzx := hx.zm
    have u0 := U_pos 0; have uj := U_pos j
    cases e : Core.sgn (Core.val64 x)
    · rw [e] at ex
      have : 0 < i := by
        have h1 : (0 : Int) ≤ i * U 0 := by rw [← ex]; simp [Core.signed]
        have h2 : 0 ≤ i := Int.not_lt.mp fun q => by have := Int.mul_neg_of_neg_of_pos q u0; omega
        omega
      show ((OwnFP.zm v : Nat) : Int) = _
      rw [hz2, show ((i.natAbs : Nat) : Int) = i by omega]
    · rw [e] at ex
      have : i < 0 := by
        have h1 : i * U 0 ≤ 0 := by rw [← ex]; simp [Core.signed]
        have h2 : i ≤ 0 := Int.not_lt.mp fun q => by have := Int.mul_pos q u0; omega
        omega
      show -((OwnFP.zm v : Nat) : Int) = _
      rw [hz2, show ((i.natAbs : Nat) : Int) = -i by omega, Int.neg_mul, Int.neg_neg]
theorem abs_le_max {x : UInt64} (h : Fin64 x) : ¬ (0 : Int32) < cmpValue (FP.dcmp (x &&& 0x7fffffffffffffff) (9218868437227405311 : UInt64)) .g := by
  rcases (Core.le_max (noNaN64_no.mp h.noNaN)).mpr (fin64_core.mp h) with q | q
  · rw [show FP.dcmp (x &&& 0x7fffffffffffffff) (9218868437227405311 : UInt64) = some .lt from q]; decide
  · rw [show FP.dcmp (x &&& 0x7fffffffffffffff) (9218868437227405311 : UInt64) = some .eq from q]; decide
/-- equal numbers over one divisor: equal numbers -/
theorem div_congr {x x' y : UInt64} (hx : Fin64 x) (hx' : Fin64 x') (h : zv x = zv x') (hy : Fin64 y) (hz : OwnFP.zm y ≠ 0) : zv (FP.ddiv x y) = zv (FP.ddiv x' y) := by
  by_cases h0 : zv x' = 0
  · have e1 : OwnFP.zm x = 0 := by rw [← zm_abs, h, h0]; rfl
    have e2 : OwnFP.zm x' = 0 := by rw [← zm_abs, h0]; rfl
    have z0 : OwnFP.zm 0 = 0 := by rw [← zm_abs, zv_zero]; rfl
    have d1 := div_le (v := 0) hx hy hz fin_zero.noNaN (by rw [e1]; simp)
    have d2 := div_le (v := 0) hx' hy hz fin_zero.noNaN (by rw [e2]; simp)
    rw [z0] at d1 d2
    rw [zv_sgn, zv_sgn, Nat.le_zero.mp d1, Nat.le_zero.mp d2, Core.signed_zero, Core.signed_zero]
  · have : x = x' := by
      refine Core.eq_bits (fun hz' => h0 hz'.zval) ?_
      have q : Core.dcmp x x' = some (compare (zv x) (zv x')) := Core.dcmp_zval (nn hx.noNaN) (nn hx'.noNaN)
      rw [q, h, Core.compare_self_int]
    rw [this]
end Jvm.OwnFP
namespace Jvm.OwnArr
open Sem ClassFile Op Lib Jvm.Stand Jvm.Free Jvm.LawKit Jvm.RoadKit
theorem lt32 {i n : Nat} (h : i < n) (hn : n ≤ 100000) : Int32.ofNat i < Int32.ofNat n := by
  rw [Int32.lt_iff_toInt_lt, Int32.toInt_ofNat_of_lt (by omega), Int32.toInt_ofNat_of_lt (by omega)]
  omega
theorem nlt32 {i n : Nat} (h : n ≤ i) (hn : i ≤ 100000) : ¬ Int32.ofNat i < Int32.ofNat n := by
  rw [Int32.lt_iff_toInt_lt, Int32.toInt_ofNat_of_lt (by omega), Int32.toInt_ofNat_of_lt (by omega)]
  omega
theorem lt32_iff {i n : Nat} (hi : i ≤ 100000) (hn : n ≤ 100000) : Int32.ofNat i < Int32.ofNat n ↔ i < n := by
  rw [Int32.lt_iff_toInt_lt, Int32.toInt_ofNat_of_lt (by omega), Int32.toInt_ofNat_of_lt (by omega)]
  omega
theorem eq32_iff {i n : Nat} (hi : i ≤ 100000) (hn : n ≤ 100000) : Int32.ofNat i = Int32.ofNat n ↔ i = n := by
  rw [← Int32.toInt_inj, Int32.toInt_ofNat_of_lt (by omega), Int32.toInt_ofNat_of_lt (by omega)]
  omega
theorem nn32 {n : Nat} (hn : n ≤ 100000) : ¬ Int32.ofNat n < 0 := by
  rw [Int32.lt_iff_toInt_lt, Int32.toInt_ofNat_of_lt (by omega), show (0 : Int32).toInt = 0 from rfl]
  omega
theorem n32 {n : Nat} (hn : n ≤ 100000) : (Int32.ofNat n).toNatClampNeg = n := by
  rw [Int32.toNatClampNeg, Int32.toInt_ofNat_of_lt (by omega)]; rfl
theorem one32 (i : Nat) : Int32.ofNat i + (1 : Int32) = Int32.ofNat (i + 1) := (Int32.ofNat_add i 1).symm
/-- an int from 0 on is the Nat of its value -/
theorem of_int {x : Int32} (h : 0 ≤ x.toInt) : x = Int32.ofNat x.toInt.toNat := by
  apply Int32.toInt_inj.mp
  have := x.toInt_lt
  rw [Int32.toInt_ofNat_of_lt (by omega)]
  omega
def vals (f : Nat → Value) (n : Nat) : List Value := (List.range n).map f
theorem vals_len (f : Nat → Value) (n : Nat) : (vals f n).length = n := by simp [vals]
theorem vals_at (f : Nat → Value) {n j : Nat} (h : j < n) (d : Value) : (vals f n).getD j d = f j := by simp [vals, List.getD_eq_getElem?_getD, h]
theorem vals_congr {f g : Nat → Value} {n : Nat} (h : ∀ j, j < n → f j = g j) : vals f n = vals g n := by
  simp only [vals]
  exact List.map_congr_left fun j hj => h j (List.mem_range.mp hj)
theorem vals_set (f : Nat → Value) {n i : Nat} (v : Value) : (vals f n).set i v = vals (fun j => if j = i then v else f j) n := by
  apply List.ext_getElem
  · simp [vals]
  · intro k h1 h2
    simp only [vals, List.getElem_set, List.getElem_map, List.getElem_range]
    by_cases q : i = k
    · rw [if_pos q, if_pos q.symm]
    · rw [if_neg q, if_neg fun z => q z.symm]
theorem vals_const (v : Value) (n : Nat) : vals (fun _ => v) n = List.replicate n v := by
  simp [vals, List.map_const']
end Jvm.OwnArr
namespace Jvm.Pilot.@@N@@
open Jvm Jvm.ClassFile Sem Op Lib Jvm.Free Jvm.Stand Jvm.LawKit Jvm.RoadKit Bundle Jvm.Pilot.@@N@@.Jvm.D
open Jvm.Free.Fl (NoNaN64 Fin64 Nz64)
open Jvm.OwnArr
def own_inf : UInt64 := 9218868437227405312
def own_up {α : Type} (f : Nat → α) (v : Nat) (x : α) : Nat → α := fun j => if j = v then x else f j
def own_LD (f : Nat → UInt64) (n : Nat) : List Value := vals (fun j => .double (f j)) n
def own_LZ (f : Nat → Int32) (n : Nat) : List Value := vals (fun j => .int (f j)) n
def own_LN (f : Nat → Nat) (n : Nat) : List Value := vals (fun j => .int (Int32.ofNat (f j))) n
theorem own_LD_set (f : Nat → UInt64) (n v : Nat) (x : UInt64) : (own_LD f n).set v (.double x) = own_LD (own_up f v x) n := by
  unfold own_LD; rw [vals_set]; refine vals_congr fun j _ => ?_
  unfold own_up; by_cases q : j = v
  · rw [if_pos q, if_pos q]
  · rw [if_neg q, if_neg q]
theorem own_LZ_set (f : Nat → Int32) (n v : Nat) (x : Int32) : (own_LZ f n).set v (.int x) = own_LZ (own_up f v x) n := by
  unfold own_LZ; rw [vals_set]; refine vals_congr fun j _ => ?_
  unfold own_up; by_cases q : j = v
  · rw [if_pos q, if_pos q]
  · rw [if_neg q, if_neg q]
theorem own_LN_set (f : Nat → Nat) (n v : Nat) (x : Nat) : (own_LN f n).set v (.int (Int32.ofNat x)) = own_LN (own_up f v x) n := by
  unfold own_LN; rw [vals_set]; refine vals_congr fun j _ => ?_
  unfold own_up; by_cases q : j = v
  · rw [if_pos q, if_pos q]
  · rw [if_neg q, if_neg q]
theorem own_LD_at (f : Nat → UInt64) {n j : Nat} (h : j < n) (d : Value) : (own_LD f n).getD j d = .double (f j) := vals_at _ h d
theorem own_LZ_at (f : Nat → Int32) {n j : Nat} (h : j < n) (d : Value) : (own_LZ f n).getD j d = .int (f j) := vals_at _ h d
theorem own_LN_at (f : Nat → Nat) {n j : Nat} (h : j < n) (d : Value) : (own_LN f n).getD j d = .int (Int32.ofNat (f j)) := vals_at _ h d
theorem own_LD_len (f : Nat → UInt64) (n : Nat) : (own_LD f n).length = n := vals_len _ _
theorem own_LZ_len (f : Nat → Int32) (n : Nat) : (own_LZ f n).length = n := vals_len _ _
theorem own_LN_len (f : Nat → Nat) (n : Nat) : (own_LN f n).length = n := vals_len _ _
theorem own_padv (d : Value) (n i : Nat) : (vals (fun _ => d) n).getD i d = ([] : List Value).getD i d := by
  by_cases h : i < n
  · rw [vals_at _ h]; simp
  · simp [vals, List.getD_eq_getElem?_getD, h]
theorem own_infnn : NoNaN64 own_inf := by unfold NoNaN64 own_inf; decide
theorem own_infz : ¬ FP.Core.DZero own_inf := by rw [FP.Core.zero_bits2]; decide
theorem own_infeq {x : UInt64} (h : cmpValue (FP.dcmp x own_inf) .l = 0) : x = own_inf := by
  refine FP.Core.eq_bits own_infz ?_
  show FP.dcmp x own_inf = some .eq
  rw [cmpV_l] at h
  cases q : FP.dcmp x own_inf with
  | none => rw [q] at h; exact absurd h (by decide)
  | some o => rw [q] at h; cases o <;> first | rfl | exact absurd h (by decide)
theorem own_infne {x : UInt64} (h : ¬ cmpValue (FP.dcmp x own_inf) .l = 0) : x ≠ own_inf := fun q => h (by rw [q]; exact dcmpV_self own_infnn .l)
/-- how many j below n meet P -/
def own_cnt (P : Nat → Prop) [DecidablePred P] : Nat → Nat
  | 0 => 0
  | n + 1 => own_cnt P n + if P n then 1 else 0
theorem own_cnt_le (P : Nat → Prop) [DecidablePred P] (n : Nat) : own_cnt P n ≤ n := by
  induction n with
  | zero => exact Nat.le_refl _
  | succ n ih => unfold own_cnt; split <;> omega
theorem own_cnt_lt (P : Nat → Prop) [DecidablePred P] {n v : Nat} (h : v < n) (hv : ¬ P v) : own_cnt P n < n := by
  induction n with
  | zero => omega
  | succ n ih =>
    unfold own_cnt
    by_cases q : v = n
    · subst q; rw [if_neg hv]; have := own_cnt_le P v; omega
    · have := ih (by omega); split <;> omega
theorem own_cnt_congr (P Q : Nat → Prop) [DecidablePred P] [DecidablePred Q] {n : Nat} (h : ∀ j, j < n → (P j ↔ Q j)) : own_cnt P n = own_cnt Q n := by
  induction n with
  | zero => rfl
  | succ n ih =>
    unfold own_cnt
    rw [ih fun j hj => h j (by omega)]
    have := h n (by omega)
    by_cases q : P n
    · rw [if_pos q, if_pos (this.mp q)]
    · rw [if_neg q, if_neg fun z => q (this.mpr z)]
theorem own_cnt_up (P Q : Nat → Prop) [DecidablePred P] [DecidablePred Q] {n v : Nat} (hv : v < n) (h1 : ¬ P v) (h2 : Q v) (h : ∀ j, j < n → j ≠ v → (P j ↔ Q j)) : own_cnt Q n = own_cnt P n + 1 := by
  induction n with
  | zero => omega
  | succ n ih =>
    unfold own_cnt
    by_cases q : v = n
    · subst q
      rw [if_neg h1, if_pos h2, own_cnt_congr P Q fun j hj => h j (by omega) (by omega)]
    · have e := ih (by omega) fun j hj hne => h j (by omega) hne
      have := h n (by omega) (by omega)
      by_cases z : P n
      · rw [if_pos z, if_pos (this.mp z)]; omega
      · rw [if_neg z, if_neg fun y => z (this.mpr y)]; omega
/-- the store is well formed -/
def own_WF (n : Nat) (dist : Nat → UInt64) (st : Nat → Int32) (rch : Nat → Nat) (rc : Nat) (opn : Nat → Nat) (oc : Nat) : Prop :=
  rc = own_cnt (fun j => dist j ≠ own_inf) n ∧ oc ≤ rc ∧ (∀ r, r < rc → rch r < n) ∧ (∀ k, k < oc → opn k < n ∧ dist (opn k) ≠ own_inf) ∧ (∀ j, j < n → dist j ≠ own_inf → ∃ r, r < rc ∧ rch r = j) ∧ (∀ j, j < n → st j ≠ 0 → dist j ≠ own_inf) ∧ (∀ j, j < n → NoNaN64 (dist j))
def own_RR (v : Nat) (d : UInt64) (dist : Nat → UInt64) (st : Nat → Int32) (rch : Nat → Nat) (rc : Nat) (opn : Nat → Nat) (oc : Nat) (dist2 : Nat → UInt64) (rch2 : Nat → Nat) (rc2 : Nat) (opn2 : Nat → Nat) (oc2 : Nat) : Prop :=
  (st v ≠ 0 ∧ dist2 = dist ∧ rch2 = rch ∧ rc2 = rc ∧ opn2 = opn ∧ oc2 = oc) ∨
  (st v = 0 ∧ dist v = own_inf ∧ dist2 = own_up dist v d ∧ rch2 = own_up rch rc v ∧ rc2 = rc + 1 ∧ opn2 = own_up opn oc v ∧ oc2 = oc + 1) ∨
  (st v = 0 ∧ dist v ≠ own_inf ∧ cmpValue (FP.dcmp d (dist v)) .g < 0 ∧ dist2 = own_up dist v d ∧ rch2 = rch ∧ rc2 = rc ∧ opn2 = opn ∧ oc2 = oc) ∨
  (st v = 0 ∧ dist v ≠ own_inf ∧ ¬ (cmpValue (FP.dcmp d (dist v)) .g < 0) ∧ dist2 = dist ∧ rch2 = rch ∧ rc2 = rc ∧ opn2 = opn ∧ oc2 = oc)
theorem own_up_eq {α : Type} (f : Nat → α) (v : Nat) (x : α) : own_up f v x v = x := if_pos rfl
theorem own_up_ne {α : Type} (f : Nat → α) {v j : Nat} (x : α) (h : j ≠ v) : own_up f v x j = f j := if_neg h
theorem own_finne {d : UInt64} (h : Fin64 d) : d ≠ own_inf := fun q => by rw [q] at h; unfold Fin64 own_inf at h; exact absurd h (by decide)
theorem own_WF_fresh {n : Nat} {dist : Nat → UInt64} {st : Nat → Int32} {rch : Nat → Nat} {rc : Nat} {opn : Nat → Nat} {oc v : Nat} (W : own_WF n dist st rch rc opn oc) (hv : v < n) (h : dist v = own_inf) : rc < n ∧ oc < n := by
  have := own_cnt_lt (fun j => dist j ≠ own_inf) hv (fun q => q h)
  have h1 := W.1; have h2 := W.2.1
  omega
theorem own_WF_reach {n : Nat} {dist : Nat → UInt64} {st : Nat → Int32} {rch : Nat → Nat} {rc : Nat} {opn : Nat → Nat} {oc v : Nat} {d : UInt64} {dist2 : Nat → UInt64} {rch2 : Nat → Nat} {rc2 : Nat} {opn2 : Nat → Nat} {oc2 : Nat} (W : own_WF n dist st rch rc opn oc) (hv : v < n) (hd : Fin64 d) (h : own_RR v d dist st rch rc opn oc dist2 rch2 rc2 opn2 oc2) : own_WF n dist2 st rch2 rc2 opn2 oc2 := by
  obtain ⟨w1, w2, w3, w4, w5, w6, w7⟩ := W
  have hdi := own_finne hd
  rcases h with ⟨-, e1, e2, e3, e4, e5⟩ | ⟨h0, hi, e1, e2, e3, e4, e5⟩ | ⟨h0, hi, -, e1, e2, e3, e4, e5⟩ | ⟨-, -, -, e1, e2, e3, e4, e5⟩ <;> rw [e1, e2, e3, e4, e5]
  · exact ⟨w1, w2, w3, w4, w5, w6, w7⟩
  · refine ⟨?_, by omega, ?_, ?_, ?_, ?_, ?_⟩
    · rw [w1]
      exact (own_cnt_up (fun j => dist j ≠ own_inf) (fun j => own_up dist v d j ≠ own_inf) hv (fun q => q hi) (by rw [own_up_eq]; exact hdi) fun j _ hne => by rw [own_up_ne _ _ hne]).symm
    · intro r hr
      by_cases q : r = rc
      · rw [q, own_up_eq]; exact hv
      · rw [own_up_ne _ _ q]; exact w3 r (by omega)
    · intro k hk
      by_cases q : k = oc
      · rw [q, own_up_eq, own_up_eq]; exact ⟨hv, hdi⟩
      · rw [own_up_ne _ _ q]
        obtain ⟨a1, a2⟩ := w4 k (by omega)
        refine ⟨a1, ?_⟩
        by_cases z : opn k = v
        · rw [z, own_up_eq]; exact hdi
        · rw [own_up_ne _ _ z]; exact a2
    · intro j hj hne
      by_cases q : j = v
      · exact ⟨rc, by omega, by rw [own_up_eq, q]⟩
      · rw [own_up_ne _ _ q] at hne
        obtain ⟨r, hr, e⟩ := w5 j hj hne
        exact ⟨r, by omega, by rw [own_up_ne _ _ (by omega)]; exact e⟩
    · intro j hj hs
      by_cases q : j = v
      · rw [q] at hs; exact absurd h0 hs
      · rw [own_up_ne _ _ q]; exact w6 j hj hs
    · intro j hj
      by_cases q : j = v
      · rw [q, own_up_eq]; exact hd.noNaN
      · rw [own_up_ne _ _ q]; exact w7 j hj
  · refine ⟨?_, w2, w3, ?_, ?_, ?_, ?_⟩
    · rw [w1]
      refine own_cnt_congr (fun j => dist j ≠ own_inf) (fun j => own_up dist v d j ≠ own_inf) fun j _ => ?_
      by_cases q : j = v
      · rw [q, own_up_eq]; exact ⟨fun _ => hdi, fun _ => hi⟩
      · rw [own_up_ne _ _ q]
    · intro k hk
      obtain ⟨a1, a2⟩ := w4 k hk
      refine ⟨a1, ?_⟩
      by_cases z : opn k = v
      · rw [z, own_up_eq]; exact hdi
      · rw [own_up_ne _ _ z]; exact a2
    · intro j hj hne
      by_cases q : j = v
      · exact w5 j hj (q ▸ hi)
      · rw [own_up_ne _ _ q] at hne; exact w5 j hj hne
    · intro j hj hs
      by_cases q : j = v
      · rw [q, own_up_eq]; exact hdi
      · rw [own_up_ne _ _ q]; exact w6 j hj hs
    · intro j hj
      by_cases q : j = v
      · rw [q, own_up_eq]; exact hd.noNaN
      · rw [own_up_ne _ _ q]; exact w7 j hj
  · exact ⟨w1, w2, w3, w4, w5, w6, w7⟩
theorem own_WF_start (n : Nat) : own_WF n (fun _ => own_inf) (fun _ => 0) (fun _ => 0) 0 (fun _ => 0) 0 := by
  refine ⟨?_, Nat.le_refl _, fun r h => by omega, fun k h => by omega, fun j _ h => absurd rfl h, fun j _ h => absurd rfl h, fun _ _ => own_infnn⟩
  induction n with
  | zero => rfl
  | succ n ih => unfold own_cnt; rw [← ih]; simp
/-- settleNearest: near lies in the first oc of the open ones, and none of them is nearer -/
def own_near (dist : Nat → UInt64) (opn : Nat → Nat) (k near : Nat) : Prop := near < k ∧ ∀ j, j < k → ¬ (cmpValue (FP.dcmp (dist (opn j)) (dist (opn near))) .g < 0)
theorem own_near_zv {x y : UInt64} (hx : NoNaN64 x) (hy : NoNaN64 y) : cmpValue (FP.dcmp x y) .g < 0 ↔ OwnFP.zv x < OwnFP.zv y := by
  rw [OwnFP.cv hx hy]
  by_cases h : OwnFP.zv x < OwnFP.zv y
  · rw [if_pos h]; exact ⟨fun _ => h, fun _ => by decide⟩
  · rw [if_neg h]
    refine ⟨fun q => ?_, fun q => absurd q h⟩
    split at q <;> exact absurd q (by decide)
theorem own_WF_settle {n : Nat} {dist : Nat → UInt64} {st : Nat → Int32} {rch : Nat → Nat} {rc : Nat} {opn : Nat → Nat} {oc near : Nat} (W : own_WF n dist st rch rc opn oc) (h : near < oc) : own_WF n dist (own_up st (opn near) 1) rch rc (own_up opn near (opn (oc - 1))) (oc - 1) := by
  obtain ⟨w1, w2, w3, w4, w5, w6, w7⟩ := W
  refine ⟨w1, by omega, w3, ?_, w5, ?_, w7⟩
  · intro k hk
    by_cases q : k = near
    · rw [q, own_up_eq]; exact w4 _ (by omega)
    · rw [own_up_ne _ _ q]; exact w4 k (by omega)
  · intro j hj hs
    by_cases q : j = opn near
    · rw [q]; exact (w4 near h).2
    · rw [own_up_ne _ _ q] at hs; exact w6 j hj hs
/-- reset: what is reached is cleared -/
def own_clr {α : Type} (x : α) (rch : Nat → Nat) : Nat → (Nat → α) → (Nat → α)
  | 0, f => f
  | i + 1, f => own_up (own_clr x rch i f) (rch i) x
theorem own_clr_hit {α : Type} (x : α) (rch : Nat → Nat) (f : Nat → α) {i r : Nat} (h : r < i) : own_clr x rch i f (rch r) = x := by
  induction i with
  | zero => omega
  | succ i ih =>
    unfold own_clr
    by_cases q : rch r = rch i
    · rw [q, own_up_eq]
    · rw [own_up_ne _ _ q]; exact ih (by
        have : r ≠ i := fun z => q (by rw [z])
        omega)
theorem own_clr_miss {α : Type} (x : α) (rch : Nat → Nat) (f : Nat → α) {i j : Nat} (h : f j = x) : own_clr x rch i f j = x := by
  induction i with
  | zero => exact h
  | succ i ih =>
    unfold own_clr
    by_cases q : j = rch i
    · rw [q, own_up_eq]
    · rw [own_up_ne _ _ q]; exact ih
theorem own_WF_resetD {n : Nat} {dist : Nat → UInt64} {st : Nat → Int32} {rch : Nat → Nat} {rc : Nat} {opn : Nat → Nat} {oc : Nat} (W : own_WF n dist st rch rc opn oc) : ∀ j, j < n → own_clr own_inf rch rc dist j = own_inf := by
  obtain ⟨w1, w2, w3, w4, w5, w6, w7⟩ := W
  intro j hj
  by_cases q : dist j = own_inf
  · exact own_clr_miss _ _ _ q
  · obtain ⟨r, hr, rfl⟩ := w5 j hj q
    exact own_clr_hit _ _ _ hr
theorem own_WF_resetZ {n : Nat} {dist : Nat → UInt64} {st : Nat → Int32} {rch : Nat → Nat} {rc : Nat} {opn : Nat → Nat} {oc : Nat} (W : own_WF n dist st rch rc opn oc) : ∀ j, j < n → own_clr 0 rch rc st j = 0 := by
  obtain ⟨w1, w2, w3, w4, w5, w6, w7⟩ := W
  intro j hj
  by_cases q : st j = 0
  · exact own_clr_miss _ _ _ q
  · obtain ⟨r, hr, rfl⟩ := w5 j hj (w6 j hj q)
    exact own_clr_hit _ _ _ hr
theorem own_LD_congr {f g : Nat → UInt64} {n : Nat} (h : ∀ j, j < n → f j = g j) : own_LD f n = own_LD g n := vals_congr fun j hj => by rw [h j hj]
theorem own_LZ_congr {f g : Nat → Int32} {n : Nat} (h : ∀ j, j < n → f j = g j) : own_LZ f n = own_LZ g n := vals_congr fun j hj => by rw [h j hj]
theorem ef_isfin (m : MethodId) (d1 : UInt64) : entryFrame m #[(.double d1)] 2 = mkF m 0 #[.val (.double d1), .second] [] := by first | (simp [entryFrame, mkF, argsToLocals, Value.category]; done) | rfl
theorem d8_0 : decode jdk_117_method_8_code 0 = .ok (.dload_n 0, 1) := by decide +kernel
theorem d8_1 : decode jdk_117_method_8_code 1 = .ok (.invokestatic 38, 3) := by decide +kernel
theorem pd__28D_29D : parseMethodDescriptor "(D)D" = some ⟨[.double], some .double⟩ := by decide +kernel
theorem d8_4 : decode jdk_117_method_8_code 4 = .ok (.ldc2_w 111, 3) := by decide +kernel
theorem d8_7 : decode jdk_117_method_8_code 7 = .ok (.dcmp .g, 1) := by decide +kernel
theorem d8_8 : decode jdk_117_method_8_code 8 = .ok (.ifCond .gt 7, 3) := by decide +kernel
theorem d8_11 : decode jdk_117_method_8_code 11 = .ok (.iconst 1, 1) := by decide +kernel
theorem d8_12 : decode jdk_117_method_8_code 12 = .ok (.goto 4, 3) := by decide +kernel
theorem d8_16 : decode jdk_117_method_8_code 16 = .ok (.ireturn, 1) := by decide +kernel
theorem pn_java_lang_Double : plainName "java/lang/Double" = true := by first | (simp [plainName, overriddenIn]; done) | decide +kernel
def Qisfin (Z : State) (d1 : UInt64) (h0 : Heap) (n0 : Nat) (v : Option Value) (h : Heap) (L : List Loc) : Prop := v = some (.int (1 : Int32)) ∧ Fr n0 L ∧ h = h0
set_option maxRecDepth 65536 in
set_option maxHeartbeats 40000000 in
theorem rmisfin (l : Launch) (Z : State) (a0 : Array Value) (hw : ∀ d ∈ tables_1, d.before a0 Z = true) (ws : List Jvm.Cond) (d1 : UInt64) (h0 : Heap) (n0 : Nat) (Z0 : n0 ≤ h0.size) (hfin : Fin64 d1) :
    MetFree l (⟨"java/lang/Double", "isFinite", "(D)Z"⟩ : MethodName) (head1 (Jvm.Cond.code (⟨"java/lang/Double", "isFinite", "(D)Z"⟩ : MethodName) jdk_117_method_8_code 2 (some .boolean) :: ws) ({ frames := 1, cells := 0, slots := 0, locals := 13 } : Room)) (fun a U => a = #[(.double d1)] ∧ Z.Warmed39 U.vm ∧ U.heap = h0) (fun _ _ _ _ _ => True) (fun _ U o U' => ∃ v L, o = .returned v ∧ Qisfin Z d1 h0 n0 v U'.heap L ∧ FrameEnd U o U' L ({ frames := 1, cells := 0, slots := 0, locals := 13 } : Room).cells ({ frames := 1, cells := 0, slots := 0, locals := 13 } : Room).slots) := by
  refine MetFree.of_bodySF (plainFor_of_name pn_java_lang_Double) hisR ?_
  intro p e s m args below meth c s₁ Bd hml0 hP hK
  obtain ⟨rfl, hZ, hh⟩ := hP
  have hx := Bd.exec
  have hby := Bd.bytes
  have hml : c.maxLocals = 2 := hml0
  have hown : s.vm.findClass "java/lang/Double" = some m.cls := findClass_of_methodNamed Bd.named
  have hnm := (name_of_methodNamed Bd.named Bd.method).1
  have X0 : Stand p l e ({ frames := 1, cells := 0, slots := 0, locals := 13 } : Room) s m #[(.double d1)] below meth c s₁ [] 0 0 := Stand.of_body Bd
  have e0 : s₁.heap = h0 := by rw [← hh, Bd.state]; rfl
  have N0 := Fr.nil n0
  have pre0 : ∀ t_, Steps p.tables e below (s₁.setTop (mkF m 0 #[.val (.double d1), .second] [])) t_ → Steps p.tables e below (s₁.setTop (entryFrame m #[(.double d1)] 2)) t_ := fun t_ k => castTop (ef_isfin m d1) k
  obtain ⟨T101, X101, e101, st101⟩ := natS X0 hx hZ hown (hw _ (List.mem_of_getElem? (i := 53) rfl)) (hw _ (List.mem_of_getElem? (i := 54) rfl)) (hw _ (List.mem_of_getElem? (i := 55) rfl)) (hw _ (List.mem_of_getElem? (i := 56) rfl)) (by decide) e0 (W := 0) (F := fun a' => a' = #[(.double d1)] ∧ NoNaN64 d1) (val' := (.double (d1 &&& 0x7fffffffffffffff))) (fun hc => Jvm.Free.Fl.Abs.absD_pays d1 hc (by decide) (by decide)) (g := (mkF m 1 #[.val (.double d1), .second] [(.double d1)])) rfl (by rw [hml]; rfl) (argsL := [(.double d1)]) (rest := []) (lenOf pd__28D_29D rfl) rfl (by show 2 * 0 + _ ≤ _; exact Nat.le_of_eq rfl) (hb hby d8_1) (by decide) (by decide) ⟨rfl, hfin.noNaN⟩ rfl
  have pre102 : ∀ t_, Steps p.tables e below (T101.setTop (mkF m 16 #[.val (.double d1), .second] [(.int (1 : Int32))])) t_ → Steps p.tables e below (s₁.setTop (entryFrame m #[(.double d1)] 2)) t_ := fun t_ kt => pre0 t_ (by
      show Steps p.tables e below (s₁.setTop (mkF m 0 #[.val (.double d1), .second] [])) _
      refine XS.dloadN X0.here hx rfl (hb hby d8_0) rfl ?_
      show Steps p.tables e below (s₁.setTop (mkF m 1 #[.val (.double d1), .second] [(.double d1)])) _
      refine st101 _ ?_
      show Steps p.tables e below (T101.setTop (mkF m 4 #[.val (.double d1), .second] [(.double (d1 &&& 0x7fffffffffffffff))])) _
      refine X101.ldc2DoubleC hx hown (mvT hZ (hw _ (List.mem_of_getElem? (i := 57) rfl))) (g := (mkF m 4 #[.val (.double d1), .second] [(.double (d1 &&& 0x7fffffffffffffff))])) rfl (hb hby d8_4) _ ?_
      show Steps p.tables e below (T101.setTop (mkF m 7 #[.val (.double d1), .second] [(.double (9218868437227405311 : UInt64)), (.double (d1 &&& 0x7fffffffffffffff))])) _
      refine XS.dcmpS X101.here hx rfl (hb hby d8_7) rfl (v := (cmpValue (FP.dcmp (d1 &&& 0x7fffffffffffffff) (9218868437227405311 : UInt64)) .g)) rfl ?_
      show Steps p.tables e below (T101.setTop (mkF m 8 #[.val (.double d1), .second] [(.int (cmpValue (FP.dcmp (d1 &&& 0x7fffffffffffffff) (9218868437227405311 : UInt64)) .g))])) _
      refine XS.ifNo X101.here hx rfl (hb hby d8_8) rfl ((if0 _ _).trans (flt (OwnFP.abs_le_max hfin : ¬ ((0 : Int32) < (cmpValue (FP.dcmp (d1 &&& 0x7fffffffffffffff) (9218868437227405311 : UInt64)) .g)))).2.2.1) ?_
      show Steps p.tables e below (T101.setTop (mkF m 11 #[.val (.double d1), .second] [])) _
      refine XS.iconst X101.here hx rfl (hb hby d8_11) ?_
      show Steps p.tables e below (T101.setTop (mkF m 12 #[.val (.double d1), .second] [(.int (1 : Int32))])) _
      refine XS.goto X101.here hx rfl (pc0 := 12) (pc' := 16) rfl (hb hby d8_12) (by decide) (by decide) ?_
      exact kt)
  obtain ⟨fs, hr, hrun, hended, hW, hsame⟩ := X101.leave (v := some (.int (1 : Int32))) (fun h => by rw [Bd.returns] at h; cases h)
  refine ⟨_, _, pre102 _ ?_, hrun, hended, _, _, rfl, ?_, ⟨_, rfl⟩, hW, hsame.mono (by decide) (by decide)⟩
  · show Steps p.tables e below (T101.setTop (mkF m 16 #[.val (.double d1), .second] [(.int (1 : Int32))])) _
    exact retN X101 hx (t := .boolean) Bd.returns (by simp) (hb hby d8_16) hr
  · show Qisfin Z d1 h0 n0 _ T101.heap _
    rw [e101]
    exact ⟨rfl, N0, rfl⟩
def own_fl (d : UInt64) (i j : Nat) : Value := if j < i then .double d else .double 0
theorem own_fl_step (d : UInt64) (i n : Nat) : (OwnArr.vals (own_fl d i) n).set i (.double d) = OwnArr.vals (own_fl d (i + 1)) n := by
  rw [OwnArr.vals_set]
  refine OwnArr.vals_congr fun j _ => ?_
  unfold own_fl
  by_cases q : j = i
  · rw [if_pos q, if_pos (by omega)]
  · rw [if_neg q]
    by_cases z : j < i
    · rw [if_pos z, if_pos (by omega)]
    · rw [if_neg z, if_neg (by omega)]
theorem own_fl_end (d : UInt64) (n : Nat) : OwnArr.vals (own_fl d n) n = OwnArr.vals (fun _ => .double d) n := OwnArr.vals_congr fun j h => if_pos h
theorem own_fl_start (d : UInt64) (n : Nat) : OwnArr.vals (own_fl d 0) n = OwnArr.vals (fun _ => .double 0) n := OwnArr.vals_congr fun j h => if_neg (by omega)
theorem d3_6 : decode jdk_65_method_113_code 6 = .ok (.iload_n 3, 1) := by decide +kernel
theorem d3_7 : decode jdk_65_method_113_code 7 = .ok (.iload 4, 2) := by decide +kernel
theorem d3_9 : decode jdk_65_method_113_code 9 = .ok (.if_icmp .ge 13, 3) := by decide +kernel
theorem d3_12 : decode jdk_65_method_113_code 12 = .ok (.aload_n 0, 1) := by decide +kernel
theorem d3_13 : decode jdk_65_method_113_code 13 = .ok (.iload_n 3, 1) := by decide +kernel
theorem d3_14 : decode jdk_65_method_113_code 14 = .ok (.dload_n 1, 1) := by decide +kernel
theorem d3_15 : decode jdk_65_method_113_code 15 = .ok (.dastore, 1) := by decide +kernel
theorem d3_16 : decode jdk_65_method_113_code 16 = .ok (.iinc 3 1, 3) := by decide +kernel
theorem d3_19 : decode jdk_65_method_113_code 19 = .ok (.goto (-13), 3) := by decide +kernel
set_option maxRecDepth 65536 in
set_option maxHeartbeats 40000000 in
theorem own_fill_t {p : Program} {l : Launch} {e : Env} {R : Room} {s : State} {m : MethodId} {args : Array Value} {below : List Frame} {meth : Method} {c : Code} {cells slots : Nat} {Z : State} {a0 : Array Value} {n0 : Nat} {T0 : State} {locs : List Loc} {h0 : Heap} (a1 : Addr) (d1 : UInt64) (kk : ClassId) (n : Nat) (i : Nat) (X0 : Stand p l e R s m args below meth c T0 locs cells slots) (hx : p.tables.exec = Jvm.exec) (hZ : Z.Warmed39 s.vm) (hw : ∀ d ∈ tables_1, d.before a0 Z = true) (hby : c.code = jdk_65_method_113_code) (hml : c.maxLocals = 5) (hown : s.vm.findClass "java/util/Arrays" = some m.cls) (e0 : T0.heap = h0) (N0 : Fr n0 locs) (Z0 : n0 ≤ h0.size) (hRf : 0 ≤ R.frames) (hRl : 0 ≤ R.locals) (hRc : cells + 0 ≤ R.cells) (hRs : slots + 0 ≤ R.slots) (P_V_a1 : Arv Z h0 a1 kk .double (Int32.ofNat n) (OwnArr.vals (own_fl d1 i) n) (.double (0 : UInt64))) (P_G_a1 : n0 ≤ a1) (hn_ : n ≤ 1000) (hi_ : i < n) :
    ∃ (T' : State) (h' : Heap) (locs' : List Loc), Stand p l e R s m args below meth c T' locs' cells slots ∧ T'.heap = h' ∧ Fr n0 locs' ∧ Keep h0 h' [a1] ∧ (Arv Z h' a1 kk .double (Int32.ofNat n) (OwnArr.vals (own_fl d1 (i + 1)) n) (.double (0 : UInt64))) ∧ ∀ t_, Steps p.tables e below (T'.setTop (mkF m 6 #[.val (.ref a1), .val (.double d1), .second, .val (.int (Int32.ofNat (i + 1))), .val (.int (Int32.ofNat n))] [])) t_ → Steps p.tables e below (T0.setTop (mkF m 6 #[.val (.ref a1), .val (.double d1), .second, .val (.int (Int32.ofNat i)), .val (.int (Int32.ofNat n))] [])) t_ := by
  have pre0 : ∀ t_, Steps p.tables e below (T0.setTop (mkF m 6 #[.val (.ref a1), .val (.double d1), .second, .val (.int (Int32.ofNat i)), .val (.int (Int32.ofNat n))] [])) t_ → Steps p.tables e below (T0.setTop (mkF m 6 #[.val (.ref a1), .val (.double d1), .second, .val (.int (Int32.ofNat i)), .val (.int (Int32.ofNat n))] [])) t_ := fun _ k => k
  obtain ⟨cl101, Ar101, Q101, S101, M101, H101, G101⟩ := id P_V_a1
  have in102 : ¬ ((Int32.ofNat i) < 0 ∨ cl101.slots.size ≤ ((Int32.ofNat i)).toNatClampNeg) := inb_of S101 ⟨OwnArr.nn32 (by omega), OwnArr.lt32 hi_ (by omega)⟩
  obtain ⟨T103, h103, X103, e103, W103, st103⟩ := stD X0 hx hZ e0 Ar101 (j := (Int32.ofNat i)) in102 (g := (mkF m 15 #[.val (.ref a1), .val (.double d1), .second, .val (.int (Int32.ofNat i)), .val (.int (Int32.ofNat n))] [(.double d1), (.int (Int32.ofNat i)), (.ref a1)])) rfl rfl (hb hby d3_15)
  have z104 : n0 ≤ h103.size := Nat.le_trans Z0 (Keep.of_wr W103).1
  have k105 : Keep h0 h103 [a1] := (Keep.refl h0 [a1]).wr W103 (Or.inl (List.mem_of_getElem? (i := 0) rfl))
  have V103 : Arv Z h103 a1 kk .double (Int32.ofNat n) (OwnArr.vals (own_fl d1 (i + 1)) n) (.double (0 : UInt64)) := own_fl_step d1 i n ▸ Arv.set Ar101 Q101 S101 M101 H101 G101 rfl W103 i (OwnArr.n32 (by omega)) (by rw [OwnArr.vals_len]; exact hi_)
  have N103 : Fr n0 _ := Fr.snoc X103 N0 P_G_a1
  have pre106 : ∀ t_, Steps p.tables e below (T103.setTop (mkF m 6 #[.val (.ref a1), .val (.double d1), .second, .val (.int (Int32.ofNat (i + 1))), .val (.int (Int32.ofNat n))] [])) t_ → Steps p.tables e below (T0.setTop (mkF m 6 #[.val (.ref a1), .val (.double d1), .second, .val (.int (Int32.ofNat i)), .val (.int (Int32.ofNat n))] [])) t_ := fun t_ kt => pre0 t_ (by
      show Steps p.tables e below (T0.setTop (mkF m 6 #[.val (.ref a1), .val (.double d1), .second, .val (.int (Int32.ofNat i)), .val (.int (Int32.ofNat n))] [])) _
      refine XS.iloadN X0.here hx rfl (hb hby d3_6) rfl ?_
      show Steps p.tables e below (T0.setTop (mkF m 7 #[.val (.ref a1), .val (.double d1), .second, .val (.int (Int32.ofNat i)), .val (.int (Int32.ofNat n))] [(.int (Int32.ofNat i))])) _
      refine XS.iload X0.here hx rfl (hb hby d3_7) rfl ?_
      show Steps p.tables e below (T0.setTop (mkF m 9 #[.val (.ref a1), .val (.double d1), .second, .val (.int (Int32.ofNat i)), .val (.int (Int32.ofNat n))] [(.int (Int32.ofNat n)), (.int (Int32.ofNat i))])) _
      refine XS.icmpNo X0.here hx rfl (hb hby d3_9) rfl (tlt (OwnArr.lt32 hi_ (by omega) : (Int32.ofNat i) < (Int32.ofNat n))).2.1 ?_
      show Steps p.tables e below (T0.setTop (mkF m 12 #[.val (.ref a1), .val (.double d1), .second, .val (.int (Int32.ofNat i)), .val (.int (Int32.ofNat n))] [])) _
      refine XS.aloadN X0.here hx rfl (hb hby d3_12) rfl rfl ?_
      show Steps p.tables e below (T0.setTop (mkF m 13 #[.val (.ref a1), .val (.double d1), .second, .val (.int (Int32.ofNat i)), .val (.int (Int32.ofNat n))] [(.ref a1)])) _
      refine XS.iloadN X0.here hx rfl (hb hby d3_13) rfl ?_
      show Steps p.tables e below (T0.setTop (mkF m 14 #[.val (.ref a1), .val (.double d1), .second, .val (.int (Int32.ofNat i)), .val (.int (Int32.ofNat n))] [(.int (Int32.ofNat i)), (.ref a1)])) _
      refine XS.dloadN X0.here hx rfl (hb hby d3_14) rfl ?_
      show Steps p.tables e below (T0.setTop (mkF m 15 #[.val (.ref a1), .val (.double d1), .second, .val (.int (Int32.ofNat i)), .val (.int (Int32.ofNat n))] [(.double d1), (.int (Int32.ofNat i)), (.ref a1)])) _
      refine st103 _ ?_
      show Steps p.tables e below (T103.setTop (mkF m 16 #[.val (.ref a1), .val (.double d1), .second, .val (.int (Int32.ofNat i)), .val (.int (Int32.ofNat n))] [])) _
      refine XS.iinc X103.here hx rfl (hb hby d3_16) rfl (l' := #[.val (.ref a1), .val (.double d1), .second, .val (.int ((Int32.ofNat i) + (1 : Int32))), .val (.int (Int32.ofNat n))]) rfl ?_
      show Steps p.tables e below (T103.setTop (mkF m 19 #[.val (.ref a1), .val (.double d1), .second, .val (.int ((Int32.ofNat i) + (1 : Int32))), .val (.int (Int32.ofNat n))] [])) _
      rw [OwnArr.one32 i]
      show Steps p.tables e below (T103.setTop (mkF m 19 #[.val (.ref a1), .val (.double d1), .second, .val (.int (Int32.ofNat (i + 1))), .val (.int (Int32.ofNat n))] [])) _
      refine XS.goto X103.here hx rfl (pc0 := 19) (pc' := 6) rfl (hb hby d3_19) (by decide) (by decide) ?_
      exact kt)
  exact ⟨T103, h103, _, X103, e103, N103, k105, V103, fun t_ kt => pre106 t_ kt⟩
set_option maxRecDepth 65536 in
set_option maxHeartbeats 4000000 in
theorem own_fill_l {p : Program} {l : Launch} {e : Env} {R : Room} {s : State} {m : MethodId} {args : Array Value} {below : List Frame} {meth : Method} {c : Code} {cells slots : Nat} {Z : State} {a0 : Array Value} {n0 : Nat} (a1 : Addr) (d1 : UInt64) (kk : ClassId) (n : Nat) (hx : p.tables.exec = Jvm.exec) (hZ : Z.Warmed39 s.vm) (hw : ∀ d ∈ tables_1, d.before a0 Z = true) (hby : c.code = jdk_65_method_113_code) (hml : c.maxLocals = 5) (hown : s.vm.findClass "java/util/Arrays" = some m.cls) (P_G_a1 : n0 ≤ a1) (hn_ : n ≤ 1000) : ∀ (k i : Nat) (T0 : State) (h0 : Heap) (locs : List Loc), i + k = n → 0 ≤ i → Stand p l e R s m args below meth c T0 locs cells slots → T0.heap = h0 → Fr n0 locs → n0 ≤ h0.size → (Arv Z h0 a1 kk .double (Int32.ofNat n) (OwnArr.vals (own_fl d1 i) n) (.double (0 : UInt64))) → 0 ≤ R.frames → 0 ≤ R.locals → cells + 0 ≤ R.cells → slots + 0 ≤ R.slots →
    ∃ (T' : State) (h' : Heap) (locs' : List Loc), Stand p l e R s m args below meth c T' locs' cells slots ∧ T'.heap = h' ∧ Fr n0 locs' ∧ Keep h0 h' [a1] ∧ (Arv Z h' a1 kk .double (Int32.ofNat n) (OwnArr.vals (own_fl d1 n) n) (.double (0 : UInt64))) ∧ ∀ t_, Steps p.tables e below (T'.setTop (mkF m 6 #[.val (.ref a1), .val (.double d1), .second, .val (.int (Int32.ofNat n)), .val (.int (Int32.ofNat n))] [])) t_ → Steps p.tables e below (T0.setTop (mkF m 6 #[.val (.ref a1), .val (.double d1), .second, .val (.int (Int32.ofNat i)), .val (.int (Int32.ofNat n))] [])) t_ := by
  intro k
  induction k with
  | zero =>
    intro i T0 h0 locs hi hlo X0 e0 N0 Z0 V0 hf hl hc hs
    obtain rfl : i = n := by omega
    exact ⟨T0, h0, locs, X0, e0, N0, Keep.refl _ _, V0, fun _ q => q⟩
  | succ k ih =>
    intro i T0 h0 locs hi hlo X0 e0 N0 Z0 V0 hf hl hc hs
    obtain ⟨T1, h1, L1, X1, e1, N1, K1, Y0, st1⟩ := own_fill_t a1 d1 kk n i X0 hx hZ hw hby hml hown e0 N0 Z0 hf hl hc hs V0 P_G_a1 hn_ (by omega)
    obtain ⟨T2, h2, L2, X2, e2, N2, K2, U0, st2⟩ := ih (i + 1) T1 h1 L1 (by omega) (by omega) X1 e1 N1 (Nat.le_trans Z0 K1.1) Y0 hf hl hc hs
    exact ⟨T2, h2, L2, X2, e2, N2, K1.trans K2 (own_wmc (Or.inl (List.mem_of_getElem? (i := 0) rfl)) own_wm0), U0, fun q kq => st1 q (st2 q kq)⟩
theorem own_fill_lP {p : Program} {l : Launch} {e : Env} {R : Room} {s : State} {m : MethodId} {args : Array Value} {below : List Frame} {meth : Method} {c : Code} {cells slots : Nat} {Z : State} {a0 : Array Value} {n0 : Nat} {T0 : State} {locs : List Loc} {h0 : Heap} (a1 : Addr) (d1 : UInt64) (kk : ClassId) (n : Nat) (X0 : Stand p l e R s m args below meth c T0 locs cells slots) (hx : p.tables.exec = Jvm.exec) (hZ : Z.Warmed39 s.vm) (hw : ∀ d ∈ tables_1, d.before a0 Z = true) (hby : c.code = jdk_65_method_113_code) (hml : c.maxLocals = 5) (hown : s.vm.findClass "java/util/Arrays" = some m.cls) (e0 : T0.heap = h0) (N0 : Fr n0 locs) (Z0 : n0 ≤ h0.size) (hRf : 0 ≤ R.frames) (hRl : 0 ≤ R.locals) (hRc : cells + 0 ≤ R.cells) (hRs : slots + 0 ≤ R.slots) (P_V_a1 : Arv Z h0 a1 kk .double (Int32.ofNat n) (OwnArr.vals (own_fl d1 0) n) (.double (0 : UInt64))) (P_G_a1 : n0 ≤ a1) (hn_ : n ≤ 1000) (hle_ : 0 ≤ n) :
    ∃ (T' : State) (h' : Heap) (locs' : List Loc), Stand p l e R s m args below meth c T' locs' cells slots ∧ T'.heap = h' ∧ Fr n0 locs' ∧ Keep h0 h' [a1] ∧ (Arv Z h' a1 kk .double (Int32.ofNat n) (OwnArr.vals (own_fl d1 n) n) (.double (0 : UInt64))) ∧ ∀ t_, Steps p.tables e below (T'.setTop (mkF m 6 #[.val (.ref a1), .val (.double d1), .second, .val (.int (Int32.ofNat n)), .val (.int (Int32.ofNat n))] [])) t_ → Steps p.tables e below (T0.setTop (mkF m 6 #[.val (.ref a1), .val (.double d1), .second, .val (.int (Int32.ofNat 0)), .val (.int (Int32.ofNat n))] [])) t_ := by
  exact own_fill_l a1 d1 kk n hx hZ hw hby hml hown P_G_a1 hn_ (n - 0) 0 T0 h0 locs (by omega) (by omega) X0 e0 N0 Z0 P_V_a1 hRf hRl hRc hRs
theorem ef_fill (m : MethodId) (a1 : Addr) (d1 : UInt64) : entryFrame m #[(.ref a1), (.double d1)] 5 = mkF m 0 #[.val (.ref a1), .val (.double d1), .second, .unset, .unset] [] := by first | (simp [entryFrame, mkF, argsToLocals, Value.category]; done) | rfl
theorem d3_0 : decode jdk_65_method_113_code 0 = .ok (.iconst 0, 1) := by decide +kernel
theorem d3_1 : decode jdk_65_method_113_code 1 = .ok (.istore_n 3, 1) := by decide +kernel
theorem d3_2 : decode jdk_65_method_113_code 2 = .ok (.aload_n 0, 1) := by decide +kernel
theorem d3_3 : decode jdk_65_method_113_code 3 = .ok (.arraylength, 1) := by decide +kernel
theorem d3_4 : decode jdk_65_method_113_code 4 = .ok (.istore 4, 2) := by decide +kernel
theorem d3_22 : decode jdk_65_method_113_code 22 = .ok (.return_, 1) := by decide +kernel
theorem pn_java_util_Arrays : plainName "java/util/Arrays" = true := by first | (simp [plainName, overriddenIn]; done) | decide +kernel
def Qfill (Z : State) (a1 : Addr) (d1 : UInt64) (kk : ClassId) (n : Nat) (h0 : Heap) (n0 : Nat) (v : Option Value) (h : Heap) (L : List Loc) : Prop := v = none ∧ Fr n0 L ∧ Keep h0 h [a1] ∧ (Arv Z h a1 kk .double (Int32.ofNat n) (OwnArr.vals (fun _ => .double d1) n) (.double (0 : UInt64)))
set_option maxRecDepth 65536 in
set_option maxHeartbeats 40000000 in
theorem rmfill (l : Launch) (Z : State) (a0 : Array Value) (hw : ∀ d ∈ tables_1, d.before a0 Z = true) (ws : List Jvm.Cond) (a1 : Addr) (d1 : UInt64) (kk : ClassId) (n : Nat) (h0 : Heap) (n0 : Nat) (Z0 : n0 ≤ h0.size) (P_V_a1 : Arv Z h0 a1 kk .double (Int32.ofNat n) (OwnArr.vals (fun _ => .double 0) n) (.double (0 : UInt64))) (P_G_a1 : n0 ≤ a1) (hn_ : n ≤ 1000) :
    MetFree l (⟨"java/util/Arrays", "fill", "([DD)V"⟩ : MethodName) (head1 (Jvm.Cond.code (⟨"java/util/Arrays", "fill", "([DD)V"⟩ : MethodName) jdk_65_method_113_code 5 none :: ws) ({ frames := 0, cells := 0, slots := 0, locals := 0 } : Room)) (fun a U => a = #[(.ref a1), (.double d1)] ∧ Z.Warmed39 U.vm ∧ U.heap = h0) (fun _ _ _ _ _ => True) (fun _ U o U' => ∃ v L, o = .returned v ∧ Qfill Z a1 d1 kk n h0 n0 v U'.heap L ∧ FrameEnd U o U' L ({ frames := 0, cells := 0, slots := 0, locals := 0 } : Room).cells ({ frames := 0, cells := 0, slots := 0, locals := 0 } : Room).slots) := by
  refine MetFree.of_bodySF (plainFor_of_name pn_java_util_Arrays) hisR ?_
  intro p e s m args below meth c s₁ Bd hml0 hP hK
  obtain ⟨rfl, hZ, hh⟩ := hP
  have hx := Bd.exec
  have hby := Bd.bytes
  have hml : c.maxLocals = 5 := hml0
  have hown : s.vm.findClass "java/util/Arrays" = some m.cls := findClass_of_methodNamed Bd.named
  have hnm := (name_of_methodNamed Bd.named Bd.method).1
  have X0 : Stand p l e ({ frames := 0, cells := 0, slots := 0, locals := 0 } : Room) s m #[(.ref a1), (.double d1)] below meth c s₁ [] 0 0 := Stand.of_body Bd
  have e0 : s₁.heap = h0 := by rw [← hh, Bd.state]; rfl
  have N0 := Fr.nil n0
  have pre0 : ∀ t_, Steps p.tables e below (s₁.setTop (mkF m 0 #[.val (.ref a1), .val (.double d1), .second, .unset, .unset] [])) t_ → Steps p.tables e below (s₁.setTop (entryFrame m #[(.ref a1), (.double d1)] 5)) t_ := fun t_ k => castTop (ef_fill m a1 d1) k
  obtain ⟨cl101, Ar101, Q101, S101, M101, H101, G101⟩ := id P_V_a1
  obtain ⟨T102, h102, L102, X102, e102, N102, K102, x102_0, st102⟩ := own_fill_lP (a1) (d1) (kk) (n) X0 hx hZ hw hby hml hown e0 N0 Z0 (by decide) (by decide) (by decide) (by decide) (own_fl_start d1 n ▸ P_V_a1) P_G_a1 (hn_) (Nat.zero_le _)
  have z103 : n0 ≤ h102.size := Nat.le_trans Z0 K102.1
  have k104 : Keep h0 h102 [a1] := (Keep.refl h0 [a1]).trans K102 (own_wmc (Or.inl (List.mem_of_getElem? (i := 0) rfl)) own_wm0)
  have pre105 : ∀ t_, Steps p.tables e below (T102.setTop (mkF m 22 #[.val (.ref a1), .val (.double d1), .second, .val (.int (Int32.ofNat n)), .val (.int (Int32.ofNat n))] [])) t_ → Steps p.tables e below (s₁.setTop (entryFrame m #[(.ref a1), (.double d1)] 5)) t_ := fun t_ kt => pre0 t_ (by
      show Steps p.tables e below (s₁.setTop (mkF m 0 #[.val (.ref a1), .val (.double d1), .second, .unset, .unset] [])) _
      refine XS.iconst X0.here hx rfl (hb hby d3_0) ?_
      show Steps p.tables e below (s₁.setTop (mkF m 1 #[.val (.ref a1), .val (.double d1), .second, .unset, .unset] [(.int (0 : Int32))])) _
      refine XS.istoreN X0.here hx rfl (hb hby d3_1) rfl (l' := #[.val (.ref a1), .val (.double d1), .second, .val (.int (0 : Int32)), .unset]) rfl ?_
      show Steps p.tables e below (s₁.setTop (mkF m 2 #[.val (.ref a1), .val (.double d1), .second, .val (.int (0 : Int32)), .unset] [])) _
      refine XS.aloadN X0.here hx rfl (hb hby d3_2) rfl rfl ?_
      show Steps p.tables e below (s₁.setTop (mkF m 3 #[.val (.ref a1), .val (.double d1), .second, .val (.int (0 : Int32)), .unset] [(.ref a1)])) _
      refine X0.arraylength hx (cell := cl101) (by rw [e0]; exact Ar101.1) (State.isArrayOf_alike hZ.alike Ar101.2.1) (g := (mkF m 3 #[.val (.ref a1), .val (.double d1), .second, .val (.int (0 : Int32)), .unset] [(.ref a1)])) rfl rfl (hb hby d3_3) _ ?_
      rw [len_of S101 M101]
      show Steps p.tables e below (s₁.setTop (mkF m 4 #[.val (.ref a1), .val (.double d1), .second, .val (.int (0 : Int32)), .unset] [(.int (Int32.ofNat n))])) _
      refine XS.istore X0.here hx rfl (hb hby d3_4) rfl (l' := #[.val (.ref a1), .val (.double d1), .second, .val (.int (0 : Int32)), .val (.int (Int32.ofNat n))]) rfl ?_
      show Steps p.tables e below (s₁.setTop (mkF m 6 #[.val (.ref a1), .val (.double d1), .second, .val (.int (0 : Int32)), .val (.int (Int32.ofNat n))] [])) _
      refine st102 _ ?_
      show Steps p.tables e below (T102.setTop (mkF m 6 #[.val (.ref a1), .val (.double d1), .second, .val (.int (Int32.ofNat n)), .val (.int (Int32.ofNat n))] [])) _
      refine XS.iloadN X102.here hx rfl (hb hby d3_6) rfl ?_
      show Steps p.tables e below (T102.setTop (mkF m 7 #[.val (.ref a1), .val (.double d1), .second, .val (.int (Int32.ofNat n)), .val (.int (Int32.ofNat n))] [(.int (Int32.ofNat n))])) _
      refine XS.iload X102.here hx rfl (hb hby d3_7) rfl ?_
      show Steps p.tables e below (T102.setTop (mkF m 9 #[.val (.ref a1), .val (.double d1), .second, .val (.int (Int32.ofNat n)), .val (.int (Int32.ofNat n))] [(.int (Int32.ofNat n)), (.int (Int32.ofNat n))])) _
      refine XS.icmpYes X102.here hx rfl (pc0 := 9) (pc' := 22) rfl (hb hby d3_9) rfl (flt (OwnArr.nlt32 (Nat.le_refl _) (by omega) : ¬ ((Int32.ofNat n) < (Int32.ofNat n)))).2.1 (by decide) (by decide) ?_
      exact kt)
  obtain ⟨fs, hr, hrun, hended, hW, hsame⟩ := X102.leave (v := none) (fun _ => rfl)
  refine ⟨_, _, pre105 _ ?_, hrun, hended, _, _, rfl, ?_, ⟨_, rfl⟩, hW, hsame.mono (by decide) (by decide)⟩
  · show Steps p.tables e below (T102.setTop (mkF m 22 #[.val (.ref a1), .val (.double d1), .second, .val (.int (Int32.ofNat n)), .val (.int (Int32.ofNat n))] [])) _
    exact X102.returnOut hx Bd.returns (hb hby d3_22) hr
  · show Qfill Z a1 d1 kk n h0 n0 _ T102.heap _
    rw [e102]
    exact ⟨rfl, N102, k104, own_fl_end d1 n ▸ x102_0⟩
theorem ef_Finit (m : MethodId) (f1 : Addr) : entryFrame m #[(.ref f1), (.int (Int32.ofNat n))] 2 = mkF m 0 #[.val (.ref f1), .val (.int (Int32.ofNat n))] [] := by first | (simp [entryFrame, mkF, argsToLocals, Value.category]; done) | rfl
theorem d1_0 : decode prog_39_method_1_code 0 = .ok (.aload_n 0, 1) := by decide +kernel
theorem d1_1 : decode prog_39_method_1_code 1 = .ok (.invokespecial 1, 3) := by decide +kernel
theorem d1_4 : decode prog_39_method_1_code 4 = .ok (.aload_n 0, 1) := by decide +kernel
theorem d1_5 : decode prog_39_method_1_code 5 = .ok (.iload_n 1, 1) := by decide +kernel
theorem d1_6 : decode prog_39_method_1_code 6 = .ok (.newarray .double, 2) := by decide +kernel
theorem d1_8 : decode prog_39_method_1_code 8 = .ok (.putfield 7, 3) := by decide +kernel
theorem d1_11 : decode prog_39_method_1_code 11 = .ok (.aload_n 0, 1) := by decide +kernel
theorem d1_12 : decode prog_39_method_1_code 12 = .ok (.getfield 7, 3) := by decide +kernel
theorem d1_15 : decode prog_39_method_1_code 15 = .ok (.ldc2_w 15, 3) := by decide +kernel
theorem pd__28_5bDD_29V : parseMethodDescriptor "([DD)V" = some ⟨[(.array .double), .double], none⟩ := by decide +kernel
theorem d1_18 : decode prog_39_method_1_code 18 = .ok (.invokestatic 17, 3) := by decide +kernel
theorem d1_21 : decode prog_39_method_1_code 21 = .ok (.aload_n 0, 1) := by decide +kernel
theorem d1_22 : decode prog_39_method_1_code 22 = .ok (.iload_n 1, 1) := by decide +kernel
theorem d1_23 : decode prog_39_method_1_code 23 = .ok (.newarray .boolean, 2) := by decide +kernel
theorem d1_25 : decode prog_39_method_1_code 25 = .ok (.putfield 23, 3) := by decide +kernel
theorem d1_28 : decode prog_39_method_1_code 28 = .ok (.aload_n 0, 1) := by decide +kernel
theorem d1_29 : decode prog_39_method_1_code 29 = .ok (.iload_n 1, 1) := by decide +kernel
theorem d1_30 : decode prog_39_method_1_code 30 = .ok (.newarray .int, 2) := by decide +kernel
theorem d1_32 : decode prog_39_method_1_code 32 = .ok (.putfield 27, 3) := by decide +kernel
theorem d1_35 : decode prog_39_method_1_code 35 = .ok (.aload_n 0, 1) := by decide +kernel
theorem d1_36 : decode prog_39_method_1_code 36 = .ok (.iload_n 1, 1) := by decide +kernel
theorem d1_37 : decode prog_39_method_1_code 37 = .ok (.newarray .int, 2) := by decide +kernel
theorem d1_39 : decode prog_39_method_1_code 39 = .ok (.putfield 31, 3) := by decide +kernel
theorem d1_42 : decode prog_39_method_1_code 42 = .ok (.return_, 1) := by decide +kernel
theorem pn_com_example_slotwright_slotwright_exchange_Frontier : plainName "com/example/slotwright/slotwright/exchange/Frontier" = true := by first | (simp [plainName, overriddenIn]; done) | decide +kernel
def QFinit (Z : State) (f1 : Addr) (n : Nat) (h0 : Heap) (n0 : Nat) (v : Option Value) (h : Heap) (L : List Loc) : Prop := ∃ (aD : Addr) (aS : Addr) (aR : Addr) (aO : Addr) (kD : ClassId) (kS : ClassId) (kR : ClassId) (kO : ClassId), v = none ∧ Fr n0 L ∧ Keep h0 h [f1] ∧ (Exa Z h f1 "com/example/slotwright/slotwright/exchange/Frontier") ∧ (Fld Z h f1 "com/example/slotwright/slotwright/exchange/Frontier" "distance" "[D" (.ref aD)) ∧ (Fld Z h f1 "com/example/slotwright/slotwright/exchange/Frontier" "settled" "[Z" (.ref aS)) ∧ (Fld Z h f1 "com/example/slotwright/slotwright/exchange/Frontier" "reached" "[I" (.ref aR)) ∧ (Fld Z h f1 "com/example/slotwright/slotwright/exchange/Frontier" "open" "[I" (.ref aO)) ∧ (Fld Z h f1 "com/example/slotwright/slotwright/exchange/Frontier" "reachedCount" "I" (.int (Int32.ofNat 0))) ∧ (Fld Z h f1 "com/example/slotwright/slotwright/exchange/Frontier" "openCount" "I" (.int (Int32.ofNat 0))) ∧ (Arv Z h aD kD .double (Int32.ofNat n) (own_LD (fun _ => own_inf) n) (.double (0 : UInt64))) ∧ (Arv Z h aS kS .boolean (Int32.ofNat n) (own_LZ (fun _ => 0) n) (.int (0 : Int32))) ∧ (Arv Z h aR kR .int (Int32.ofNat n) (own_LN (fun _ => 0) n) (.int (0 : Int32))) ∧ (Arv Z h aO kO .int (Int32.ofNat n) (own_LN (fun _ => 0) n) (.int (0 : Int32))) ∧ (h0.size ≤ aD) ∧ (h0.size ≤ aS) ∧ (h0.size ≤ aR) ∧ (h0.size ≤ aO) ∧ (aD ≠ aS) ∧ (aD ≠ aR) ∧ (aD ≠ aO) ∧ (aS ≠ aR) ∧ (aS ≠ aO) ∧ (aR ≠ aO)
set_option maxRecDepth 65536 in
set_option maxHeartbeats 40000000 in
theorem rmFinit (l : Launch) (Z : State) (a0 : Array Value) (hw : ∀ d ∈ tables_1, d.before a0 Z = true) (ws : List Jvm.Cond) (f1 : Addr) (n : Nat) (h0 : Heap) (n0 : Nat) (Z0 : n0 ≤ h0.size) (P_E_f1 : Exa Z h0 f1 "com/example/slotwright/slotwright/exchange/Frontier") (P_G_f1 : n0 ≤ f1) (hn : n ≤ 4) (P_F_f1_distance : Fld Z h0 f1 "com/example/slotwright/slotwright/exchange/Frontier" "distance" "[D" .null) (P_F_f1_settled : Fld Z h0 f1 "com/example/slotwright/slotwright/exchange/Frontier" "settled" "[Z" .null) (P_F_f1_reached : Fld Z h0 f1 "com/example/slotwright/slotwright/exchange/Frontier" "reached" "[I" .null) (P_F_f1_open : Fld Z h0 f1 "com/example/slotwright/slotwright/exchange/Frontier" "open" "[I" .null) (P_F_f1_reachedCount : Fld Z h0 f1 "com/example/slotwright/slotwright/exchange/Frontier" "reachedCount" "I" (.int (0 : Int32))) (P_F_f1_openCount : Fld Z h0 f1 "com/example/slotwright/slotwright/exchange/Frontier" "openCount" "I" (.int (0 : Int32))) :
    MetFree l (⟨"com/example/slotwright/slotwright/exchange/Frontier", "<init>", "(I)V"⟩ : MethodName) (head1 (Jvm.Cond.code (⟨"com/example/slotwright/slotwright/exchange/Frontier", "<init>", "(I)V"⟩ : MethodName) prog_39_method_1_code 2 none :: ws) ({ frames := 1, cells := 4, slots := 16, locals := 16 } : Room)) (fun a U => a = #[(.ref f1), (.int (Int32.ofNat n))] ∧ Z.Warmed39 U.vm ∧ U.heap = h0) (fun _ _ _ _ _ => True) (fun _ U o U' => ∃ v L, o = .returned v ∧ QFinit Z f1 n h0 n0 v U'.heap L ∧ FrameEnd U o U' L ({ frames := 1, cells := 4, slots := 16, locals := 16 } : Room).cells ({ frames := 1, cells := 4, slots := 16, locals := 16 } : Room).slots) := by
  refine MetFree.of_bodySF (plainFor_of_name pn_com_example_slotwright_slotwright_exchange_Frontier) hisR ?_
  intro p e s m args below meth c s₁ Bd hml0 hP hK
  obtain ⟨rfl, hZ, hh⟩ := hP
  have hx := Bd.exec
  have hby := Bd.bytes
  have hml : c.maxLocals = 2 := hml0
  have hown : s.vm.findClass "com/example/slotwright/slotwright/exchange/Frontier" = some m.cls := findClass_of_methodNamed Bd.named
  have hnm := (name_of_methodNamed Bd.named Bd.method).1
  have X0 : Stand p l e ({ frames := 1, cells := 4, slots := 16, locals := 16 } : Room) s m #[(.ref f1), (.int (Int32.ofNat n))] below meth c s₁ [] 0 0 := Stand.of_body Bd
  have e0 : s₁.heap = h0 := by rw [← hh, Bd.state]; rfl
  have N0 := Fr.nil n0
  have pre0 : ∀ t_, Steps p.tables e below (s₁.setTop (mkF m 0 #[.val (.ref f1), .val (.int (Int32.ofNat n))] [])) t_ → Steps p.tables e below (s₁.setTop (entryFrame m #[(.ref f1), (.int (Int32.ofNat n))] 2)) t_ := fun t_ k => castTop (ef_Finit m f1) k
  obtain ⟨T101, X101, e101, st101⟩ := initO X0 hx hZ hown (hw _ (List.mem_of_getElem? (i := 6) rfl)) (hw _ (List.mem_of_getElem? (i := 7) rfl)) (hw _ (List.mem_of_getElem? (i := 8) rfl)) e0 (g := (mkF m 1 #[.val (.ref f1), .val (.int (Int32.ofNat n))] [(.ref f1)])) rfl (by rw [hml]; rfl) rfl (hb hby d1_1) (by decide) (W := 0) (by show 2 * 0 + _ ≤ _; exact Nat.le_of_eq rfl) (by decide)
  obtain ⟨T102, h102, k102, X102, e102, E102, A102, st102⟩ := newP X101 hx hZ (hw _ (List.mem_of_getElem? (i := 9) rfl)) e101 (g := (mkF m 6 #[.val (.ref f1), .val (.int (Int32.ofNat n))] [(.int (Int32.ofNat n)), (.ref f1)])) rfl (hb hby d1_6) rfl (nn32 (by omega)) (cap := 4) (by rw [n32 (by omega)]; omega) (by decide) (by decide) (by decide)
  obtain ⟨b102, g102⟩ : ∃ z, z = h0.size := ⟨_, rfl⟩
  rw [← g102] at A102 st102
  have ne103 : f1 ≠ b102 := Nat.ne_of_lt (Nat.lt_of_lt_of_le P_E_f1.lt (Nat.le_of_eq g102.symm))
  have g_b102 : n0 ≤ b102 := Nat.le_trans Z0 (Nat.le_of_eq g102.symm)
  have sz_b102 : h0.size ≤ b102 := Nat.le_trans (Keep.refl h0 [f1]).1 (Nat.le_of_eq g102.symm)
  have z104 : n0 ≤ h102.size := Nat.le_trans Z0 E102.1
  have k105 : Keep h0 h102 [f1] := (Keep.refl h0 [f1]).ext E102
  have V102 : Arv Z h102 b102 k102 .double (Int32.ofNat n) (OwnArr.vals (fun _ => (.double 0)) n) (.double (0 : UInt64)) := (Arv.new A102 (nn32 (by omega))).pad (own_padv (.double 0) n)
  have f106 : Fld Z h102 f1 "com/example/slotwright/slotwright/exchange/Frontier" "distance" "[D" .null := (P_F_f1_distance.ext E102)
  have f107 : Exa Z h102 f1 "com/example/slotwright/slotwright/exchange/Frontier" := (P_E_f1.ext E102)
  obtain ⟨T108, h108, X108, e108, W108, st108⟩ := putF X102 hx hZ hown (host := "") (Or.inl (hw _ (List.mem_of_getElem? (i := 10) rfl))) Via.refl e102 f106 f107 (Or.inr ⟨(hw _ (List.mem_of_getElem? (i := 11) rfl)), rfl, hnm⟩) (hw _ (List.mem_of_getElem? (i := 1) rfl)) (ty := (.array .double)) (by decide) rfl rfl (g := (mkF m 8 #[.val (.ref f1), .val (.int (Int32.ofNat n))] [(.ref b102), (.ref f1)])) rfl rfl (hb hby d1_8)
  have F108 : Fld Z h108 f1 "com/example/slotwright/slotwright/exchange/Frontier" "distance" "[D" (.ref b102) := f106.same W108
  have z109 : n0 ≤ h108.size := Nat.le_trans z104 (Keep.of_wr W108).1
  have k110 : Keep h0 h108 [f1] := k105.wr W108 (Or.inl (List.mem_of_getElem? (i := 0) rfl))
  have N108 : Fr n0 _ := Fr.snoc X108 N0 P_G_f1
  obtain ⟨T111, X111, e111, st111⟩ := getF X108 hx hZ hown (host := "") (Or.inl (hw _ (List.mem_of_getElem? (i := 10) rfl))) Via.refl e108 F108 (g := (mkF m 12 #[.val (.ref f1), .val (.int (Int32.ofNat n))] [(.ref f1)])) rfl rfl (hb hby d1_12)
  have f112 : Arv Z h108 b102 k102 .double (Int32.ofNat n) (OwnArr.vals (fun _ => (.double 0)) n) (.double (0 : UInt64)) := (V102.other W108 (Ne.symm ne103))
  obtain ⟨_, _, ⟨T113, L113, kk113, nn113⟩, -, X113, ⟨Lc113, hQ113, l113, y113, z113⟩, st113⟩ := Jvm.LawKit.callS X111 hx (y := (⟨"java/util/Arrays", "fill", "([DD)V"⟩ : MethodName)) hown (mvT hZ (hw _ (List.mem_of_getElem? (i := 13) rfl))) (mvT hZ (hw _ (List.mem_of_getElem? (i := 14) rfl))) (mvT hZ (hw _ (List.mem_of_getElem? (i := 15) rfl))) (mvT hZ (hw _ (List.mem_of_getElem? (i := 16) rfl))) (by decide) (backOf (W := 0) (rmfill l Z a0 hw [] b102 (9218868437227405312 : UInt64) k102 n h108 n0 z109 f112 g_b102 (by omega)) hZ (hw _ (List.mem_of_getElem? (i := 16) rfl)) (hw _ (List.mem_of_getElem? (i := 15) rfl)) (by decide) (by decide)) (g := (mkF m 18 #[.val (.ref f1), .val (.int (Int32.ofNat n))] [(.double (9218868437227405312 : UInt64)), (.ref b102)])) rfl (by rw [hml]; rfl) (argsL := [(.ref b102), (.double (9218868437227405312 : UInt64))]) (rest := []) (lenOf pd__28_5bDD_29V rfl) rfl (by show 2 * 0 + _ ≤ _; exact Nat.le_of_eq rfl) (hb hby d1_18) (fun _ _ => ⟨rfl, e111, (by decide : 1 + 0 ≤ _), (by decide : 4 + 0 ≤ _)⟩)
  dsimp only [Pt.U, Pt.locs, Pt.cells, Pt.slots] at X113 l113 y113 z113 st113 hQ113
  subst l113 y113 z113
  obtain ⟨rfl, N113q, K113, x113_0⟩ := hQ113
  have N113 := Fr.app N108 N113q
  have z114 : n0 ≤ T113.heap.size := Nat.le_trans z109 K113.1
  have k115 : Keep h0 T113.heap [f1] := k110.trans K113 (own_wmc (Or.inr sz_b102) own_wm0)
  obtain ⟨T116, h116, k116, X116, e116, E116, A116, st116⟩ := newP X113 hx hZ (hw _ (List.mem_of_getElem? (i := 17) rfl)) rfl (g := (mkF m 23 #[.val (.ref f1), .val (.int (Int32.ofNat n))] [(.int (Int32.ofNat n)), (.ref f1)])) rfl (hb hby d1_23) rfl (nn32 (by omega)) (cap := 4) (by rw [n32 (by omega)]; omega) (by decide) (by decide) (by decide)
  obtain ⟨b116, g116⟩ : ∃ z, z = T113.heap.size := ⟨_, rfl⟩
  rw [← g116] at A116 st116
  have f118 : Exa Z T113.heap f1 "com/example/slotwright/slotwright/exchange/Frontier" := ((f107.wr W108).keep K113)
  have ne117 : f1 ≠ b116 := Nat.ne_of_lt (Nat.lt_of_lt_of_le f118.lt (Nat.le_of_eq g116.symm))
  have ne119 : b102 ≠ b116 := Nat.ne_of_lt (Nat.lt_of_lt_of_le x113_0.lt (Nat.le_of_eq g116.symm))
  have g_b116 : n0 ≤ b116 := Nat.le_trans z114 (Nat.le_of_eq g116.symm)
  have sz_b116 : h0.size ≤ b116 := Nat.le_trans k115.1 (Nat.le_of_eq g116.symm)
  have z120 : n0 ≤ h116.size := Nat.le_trans z114 E116.1
  have k121 : Keep h0 h116 [f1] := k115.ext E116
  have V116 : Arv Z h116 b116 k116 .boolean (Int32.ofNat n) (OwnArr.vals (fun _ => (.int 0)) n) (.int (0 : Int32)) := (Arv.new A116 (nn32 (by omega))).pad (own_padv (.int 0) n)
  have f122 : Fld Z h116 f1 "com/example/slotwright/slotwright/exchange/Frontier" "settled" "[Z" .null := ((((P_F_f1_settled.ext E102).other W108 (Or.inr (slot_ne (Or.inr (hw _ (List.mem_of_getElem? (i := 19) rfl))) (Or.inr (hw _ (List.mem_of_getElem? (i := 11) rfl))) (by decide) (t := (.array .boolean)) (t' := (.array .double)) (by decide) (by decide)))).keep K113 (own_nmc ne103 own_nm0)).ext E116)
  have f123 : Exa Z h116 f1 "com/example/slotwright/slotwright/exchange/Frontier" := (f118.ext E116)
  obtain ⟨T124, h124, X124, e124, W124, st124⟩ := putF X116 hx hZ hown (host := "") (Or.inl (hw _ (List.mem_of_getElem? (i := 18) rfl))) Via.refl e116 f122 f123 (Or.inr ⟨(hw _ (List.mem_of_getElem? (i := 19) rfl)), rfl, hnm⟩) (hw _ (List.mem_of_getElem? (i := 1) rfl)) (ty := (.array .boolean)) (by decide) rfl rfl (g := (mkF m 25 #[.val (.ref f1), .val (.int (Int32.ofNat n))] [(.ref b116), (.ref f1)])) rfl rfl (hb hby d1_25)
  have F124 : Fld Z h124 f1 "com/example/slotwright/slotwright/exchange/Frontier" "settled" "[Z" (.ref b116) := f122.same W124
  have z125 : n0 ≤ h124.size := Nat.le_trans z120 (Keep.of_wr W124).1
  have k126 : Keep h0 h124 [f1] := k121.wr W124 (Or.inl (List.mem_of_getElem? (i := 0) rfl))
  have N124 : Fr n0 _ := Fr.snoc X124 N113 P_G_f1
  obtain ⟨T127, h127, k127, X127, e127, E127, A127, st127⟩ := newP X124 hx hZ (hw _ (List.mem_of_getElem? (i := 20) rfl)) e124 (g := (mkF m 30 #[.val (.ref f1), .val (.int (Int32.ofNat n))] [(.int (Int32.ofNat n)), (.ref f1)])) rfl (hb hby d1_30) rfl (nn32 (by omega)) (cap := 4) (by rw [n32 (by omega)]; omega) (by decide) (by decide) (by decide)
  obtain ⟨b127, g127⟩ : ∃ z, z = h124.size := ⟨_, rfl⟩
  rw [← g127] at A127 st127
  have f129 : Exa Z h124 f1 "com/example/slotwright/slotwright/exchange/Frontier" := (f123.wr W124)
  have ne128 : f1 ≠ b127 := Nat.ne_of_lt (Nat.lt_of_lt_of_le f129.lt (Nat.le_of_eq g127.symm))
  have f131 : Arv Z h124 b102 k102 .double (Int32.ofNat n) (OwnArr.vals (fun _ => .double (9218868437227405312 : UInt64)) n) (.double (0 : UInt64)) := ((x113_0.ext E116).other W124 (Ne.symm ne103))
  have ne130 : b102 ≠ b127 := Nat.ne_of_lt (Nat.lt_of_lt_of_le f131.lt (Nat.le_of_eq g127.symm))
  have f133 : Arv Z h124 b116 k116 .boolean (Int32.ofNat n) (OwnArr.vals (fun _ => (.int 0)) n) (.int (0 : Int32)) := (V116.other W124 (Ne.symm ne117))
  have ne132 : b116 ≠ b127 := Nat.ne_of_lt (Nat.lt_of_lt_of_le f133.lt (Nat.le_of_eq g127.symm))
  have g_b127 : n0 ≤ b127 := Nat.le_trans z125 (Nat.le_of_eq g127.symm)
  have sz_b127 : h0.size ≤ b127 := Nat.le_trans k126.1 (Nat.le_of_eq g127.symm)
  have z134 : n0 ≤ h127.size := Nat.le_trans z125 E127.1
  have k135 : Keep h0 h127 [f1] := k126.ext E127
  have V127 : Arv Z h127 b127 k127 .int (Int32.ofNat n) (OwnArr.vals (fun _ => (.int 0)) n) (.int (0 : Int32)) := (Arv.new A127 (nn32 (by omega))).pad (own_padv (.int 0) n)
  have f136 : Fld Z h127 f1 "com/example/slotwright/slotwright/exchange/Frontier" "reached" "[I" .null := ((((((P_F_f1_reached.ext E102).other W108 (Or.inr (slot_ne (Or.inr (hw _ (List.mem_of_getElem? (i := 22) rfl))) (Or.inr (hw _ (List.mem_of_getElem? (i := 11) rfl))) (by decide) (t := (.array .int)) (t' := (.array .double)) (by decide) (by decide)))).keep K113 (own_nmc ne103 own_nm0)).ext E116).other W124 (Or.inr (slot_ne (Or.inr (hw _ (List.mem_of_getElem? (i := 22) rfl))) (Or.inr (hw _ (List.mem_of_getElem? (i := 19) rfl))) (by decide) (t := (.array .int)) (t' := (.array .boolean)) (by decide) (by decide)))).ext E127)
  have f137 : Exa Z h127 f1 "com/example/slotwright/slotwright/exchange/Frontier" := (f129.ext E127)
  obtain ⟨T138, h138, X138, e138, W138, st138⟩ := putF X127 hx hZ hown (host := "") (Or.inl (hw _ (List.mem_of_getElem? (i := 21) rfl))) Via.refl e127 f136 f137 (Or.inr ⟨(hw _ (List.mem_of_getElem? (i := 22) rfl)), rfl, hnm⟩) (hw _ (List.mem_of_getElem? (i := 1) rfl)) (ty := (.array .int)) (by decide) rfl rfl (g := (mkF m 32 #[.val (.ref f1), .val (.int (Int32.ofNat n))] [(.ref b127), (.ref f1)])) rfl rfl (hb hby d1_32)
  have F138 : Fld Z h138 f1 "com/example/slotwright/slotwright/exchange/Frontier" "reached" "[I" (.ref b127) := f136.same W138
  have z139 : n0 ≤ h138.size := Nat.le_trans z134 (Keep.of_wr W138).1
  have k140 : Keep h0 h138 [f1] := k135.wr W138 (Or.inl (List.mem_of_getElem? (i := 0) rfl))
  have N138 : Fr n0 _ := Fr.snoc X138 N124 P_G_f1
  obtain ⟨T141, h141, k141, X141, e141, E141, A141, st141⟩ := newP X138 hx hZ (hw _ (List.mem_of_getElem? (i := 20) rfl)) e138 (g := (mkF m 37 #[.val (.ref f1), .val (.int (Int32.ofNat n))] [(.int (Int32.ofNat n)), (.ref f1)])) rfl (hb hby d1_37) rfl (nn32 (by omega)) (cap := 4) (by rw [n32 (by omega)]; omega) (by decide) (by decide) (by decide)
  obtain ⟨b141, g141⟩ : ∃ z, z = h138.size := ⟨_, rfl⟩
  rw [← g141] at A141 st141
  have f143 : Exa Z h138 f1 "com/example/slotwright/slotwright/exchange/Frontier" := (f137.wr W138)
  have ne142 : f1 ≠ b141 := Nat.ne_of_lt (Nat.lt_of_lt_of_le f143.lt (Nat.le_of_eq g141.symm))
  have f145 : Arv Z h138 b102 k102 .double (Int32.ofNat n) (OwnArr.vals (fun _ => .double (9218868437227405312 : UInt64)) n) (.double (0 : UInt64)) := ((f131.ext E127).other W138 (Ne.symm ne103))
  have ne144 : b102 ≠ b141 := Nat.ne_of_lt (Nat.lt_of_lt_of_le f145.lt (Nat.le_of_eq g141.symm))
  have f147 : Arv Z h138 b116 k116 .boolean (Int32.ofNat n) (OwnArr.vals (fun _ => (.int 0)) n) (.int (0 : Int32)) := ((f133.ext E127).other W138 (Ne.symm ne117))
  have ne146 : b116 ≠ b141 := Nat.ne_of_lt (Nat.lt_of_lt_of_le f147.lt (Nat.le_of_eq g141.symm))
  have f149 : Arv Z h138 b127 k127 .int (Int32.ofNat n) (OwnArr.vals (fun _ => (.int 0)) n) (.int (0 : Int32)) := (V127.other W138 (Ne.symm ne128))
  have ne148 : b127 ≠ b141 := Nat.ne_of_lt (Nat.lt_of_lt_of_le f149.lt (Nat.le_of_eq g141.symm))
  have g_b141 : n0 ≤ b141 := Nat.le_trans z139 (Nat.le_of_eq g141.symm)
  have sz_b141 : h0.size ≤ b141 := Nat.le_trans k140.1 (Nat.le_of_eq g141.symm)
  have z150 : n0 ≤ h141.size := Nat.le_trans z139 E141.1
  have k151 : Keep h0 h141 [f1] := k140.ext E141
  have V141 : Arv Z h141 b141 k141 .int (Int32.ofNat n) (OwnArr.vals (fun _ => (.int 0)) n) (.int (0 : Int32)) := (Arv.new A141 (nn32 (by omega))).pad (own_padv (.int 0) n)
  have f152 : Fld Z h141 f1 "com/example/slotwright/slotwright/exchange/Frontier" "open" "[I" .null := ((((((((P_F_f1_open.ext E102).other W108 (Or.inr (slot_ne (Or.inr (hw _ (List.mem_of_getElem? (i := 24) rfl))) (Or.inr (hw _ (List.mem_of_getElem? (i := 11) rfl))) (by decide) (t := (.array .int)) (t' := (.array .double)) (by decide) (by decide)))).keep K113 (own_nmc ne103 own_nm0)).ext E116).other W124 (Or.inr (slot_ne (Or.inr (hw _ (List.mem_of_getElem? (i := 24) rfl))) (Or.inr (hw _ (List.mem_of_getElem? (i := 19) rfl))) (by decide) (t := (.array .int)) (t' := (.array .boolean)) (by decide) (by decide)))).ext E127).other W138 (Or.inr (slot_ne (Or.inr (hw _ (List.mem_of_getElem? (i := 24) rfl))) (Or.inr (hw _ (List.mem_of_getElem? (i := 22) rfl))) (by decide) (t := (.array .int)) (t' := (.array .int)) (by decide) (by decide)))).ext E141)
  have f153 : Exa Z h141 f1 "com/example/slotwright/slotwright/exchange/Frontier" := (f143.ext E141)
  obtain ⟨T154, h154, X154, e154, W154, st154⟩ := putF X141 hx hZ hown (host := "") (Or.inl (hw _ (List.mem_of_getElem? (i := 23) rfl))) Via.refl e141 f152 f153 (Or.inr ⟨(hw _ (List.mem_of_getElem? (i := 24) rfl)), rfl, hnm⟩) (hw _ (List.mem_of_getElem? (i := 1) rfl)) (ty := (.array .int)) (by decide) rfl rfl (g := (mkF m 39 #[.val (.ref f1), .val (.int (Int32.ofNat n))] [(.ref b141), (.ref f1)])) rfl rfl (hb hby d1_39)
  have F154 : Fld Z h154 f1 "com/example/slotwright/slotwright/exchange/Frontier" "open" "[I" (.ref b141) := f152.same W154
  have z155 : n0 ≤ h154.size := Nat.le_trans z150 (Keep.of_wr W154).1
  have k156 : Keep h0 h154 [f1] := k151.wr W154 (Or.inl (List.mem_of_getElem? (i := 0) rfl))
  have N154 : Fr n0 _ := Fr.snoc X154 N138 P_G_f1
  have pre157 : ∀ t_, Steps p.tables e below (T154.setTop (mkF m 42 #[.val (.ref f1), .val (.int (Int32.ofNat n))] [])) t_ → Steps p.tables e below (s₁.setTop (entryFrame m #[(.ref f1), (.int (Int32.ofNat n))] 2)) t_ := fun t_ kt => pre0 t_ (by
      show Steps p.tables e below (s₁.setTop (mkF m 0 #[.val (.ref f1), .val (.int (Int32.ofNat n))] [])) _
      refine XS.aloadN X0.here hx rfl (hb hby d1_0) rfl rfl ?_
      show Steps p.tables e below (s₁.setTop (mkF m 1 #[.val (.ref f1), .val (.int (Int32.ofNat n))] [(.ref f1)])) _
      refine st101 _ ?_
      show Steps p.tables e below (T101.setTop (mkF m 4 #[.val (.ref f1), .val (.int (Int32.ofNat n))] [])) _
      refine XS.aloadN X101.here hx rfl (hb hby d1_4) rfl rfl ?_
      show Steps p.tables e below (T101.setTop (mkF m 5 #[.val (.ref f1), .val (.int (Int32.ofNat n))] [(.ref f1)])) _
      refine XS.iloadN X101.here hx rfl (hb hby d1_5) rfl ?_
      show Steps p.tables e below (T101.setTop (mkF m 6 #[.val (.ref f1), .val (.int (Int32.ofNat n))] [(.int (Int32.ofNat n)), (.ref f1)])) _
      refine st102 _ ?_
      show Steps p.tables e below (T102.setTop (mkF m 8 #[.val (.ref f1), .val (.int (Int32.ofNat n))] [(.ref b102), (.ref f1)])) _
      refine st108 _ ?_
      show Steps p.tables e below (T108.setTop (mkF m 11 #[.val (.ref f1), .val (.int (Int32.ofNat n))] [])) _
      refine XS.aloadN X108.here hx rfl (hb hby d1_11) rfl rfl ?_
      show Steps p.tables e below (T108.setTop (mkF m 12 #[.val (.ref f1), .val (.int (Int32.ofNat n))] [(.ref f1)])) _
      refine st111 _ ?_
      show Steps p.tables e below (T111.setTop (mkF m 15 #[.val (.ref f1), .val (.int (Int32.ofNat n))] [(.ref b102)])) _
      refine X111.ldc2DoubleC hx hown (mvT hZ (hw _ (List.mem_of_getElem? (i := 12) rfl))) (g := (mkF m 15 #[.val (.ref f1), .val (.int (Int32.ofNat n))] [(.ref b102)])) rfl (hb hby d1_15) _ ?_
      show Steps p.tables e below (T111.setTop (mkF m 18 #[.val (.ref f1), .val (.int (Int32.ofNat n))] [(.double (9218868437227405312 : UInt64)), (.ref b102)])) _
      refine st113 _ ?_
      show Steps p.tables e below (T113.setTop (mkF m 21 #[.val (.ref f1), .val (.int (Int32.ofNat n))] [])) _
      refine XS.aloadN X113.here hx rfl (hb hby d1_21) rfl rfl ?_
      show Steps p.tables e below (T113.setTop (mkF m 22 #[.val (.ref f1), .val (.int (Int32.ofNat n))] [(.ref f1)])) _
      refine XS.iloadN X113.here hx rfl (hb hby d1_22) rfl ?_
      show Steps p.tables e below (T113.setTop (mkF m 23 #[.val (.ref f1), .val (.int (Int32.ofNat n))] [(.int (Int32.ofNat n)), (.ref f1)])) _
      refine st116 _ ?_
      show Steps p.tables e below (T116.setTop (mkF m 25 #[.val (.ref f1), .val (.int (Int32.ofNat n))] [(.ref b116), (.ref f1)])) _
      refine st124 _ ?_
      show Steps p.tables e below (T124.setTop (mkF m 28 #[.val (.ref f1), .val (.int (Int32.ofNat n))] [])) _
      refine XS.aloadN X124.here hx rfl (hb hby d1_28) rfl rfl ?_
      show Steps p.tables e below (T124.setTop (mkF m 29 #[.val (.ref f1), .val (.int (Int32.ofNat n))] [(.ref f1)])) _
      refine XS.iloadN X124.here hx rfl (hb hby d1_29) rfl ?_
      show Steps p.tables e below (T124.setTop (mkF m 30 #[.val (.ref f1), .val (.int (Int32.ofNat n))] [(.int (Int32.ofNat n)), (.ref f1)])) _
      refine st127 _ ?_
      show Steps p.tables e below (T127.setTop (mkF m 32 #[.val (.ref f1), .val (.int (Int32.ofNat n))] [(.ref b127), (.ref f1)])) _
      refine st138 _ ?_
      show Steps p.tables e below (T138.setTop (mkF m 35 #[.val (.ref f1), .val (.int (Int32.ofNat n))] [])) _
      refine XS.aloadN X138.here hx rfl (hb hby d1_35) rfl rfl ?_
      show Steps p.tables e below (T138.setTop (mkF m 36 #[.val (.ref f1), .val (.int (Int32.ofNat n))] [(.ref f1)])) _
      refine XS.iloadN X138.here hx rfl (hb hby d1_36) rfl ?_
      show Steps p.tables e below (T138.setTop (mkF m 37 #[.val (.ref f1), .val (.int (Int32.ofNat n))] [(.int (Int32.ofNat n)), (.ref f1)])) _
      refine st141 _ ?_
      show Steps p.tables e below (T141.setTop (mkF m 39 #[.val (.ref f1), .val (.int (Int32.ofNat n))] [(.ref b141), (.ref f1)])) _
      refine st154 _ ?_
      exact kt)
  have f158 : Exa Z h154 f1 "com/example/slotwright/slotwright/exchange/Frontier" := (f153.wr W154)
  have f159 : Fld Z h154 f1 "com/example/slotwright/slotwright/exchange/Frontier" "distance" "[D" (.ref b102) := (((((((F108.keep K113 (own_nmc ne103 own_nm0)).ext E116).other W124 (Or.inr (slot_ne (Or.inr (hw _ (List.mem_of_getElem? (i := 11) rfl))) (Or.inr (hw _ (List.mem_of_getElem? (i := 19) rfl))) (by decide) (t := (.array .double)) (t' := (.array .boolean)) (by decide) (by decide)))).ext E127).other W138 (Or.inr (slot_ne (Or.inr (hw _ (List.mem_of_getElem? (i := 11) rfl))) (Or.inr (hw _ (List.mem_of_getElem? (i := 22) rfl))) (by decide) (t := (.array .double)) (t' := (.array .int)) (by decide) (by decide)))).ext E141).other W154 (Or.inr (slot_ne (Or.inr (hw _ (List.mem_of_getElem? (i := 11) rfl))) (Or.inr (hw _ (List.mem_of_getElem? (i := 24) rfl))) (by decide) (t := (.array .double)) (t' := (.array .int)) (by decide) (by decide))))
  have f160 : Fld Z h154 f1 "com/example/slotwright/slotwright/exchange/Frontier" "settled" "[Z" (.ref b116) := ((((F124.ext E127).other W138 (Or.inr (slot_ne (Or.inr (hw _ (List.mem_of_getElem? (i := 19) rfl))) (Or.inr (hw _ (List.mem_of_getElem? (i := 22) rfl))) (by decide) (t := (.array .boolean)) (t' := (.array .int)) (by decide) (by decide)))).ext E141).other W154 (Or.inr (slot_ne (Or.inr (hw _ (List.mem_of_getElem? (i := 19) rfl))) (Or.inr (hw _ (List.mem_of_getElem? (i := 24) rfl))) (by decide) (t := (.array .boolean)) (t' := (.array .int)) (by decide) (by decide))))
  have f161 : Fld Z h154 f1 "com/example/slotwright/slotwright/exchange/Frontier" "reached" "[I" (.ref b127) := ((F138.ext E141).other W154 (Or.inr (slot_ne (Or.inr (hw _ (List.mem_of_getElem? (i := 22) rfl))) (Or.inr (hw _ (List.mem_of_getElem? (i := 24) rfl))) (by decide) (t := (.array .int)) (t' := (.array .int)) (by decide) (by decide))))
  have f162 : Fld Z h154 f1 "com/example/slotwright/slotwright/exchange/Frontier" "reachedCount" "I" (.int (0 : Int32)) := (((((((((P_F_f1_reachedCount.ext E102).other W108 (Or.inr (slot_ne (Or.inl (hw _ (List.mem_of_getElem? (i := 42) rfl))) (Or.inr (hw _ (List.mem_of_getElem? (i := 11) rfl))) (by decide) (t := .int) (t' := (.array .double)) (by decide) (by decide)))).keep K113 (own_nmc ne103 own_nm0)).ext E116).other W124 (Or.inr (slot_ne (Or.inl (hw _ (List.mem_of_getElem? (i := 42) rfl))) (Or.inr (hw _ (List.mem_of_getElem? (i := 19) rfl))) (by decide) (t := .int) (t' := (.array .boolean)) (by decide) (by decide)))).ext E127).other W138 (Or.inr (slot_ne (Or.inl (hw _ (List.mem_of_getElem? (i := 42) rfl))) (Or.inr (hw _ (List.mem_of_getElem? (i := 22) rfl))) (by decide) (t := .int) (t' := (.array .int)) (by decide) (by decide)))).ext E141).other W154 (Or.inr (slot_ne (Or.inl (hw _ (List.mem_of_getElem? (i := 42) rfl))) (Or.inr (hw _ (List.mem_of_getElem? (i := 24) rfl))) (by decide) (t := .int) (t' := (.array .int)) (by decide) (by decide))))
  have f163 : Fld Z h154 f1 "com/example/slotwright/slotwright/exchange/Frontier" "openCount" "I" (.int (0 : Int32)) := (((((((((P_F_f1_openCount.ext E102).other W108 (Or.inr (slot_ne (Or.inl (hw _ (List.mem_of_getElem? (i := 31) rfl))) (Or.inr (hw _ (List.mem_of_getElem? (i := 11) rfl))) (by decide) (t := .int) (t' := (.array .double)) (by decide) (by decide)))).keep K113 (own_nmc ne103 own_nm0)).ext E116).other W124 (Or.inr (slot_ne (Or.inl (hw _ (List.mem_of_getElem? (i := 31) rfl))) (Or.inr (hw _ (List.mem_of_getElem? (i := 19) rfl))) (by decide) (t := .int) (t' := (.array .boolean)) (by decide) (by decide)))).ext E127).other W138 (Or.inr (slot_ne (Or.inl (hw _ (List.mem_of_getElem? (i := 31) rfl))) (Or.inr (hw _ (List.mem_of_getElem? (i := 22) rfl))) (by decide) (t := .int) (t' := (.array .int)) (by decide) (by decide)))).ext E141).other W154 (Or.inr (slot_ne (Or.inl (hw _ (List.mem_of_getElem? (i := 31) rfl))) (Or.inr (hw _ (List.mem_of_getElem? (i := 24) rfl))) (by decide) (t := .int) (t' := (.array .int)) (by decide) (by decide))))
  have f164 : Arv Z h154 b102 k102 .double (Int32.ofNat n) (OwnArr.vals (fun _ => .double (9218868437227405312 : UInt64)) n) (.double (0 : UInt64)) := ((f145.ext E141).other W154 (Ne.symm ne103))
  have f165 : Arv Z h154 b116 k116 .boolean (Int32.ofNat n) (OwnArr.vals (fun _ => (.int 0)) n) (.int (0 : Int32)) := ((f147.ext E141).other W154 (Ne.symm ne117))
  have f166 : Arv Z h154 b127 k127 .int (Int32.ofNat n) (OwnArr.vals (fun _ => (.int 0)) n) (.int (0 : Int32)) := ((f149.ext E141).other W154 (Ne.symm ne128))
  have f167 : Arv Z h154 b141 k141 .int (Int32.ofNat n) (OwnArr.vals (fun _ => (.int 0)) n) (.int (0 : Int32)) := (V141.other W154 (Ne.symm ne142))
  obtain ⟨fs, hr, hrun, hended, hW, hsame⟩ := X154.leave (v := none) (fun _ => rfl)
  refine ⟨_, _, pre157 _ ?_, hrun, hended, _, _, rfl, ?_, ⟨_, rfl⟩, hW, hsame.mono (by decide) (by decide)⟩
  · show Steps p.tables e below (T154.setTop (mkF m 42 #[.val (.ref f1), .val (.int (Int32.ofNat n))] [])) _
    exact X154.returnOut hx Bd.returns (hb hby d1_42) hr
  · show QFinit Z f1 n h0 n0 _ T154.heap _
    rw [e154]
    exact ⟨b102, b116, b127, b141, k102, k116, k127, k141, rfl, N154, k156, f158, f159, f160, f161, F154, f162, f163, f164, f165, f166, f167, sz_b102, sz_b116, sz_b127, sz_b141, ne119, ne130, ne144, ne132, ne146, ne148⟩
theorem ef_Freach (m : MethodId) (f1 : Addr) (d1 : UInt64) : entryFrame m #[(.ref f1), (.int (Int32.ofNat vv)), (.double d1)] 5 = mkF m 0 #[.val (.ref f1), .val (.int (Int32.ofNat vv)), .val (.double d1), .second, .unset] [] := by first | (simp [entryFrame, mkF, argsToLocals, Value.category]; done) | rfl
theorem d7_0 : decode prog_39_method_2_code 0 = .ok (.dload_n 2, 1) := by decide +kernel
theorem pd__28D_29Z : parseMethodDescriptor "(D)Z" = some ⟨[.double], some .boolean⟩ := by decide +kernel
theorem d7_1 : decode prog_39_method_2_code 1 = .ok (.invokestatic 34, 3) := by decide +kernel
theorem d7_4 : decode prog_39_method_2_code 4 = .ok (.ifCond .ne 18, 3) := by decide +kernel
theorem d7_22 : decode prog_39_method_2_code 22 = .ok (.aload_n 0, 1) := by decide +kernel
theorem d7_23 : decode prog_39_method_2_code 23 = .ok (.getfield 23, 3) := by decide +kernel
theorem d7_26 : decode prog_39_method_2_code 26 = .ok (.iload_n 1, 1) := by decide +kernel
theorem d7_27 : decode prog_39_method_2_code 27 = .ok (.baload, 1) := by decide +kernel
theorem d7_28 : decode prog_39_method_2_code 28 = .ok (.ifCond .eq 5, 3) := by decide +kernel
theorem d7_33 : decode prog_39_method_2_code 33 = .ok (.aload_n 0, 1) := by decide +kernel
theorem d7_34 : decode prog_39_method_2_code 34 = .ok (.getfield 7, 3) := by decide +kernel
theorem d7_37 : decode prog_39_method_2_code 37 = .ok (.iload_n 1, 1) := by decide +kernel
theorem d7_38 : decode prog_39_method_2_code 38 = .ok (.daload, 1) := by decide +kernel
theorem d7_39 : decode prog_39_method_2_code 39 = .ok (.ldc2_w 15, 3) := by decide +kernel
theorem d7_42 : decode prog_39_method_2_code 42 = .ok (.dcmp .l, 1) := by decide +kernel
theorem d7_43 : decode prog_39_method_2_code 43 = .ok (.ifCond .ne 43, 3) := by decide +kernel
theorem d7_46 : decode prog_39_method_2_code 46 = .ok (.aload_n 0, 1) := by decide +kernel
theorem d7_47 : decode prog_39_method_2_code 47 = .ok (.getfield 27, 3) := by decide +kernel
theorem d7_50 : decode prog_39_method_2_code 50 = .ok (.aload_n 0, 1) := by decide +kernel
theorem d7_51 : decode prog_39_method_2_code 51 = .ok (.getfield 47, 3) := by decide +kernel
theorem d7_54 : decode prog_39_method_2_code 54 = .ok (.iload_n 1, 1) := by decide +kernel
theorem d7_55 : decode prog_39_method_2_code 55 = .ok (.iastore, 1) := by decide +kernel
theorem d7_56 : decode prog_39_method_2_code 56 = .ok (.aload_n 0, 1) := by decide +kernel
theorem d7_57 : decode prog_39_method_2_code 57 = .ok (.dup, 1) := by decide +kernel
theorem d7_58 : decode prog_39_method_2_code 58 = .ok (.getfield 47, 3) := by decide +kernel
theorem d7_61 : decode prog_39_method_2_code 61 = .ok (.iconst 1, 1) := by decide +kernel
theorem d7_62 : decode prog_39_method_2_code 62 = .ok (.iadd, 1) := by decide +kernel
theorem d7_63 : decode prog_39_method_2_code 63 = .ok (.putfield 47, 3) := by decide +kernel
theorem d7_66 : decode prog_39_method_2_code 66 = .ok (.aload_n 0, 1) := by decide +kernel
theorem d7_67 : decode prog_39_method_2_code 67 = .ok (.getfield 31, 3) := by decide +kernel
theorem d7_70 : decode prog_39_method_2_code 70 = .ok (.aload_n 0, 1) := by decide +kernel
theorem d7_71 : decode prog_39_method_2_code 71 = .ok (.getfield 51, 3) := by decide +kernel
theorem d7_74 : decode prog_39_method_2_code 74 = .ok (.iload_n 1, 1) := by decide +kernel
theorem d7_75 : decode prog_39_method_2_code 75 = .ok (.iastore, 1) := by decide +kernel
theorem d7_76 : decode prog_39_method_2_code 76 = .ok (.aload_n 0, 1) := by decide +kernel
theorem d7_77 : decode prog_39_method_2_code 77 = .ok (.dup, 1) := by decide +kernel
theorem d7_78 : decode prog_39_method_2_code 78 = .ok (.getfield 51, 3) := by decide +kernel
theorem d7_81 : decode prog_39_method_2_code 81 = .ok (.iconst 1, 1) := by decide +kernel
theorem d7_82 : decode prog_39_method_2_code 82 = .ok (.iadd, 1) := by decide +kernel
theorem d7_83 : decode prog_39_method_2_code 83 = .ok (.putfield 51, 3) := by decide +kernel
theorem d7_86 : decode prog_39_method_2_code 86 = .ok (.dload_n 2, 1) := by decide +kernel
theorem d7_87 : decode prog_39_method_2_code 87 = .ok (.aload_n 0, 1) := by decide +kernel
theorem d7_88 : decode prog_39_method_2_code 88 = .ok (.getfield 7, 3) := by decide +kernel
theorem d7_91 : decode prog_39_method_2_code 91 = .ok (.iload_n 1, 1) := by decide +kernel
theorem d7_92 : decode prog_39_method_2_code 92 = .ok (.daload, 1) := by decide +kernel
theorem d7_93 : decode prog_39_method_2_code 93 = .ok (.dcmp .g, 1) := by decide +kernel
theorem d7_94 : decode prog_39_method_2_code 94 = .ok (.ifCond .ge 7, 3) := by decide +kernel
theorem d7_97 : decode prog_39_method_2_code 97 = .ok (.iconst 1, 1) := by decide +kernel
theorem d7_98 : decode prog_39_method_2_code 98 = .ok (.goto 4, 3) := by decide +kernel
theorem d7_102 : decode prog_39_method_2_code 102 = .ok (.istore 4, 2) := by decide +kernel
theorem d7_104 : decode prog_39_method_2_code 104 = .ok (.iload 4, 2) := by decide +kernel
theorem d7_106 : decode prog_39_method_2_code 106 = .ok (.ifCond .eq 10, 3) := by decide +kernel
theorem d7_109 : decode prog_39_method_2_code 109 = .ok (.aload_n 0, 1) := by decide +kernel
theorem d7_110 : decode prog_39_method_2_code 110 = .ok (.getfield 7, 3) := by decide +kernel
theorem d7_113 : decode prog_39_method_2_code 113 = .ok (.iload_n 1, 1) := by decide +kernel
theorem d7_114 : decode prog_39_method_2_code 114 = .ok (.dload_n 2, 1) := by decide +kernel
theorem d7_115 : decode prog_39_method_2_code 115 = .ok (.dastore, 1) := by decide +kernel
theorem d7_116 : decode prog_39_method_2_code 116 = .ok (.iload 4, 2) := by decide +kernel
theorem d7_118 : decode prog_39_method_2_code 118 = .ok (.ireturn, 1) := by decide +kernel
theorem d7_101 : decode prog_39_method_2_code 101 = .ok (.iconst 0, 1) := by decide +kernel
theorem d7_31 : decode prog_39_method_2_code 31 = .ok (.iconst 0, 1) := by decide +kernel
theorem d7_32 : decode prog_39_method_2_code 32 = .ok (.ireturn, 1) := by decide +kernel
def QFreach (Z : State) (f1 : Addr) (d1 : UInt64) (aD : Addr) (aS : Addr) (aR : Addr) (aO : Addr) (kD : ClassId) (kS : ClassId) (kR : ClassId) (kO : ClassId) (n : Nat) (dist : Nat → UInt64) (st : Nat → Int32) (rch : Nat → Nat) (rc : Nat) (opn : Nat → Nat) (oc : Nat) (vv : Nat) (h0 : Heap) (n0 : Nat) (v : Option Value) (h : Heap) (L : List Loc) : Prop := ∃ (dist2 : Nat → UInt64) (rch2 : Nat → Nat) (rc2 : Nat) (opn2 : Nat → Nat) (oc2 : Nat) (r : Int32), v = some (.int r) ∧ Fr n0 L ∧ Keep h0 h [f1, aD, aR, aO] ∧ (Exa Z h f1 "com/example/slotwright/slotwright/exchange/Frontier") ∧ (Fld Z h f1 "com/example/slotwright/slotwright/exchange/Frontier" "distance" "[D" (.ref aD)) ∧ (Fld Z h f1 "com/example/slotwright/slotwright/exchange/Frontier" "settled" "[Z" (.ref aS)) ∧ (Fld Z h f1 "com/example/slotwright/slotwright/exchange/Frontier" "reached" "[I" (.ref aR)) ∧ (Fld Z h f1 "com/example/slotwright/slotwright/exchange/Frontier" "open" "[I" (.ref aO)) ∧ (Fld Z h f1 "com/example/slotwright/slotwright/exchange/Frontier" "reachedCount" "I" (.int (Int32.ofNat rc2))) ∧ (Fld Z h f1 "com/example/slotwright/slotwright/exchange/Frontier" "openCount" "I" (.int (Int32.ofNat oc2))) ∧ (Arv Z h aD kD .double (Int32.ofNat n) (own_LD dist2 n) (.double (0 : UInt64))) ∧ (Arv Z h aS kS .boolean (Int32.ofNat n) (own_LZ st n) (.int (0 : Int32))) ∧ (Arv Z h aR kR .int (Int32.ofNat n) (own_LN rch2 n) (.int (0 : Int32))) ∧ (Arv Z h aO kO .int (Int32.ofNat n) (own_LN opn2 n) (.int (0 : Int32))) ∧ (own_RR vv d1 dist st rch rc opn oc dist2 rch2 rc2 opn2 oc2)
set_option maxRecDepth 65536 in
set_option maxHeartbeats 40000000 in
theorem rmFreach (l : Launch) (Z : State) (a0 : Array Value) (hw : ∀ d ∈ tables_1, d.before a0 Z = true) (ws : List Jvm.Cond) (f1 : Addr) (d1 : UInt64) (aD : Addr) (aS : Addr) (aR : Addr) (aO : Addr) (kD : ClassId) (kS : ClassId) (kR : ClassId) (kO : ClassId) (n : Nat) (dist : Nat → UInt64) (st : Nat → Int32) (rch : Nat → Nat) (rc : Nat) (opn : Nat → Nat) (oc : Nat) (vv : Nat) (h0 : Heap) (n0 : Nat) (Z0 : n0 ≤ h0.size) (P_E_f1 : Exa Z h0 f1 "com/example/slotwright/slotwright/exchange/Frontier") (P_F_f1_distance : Fld Z h0 f1 "com/example/slotwright/slotwright/exchange/Frontier" "distance" "[D" (.ref aD)) (P_F_f1_settled : Fld Z h0 f1 "com/example/slotwright/slotwright/exchange/Frontier" "settled" "[Z" (.ref aS)) (P_F_f1_reached : Fld Z h0 f1 "com/example/slotwright/slotwright/exchange/Frontier" "reached" "[I" (.ref aR)) (P_F_f1_open : Fld Z h0 f1 "com/example/slotwright/slotwright/exchange/Frontier" "open" "[I" (.ref aO)) (P_F_f1_reachedCount : Fld Z h0 f1 "com/example/slotwright/slotwright/exchange/Frontier" "reachedCount" "I" (.int (Int32.ofNat rc))) (P_F_f1_openCount : Fld Z h0 f1 "com/example/slotwright/slotwright/exchange/Frontier" "openCount" "I" (.int (Int32.ofNat oc))) (P_V_aD : Arv Z h0 aD kD .double (Int32.ofNat n) (own_LD dist n) (.double (0 : UInt64))) (P_V_aS : Arv Z h0 aS kS .boolean (Int32.ofNat n) (own_LZ st n) (.int (0 : Int32))) (P_V_aR : Arv Z h0 aR kR .int (Int32.ofNat n) (own_LN rch n) (.int (0 : Int32))) (P_V_aO : Arv Z h0 aO kO .int (Int32.ofNat n) (own_LN opn n) (.int (0 : Int32))) (P_ne_f1_aD : f1 ≠ aD) (P_ne_f1_aS : f1 ≠ aS) (P_ne_f1_aR : f1 ≠ aR) (P_ne_f1_aO : f1 ≠ aO) (P_ne_aD_aS : aD ≠ aS) (P_ne_aD_aR : aD ≠ aR) (P_ne_aD_aO : aD ≠ aO) (P_ne_aS_aR : aS ≠ aR) (P_ne_aS_aO : aS ≠ aO) (P_ne_aR_aO : aR ≠ aO) (P_G_f1 : n0 ≤ f1) (P_G_aD : n0 ≤ aD) (P_G_aS : n0 ≤ aS) (P_G_aR : n0 ≤ aR) (P_G_aO : n0 ≤ aO) (hn : n ≤ 4) (hv : vv < n) (hd : Fin64 d1) (hfr0 : st vv = 0 → dist vv = own_inf → rc < n ∧ oc < n) :
    MetFree l (⟨"com/example/slotwright/slotwright/exchange/Frontier", "reach", "(ID)Z"⟩ : MethodName) (head1 (Jvm.Cond.code (⟨"com/example/slotwright/slotwright/exchange/Frontier", "reach", "(ID)Z"⟩ : MethodName) prog_39_method_2_code 5 (some .boolean) :: ws) ({ frames := 2, cells := 0, slots := 0, locals := 26 } : Room)) (fun a U => a = #[(.ref f1), (.int (Int32.ofNat vv)), (.double d1)] ∧ Z.Warmed39 U.vm ∧ U.heap = h0) (fun _ _ _ _ _ => True) (fun _ U o U' => ∃ v L, o = .returned v ∧ QFreach Z f1 d1 aD aS aR aO kD kS kR kO n dist st rch rc opn oc vv h0 n0 v U'.heap L ∧ FrameEnd U o U' L ({ frames := 2, cells := 0, slots := 0, locals := 26 } : Room).cells ({ frames := 2, cells := 0, slots := 0, locals := 26 } : Room).slots) := by
  refine MetFree.of_bodySF (plainFor_of_name pn_com_example_slotwright_slotwright_exchange_Frontier) hisR ?_
  intro p e s m args below meth c s₁ Bd hml0 hP hK
  obtain ⟨rfl, hZ, hh⟩ := hP
  have hx := Bd.exec
  have hby := Bd.bytes
  have hml : c.maxLocals = 5 := hml0
  have hown : s.vm.findClass "com/example/slotwright/slotwright/exchange/Frontier" = some m.cls := findClass_of_methodNamed Bd.named
  have hnm := (name_of_methodNamed Bd.named Bd.method).1
  have X0 : Stand p l e ({ frames := 2, cells := 0, slots := 0, locals := 26 } : Room) s m #[(.ref f1), (.int (Int32.ofNat vv)), (.double d1)] below meth c s₁ [] 0 0 := Stand.of_body Bd
  have e0 : s₁.heap = h0 := by rw [← hh, Bd.state]; rfl
  have N0 := Fr.nil n0
  have pre0 : ∀ t_, Steps p.tables e below (s₁.setTop (mkF m 0 #[.val (.ref f1), .val (.int (Int32.ofNat vv)), .val (.double d1), .second, .unset] [])) t_ → Steps p.tables e below (s₁.setTop (entryFrame m #[(.ref f1), (.int (Int32.ofNat vv)), (.double d1)] 5)) t_ := fun t_ k => castTop (ef_Freach m f1 d1) k
  obtain ⟨_, _, ⟨T101, L101, kk101, nn101⟩, -, X101, ⟨Lc101, hQ101, l101, y101, z101⟩, st101⟩ := Jvm.LawKit.callS X0 hx (y := (⟨"java/lang/Double", "isFinite", "(D)Z"⟩ : MethodName)) hown (mvT hZ (hw _ (List.mem_of_getElem? (i := 49) rfl))) (mvT hZ (hw _ (List.mem_of_getElem? (i := 50) rfl))) (mvT hZ (hw _ (List.mem_of_getElem? (i := 51) rfl))) (mvT hZ (hw _ (List.mem_of_getElem? (i := 52) rfl))) (by decide) (backOf (W := 0) (rmisfin l Z a0 hw [] d1 h0 n0 Z0 (hd)) hZ (hw _ (List.mem_of_getElem? (i := 52) rfl)) (hw _ (List.mem_of_getElem? (i := 51) rfl)) (by decide) (by decide)) (g := (mkF m 1 #[.val (.ref f1), .val (.int (Int32.ofNat vv)), .val (.double d1), .second, .unset] [(.double d1)])) rfl (by rw [hml]; rfl) (argsL := [(.double d1)]) (rest := []) (lenOf pd__28D_29Z rfl) rfl (by show 2 * 0 + _ ≤ _; exact Nat.le_of_eq rfl) (hb hby d7_1) (fun _ _ => ⟨rfl, e0, (by decide : 0 + 0 ≤ _), (by decide : 0 + 0 ≤ _)⟩)
  dsimp only [Pt.U, Pt.locs, Pt.cells, Pt.slots] at X101 l101 y101 z101 st101 hQ101
  subst l101 y101 z101
  obtain ⟨rfl, N101q, e101⟩ := hQ101
  have N101 := Fr.app N0 N101q
  obtain ⟨T102, X102, e102, st102⟩ := getF X101 hx hZ hown (host := "") (Or.inl (hw _ (List.mem_of_getElem? (i := 18) rfl))) Via.refl e101 P_F_f1_settled (g := (mkF m 23 #[.val (.ref f1), .val (.int (Int32.ofNat vv)), .val (.double d1), .second, .unset] [(.ref f1)])) rfl rfl (hb hby d7_23)
  obtain ⟨cl103, Ar103, Q103, S103, M103, H103, G103⟩ := id P_V_aS
  have in104 : ¬ ((Int32.ofNat vv) < 0 ∨ cl103.slots.size ≤ ((Int32.ofNat vv)).toNatClampNeg) := inb_of S103 ⟨nn32 (by omega), lt32 hv (by omega)⟩
  have at105 : cl103.slots[((Int32.ofNat vv)).toNatClampNeg]? = some (.int (st vv)) := by rw [n32 (by omega), H103 vv (by rw [S103, n32 (by omega)]; exact hv), own_LZ_at _ hv]
  have pre106 : ∀ t_, Steps p.tables e below (T102.setTop (mkF m 28 #[.val (.ref f1), .val (.int (Int32.ofNat vv)), .val (.double d1), .second, .unset] [(.int (st vv))])) t_ → Steps p.tables e below (s₁.setTop (entryFrame m #[(.ref f1), (.int (Int32.ofNat vv)), (.double d1)] 5)) t_ := fun t_ kt => pre0 t_ (by
      show Steps p.tables e below (s₁.setTop (mkF m 0 #[.val (.ref f1), .val (.int (Int32.ofNat vv)), .val (.double d1), .second, .unset] [])) _
      refine XS.dloadN X0.here hx rfl (hb hby d7_0) rfl ?_
      show Steps p.tables e below (s₁.setTop (mkF m 1 #[.val (.ref f1), .val (.int (Int32.ofNat vv)), .val (.double d1), .second, .unset] [(.double d1)])) _
      refine st101 _ ?_
      show Steps p.tables e below (T101.setTop (mkF m 4 #[.val (.ref f1), .val (.int (Int32.ofNat vv)), .val (.double d1), .second, .unset] [(.int (1 : Int32))])) _
      refine XS.ifYes X101.here hx rfl (pc0 := 4) (pc' := 22) rfl (hb hby d7_4) rfl ((if0 _ _).trans (feq ((by decide) : ¬ ((1 : Int32) = (0 : Int32)))).2) (by decide) (by decide) ?_
      show Steps p.tables e below (T101.setTop (mkF m 22 #[.val (.ref f1), .val (.int (Int32.ofNat vv)), .val (.double d1), .second, .unset] [])) _
      refine XS.aloadN X101.here hx rfl (hb hby d7_22) rfl rfl ?_
      show Steps p.tables e below (T101.setTop (mkF m 23 #[.val (.ref f1), .val (.int (Int32.ofNat vv)), .val (.double d1), .second, .unset] [(.ref f1)])) _
      refine st102 _ ?_
      show Steps p.tables e below (T102.setTop (mkF m 26 #[.val (.ref f1), .val (.int (Int32.ofNat vv)), .val (.double d1), .second, .unset] [(.ref aS)])) _
      refine XS.iloadN X102.here hx rfl (hb hby d7_26) rfl ?_
      show Steps p.tables e below (T102.setTop (mkF m 27 #[.val (.ref f1), .val (.int (Int32.ofNat vv)), .val (.double d1), .second, .unset] [(.int (Int32.ofNat vv)), (.ref aS)])) _
      refine X102.baloadBooleans hx (j := (Int32.ofNat vv)) (v := (.int (st vv))) (by rw [e102]; exact Ar103.1) (State.isArrayOf_alike hZ.alike Ar103.2.1) Ar103.2.2 in104 at105 (g := (mkF m 27 #[.val (.ref f1), .val (.int (Int32.ofNat vv)), .val (.double d1), .second, .unset] [(.int (Int32.ofNat vv)), (.ref aS)])) rfl rfl (hb hby d7_27) _ ?_
      exact kt)
  by_cases hs : (st vv) = (0 : Int32)
  · skip
    obtain ⟨T107, X107, e107, st107⟩ := getF X102 hx hZ hown (host := "") (Or.inl (hw _ (List.mem_of_getElem? (i := 10) rfl))) Via.refl e102 P_F_f1_distance (g := (mkF m 34 #[.val (.ref f1), .val (.int (Int32.ofNat vv)), .val (.double d1), .second, .unset] [(.ref f1)])) rfl rfl (hb hby d7_34)
    obtain ⟨cl108, Ar108, Q108, S108, M108, H108, G108⟩ := id P_V_aD
    have in109 : ¬ ((Int32.ofNat vv) < 0 ∨ cl108.slots.size ≤ ((Int32.ofNat vv)).toNatClampNeg) := inb_of S108 ⟨nn32 (by omega), lt32 hv (by omega)⟩
    have at110 : cl108.slots[((Int32.ofNat vv)).toNatClampNeg]? = some (.double (dist vv)) := by rw [n32 (by omega), H108 vv (by rw [S108, n32 (by omega)]; exact hv), own_LD_at _ hv]
    have pre111 : ∀ t_, Steps p.tables e below (T107.setTop (mkF m 43 #[.val (.ref f1), .val (.int (Int32.ofNat vv)), .val (.double d1), .second, .unset] [(.int (cmpValue (FP.dcmp (dist vv) (9218868437227405312 : UInt64)) .l))])) t_ → Steps p.tables e below (s₁.setTop (entryFrame m #[(.ref f1), (.int (Int32.ofNat vv)), (.double d1)] 5)) t_ := fun t_ kt => pre106 t_ (by
        show Steps p.tables e below (T102.setTop (mkF m 28 #[.val (.ref f1), .val (.int (Int32.ofNat vv)), .val (.double d1), .second, .unset] [(.int (st vv))])) _
        refine XS.ifYes X102.here hx rfl (pc0 := 28) (pc' := 33) rfl (hb hby d7_28) rfl ((if0 _ _).trans (teq (hs : (st vv) = (0 : Int32))).1) (by decide) (by decide) ?_
        show Steps p.tables e below (T102.setTop (mkF m 33 #[.val (.ref f1), .val (.int (Int32.ofNat vv)), .val (.double d1), .second, .unset] [])) _
        refine XS.aloadN X102.here hx rfl (hb hby d7_33) rfl rfl ?_
        show Steps p.tables e below (T102.setTop (mkF m 34 #[.val (.ref f1), .val (.int (Int32.ofNat vv)), .val (.double d1), .second, .unset] [(.ref f1)])) _
        refine st107 _ ?_
        show Steps p.tables e below (T107.setTop (mkF m 37 #[.val (.ref f1), .val (.int (Int32.ofNat vv)), .val (.double d1), .second, .unset] [(.ref aD)])) _
        refine XS.iloadN X107.here hx rfl (hb hby d7_37) rfl ?_
        show Steps p.tables e below (T107.setTop (mkF m 38 #[.val (.ref f1), .val (.int (Int32.ofNat vv)), .val (.double d1), .second, .unset] [(.int (Int32.ofNat vv)), (.ref aD)])) _
        refine X107.daload hx (j := (Int32.ofNat vv)) (v := (.double (dist vv))) (by rw [e107]; exact Ar108.1) (State.isArrayOf_alike hZ.alike Ar108.2.1) Ar108.2.2 in109 at110 (g := (mkF m 38 #[.val (.ref f1), .val (.int (Int32.ofNat vv)), .val (.double d1), .second, .unset] [(.int (Int32.ofNat vv)), (.ref aD)])) rfl rfl (hb hby d7_38) _ ?_
        show Steps p.tables e below (T107.setTop (mkF m 39 #[.val (.ref f1), .val (.int (Int32.ofNat vv)), .val (.double d1), .second, .unset] [(.double (dist vv))])) _
        refine X107.ldc2DoubleC hx hown (mvT hZ (hw _ (List.mem_of_getElem? (i := 12) rfl))) (g := (mkF m 39 #[.val (.ref f1), .val (.int (Int32.ofNat vv)), .val (.double d1), .second, .unset] [(.double (dist vv))])) rfl (hb hby d7_39) _ ?_
        show Steps p.tables e below (T107.setTop (mkF m 42 #[.val (.ref f1), .val (.int (Int32.ofNat vv)), .val (.double d1), .second, .unset] [(.double (9218868437227405312 : UInt64)), (.double (dist vv))])) _
        refine XS.dcmpS X107.here hx rfl (hb hby d7_42) rfl (v := (cmpValue (FP.dcmp (dist vv) (9218868437227405312 : UInt64)) .l)) rfl ?_
        exact kt)
    by_cases hi : (cmpValue (FP.dcmp (dist vv) (9218868437227405312 : UInt64)) .l) = (0 : Int32)
    · skip
      have hie : dist vv = own_inf := own_infeq hi
      have hfr := hfr0 hs hie
      obtain ⟨T112, X112, e112, st112⟩ := getF X107 hx hZ hown (host := "") (Or.inl (hw _ (List.mem_of_getElem? (i := 21) rfl))) Via.refl e107 P_F_f1_reached (g := (mkF m 47 #[.val (.ref f1), .val (.int (Int32.ofNat vv)), .val (.double d1), .second, .unset] [(.ref f1)])) rfl rfl (hb hby d7_47)
      obtain ⟨T113, X113, e113, st113⟩ := getF X112 hx hZ hown (host := "") (Or.inl (hw _ (List.mem_of_getElem? (i := 41) rfl))) Via.refl e112 P_F_f1_reachedCount (g := (mkF m 51 #[.val (.ref f1), .val (.int (Int32.ofNat vv)), .val (.double d1), .second, .unset] [(.ref f1), (.ref aR)])) rfl rfl (hb hby d7_51)
      obtain ⟨cl114, Ar114, Q114, S114, M114, H114, G114⟩ := id P_V_aR
      have in115 : ¬ ((Int32.ofNat rc) < 0 ∨ cl114.slots.size ≤ ((Int32.ofNat rc)).toNatClampNeg) := inb_of S114 ⟨nn32 (by omega), lt32 hfr.1 (by omega)⟩
      obtain ⟨T116, h116, X116, e116, W116, st116⟩ := stI X113 hx hZ e113 Ar114 (j := (Int32.ofNat rc)) in115 (g := (mkF m 55 #[.val (.ref f1), .val (.int (Int32.ofNat vv)), .val (.double d1), .second, .unset] [(.int (Int32.ofNat vv)), (.int (Int32.ofNat rc)), (.ref aR)])) rfl rfl (hb hby d7_55)
      have z117 : n0 ≤ h116.size := Nat.le_trans Z0 (Keep.of_wr W116).1
      have k118 : Keep h0 h116 [f1, aD, aR, aO] := (Keep.refl h0 [f1, aD, aR, aO]).wr W116 (Or.inl (List.mem_of_getElem? (i := 2) rfl))
      have V116 : Arv Z h116 aR kR .int (Int32.ofNat n) (own_LN (own_up rch rc vv) n) (.int (0 : Int32)) := own_LN_set rch n rc vv ▸ Arv.set Ar114 Q114 S114 M114 H114 G114 rfl W116 rc (n32 (by omega)) (by rw [own_LN_len]; exact hfr.1)
      have N116 : Fr n0 _ := Fr.snoc X116 N101 P_G_aR
      have f119 : Fld Z h116 f1 "com/example/slotwright/slotwright/exchange/Frontier" "reachedCount" "I" (.int (Int32.ofNat rc)) := (P_F_f1_reachedCount.other W116 (Or.inl P_ne_f1_aR))
      obtain ⟨T120, X120, e120, st120⟩ := getF X116 hx hZ hown (host := "") (Or.inl (hw _ (List.mem_of_getElem? (i := 41) rfl))) Via.refl e116 f119 (g := (mkF m 58 #[.val (.ref f1), .val (.int (Int32.ofNat vv)), .val (.double d1), .second, .unset] [(.ref f1), (.ref f1)])) rfl rfl (hb hby d7_58)
      have f121 : Exa Z h116 f1 "com/example/slotwright/slotwright/exchange/Frontier" := (P_E_f1.wr W116)
      obtain ⟨T122, h122, X122, e122, W122, st122⟩ := putF X120 hx hZ hown (host := "") (Or.inl (hw _ (List.mem_of_getElem? (i := 41) rfl))) Via.refl e120 f119 f121 (Or.inl (hw _ (List.mem_of_getElem? (i := 42) rfl))) (hw _ (List.mem_of_getElem? (i := 1) rfl)) (ty := .int) (by decide) rfl rfl (g := (mkF m 63 #[.val (.ref f1), .val (.int (Int32.ofNat vv)), .val (.double d1), .second, .unset] [(.int (Int32.ofNat (rc + 1))), (.ref f1)])) rfl rfl (hb hby d7_63)
      have F122 : Fld Z h122 f1 "com/example/slotwright/slotwright/exchange/Frontier" "reachedCount" "I" (.int (Int32.ofNat (rc + 1))) := f119.same W122
      have z123 : n0 ≤ h122.size := Nat.le_trans z117 (Keep.of_wr W122).1
      have k124 : Keep h0 h122 [f1, aD, aR, aO] := k118.wr W122 (Or.inl (List.mem_of_getElem? (i := 0) rfl))
      have N122 : Fr n0 _ := Fr.snoc X122 N116 P_G_f1
      have f125 : Fld Z h122 f1 "com/example/slotwright/slotwright/exchange/Frontier" "open" "[I" (.ref aO) := ((P_F_f1_open.other W116 (Or.inl P_ne_f1_aR)).other W122 (Or.inr (slot_ne (Or.inr (hw _ (List.mem_of_getElem? (i := 24) rfl))) (Or.inl (hw _ (List.mem_of_getElem? (i := 42) rfl))) (by decide) (t := (.array .int)) (t' := .int) (by decide) (by decide))))
      obtain ⟨T126, X126, e126, st126⟩ := getF X122 hx hZ hown (host := "") (Or.inl (hw _ (List.mem_of_getElem? (i := 23) rfl))) Via.refl e122 f125 (g := (mkF m 67 #[.val (.ref f1), .val (.int (Int32.ofNat vv)), .val (.double d1), .second, .unset] [(.ref f1)])) rfl rfl (hb hby d7_67)
      have f127 : Fld Z h122 f1 "com/example/slotwright/slotwright/exchange/Frontier" "openCount" "I" (.int (Int32.ofNat oc)) := ((P_F_f1_openCount.other W116 (Or.inl P_ne_f1_aR)).other W122 (Or.inr (slot_ne (Or.inl (hw _ (List.mem_of_getElem? (i := 31) rfl))) (Or.inl (hw _ (List.mem_of_getElem? (i := 42) rfl))) (by decide) (t := .int) (t' := .int) (by decide) (by decide))))
      obtain ⟨T128, X128, e128, st128⟩ := getF X126 hx hZ hown (host := "") (Or.inl (hw _ (List.mem_of_getElem? (i := 30) rfl))) Via.refl e126 f127 (g := (mkF m 71 #[.val (.ref f1), .val (.int (Int32.ofNat vv)), .val (.double d1), .second, .unset] [(.ref f1), (.ref aO)])) rfl rfl (hb hby d7_71)
      have f129 : Arv Z h122 aO kO .int (Int32.ofNat n) (own_LN opn n) (.int (0 : Int32)) := ((P_V_aO.other W116 (Ne.symm P_ne_aR_aO)).other W122 (Ne.symm P_ne_f1_aO))
      obtain ⟨cl130, Ar130, Q130, S130, M130, H130, G130⟩ := id f129
      have in131 : ¬ ((Int32.ofNat oc) < 0 ∨ cl130.slots.size ≤ ((Int32.ofNat oc)).toNatClampNeg) := inb_of S130 ⟨nn32 (by omega), lt32 hfr.2 (by omega)⟩
      obtain ⟨T132, h132, X132, e132, W132, st132⟩ := stI X128 hx hZ e128 Ar130 (j := (Int32.ofNat oc)) in131 (g := (mkF m 75 #[.val (.ref f1), .val (.int (Int32.ofNat vv)), .val (.double d1), .second, .unset] [(.int (Int32.ofNat vv)), (.int (Int32.ofNat oc)), (.ref aO)])) rfl rfl (hb hby d7_75)
      have z133 : n0 ≤ h132.size := Nat.le_trans z123 (Keep.of_wr W132).1
      have k134 : Keep h0 h132 [f1, aD, aR, aO] := k124.wr W132 (Or.inl (List.mem_of_getElem? (i := 3) rfl))
      have V132 : Arv Z h132 aO kO .int (Int32.ofNat n) (own_LN (own_up opn oc vv) n) (.int (0 : Int32)) := own_LN_set opn n oc vv ▸ Arv.set Ar130 Q130 S130 M130 H130 G130 rfl W132 oc (n32 (by omega)) (by rw [own_LN_len]; exact hfr.2)
      have N132 : Fr n0 _ := Fr.snoc X132 N122 P_G_aO
      have f135 : Fld Z h132 f1 "com/example/slotwright/slotwright/exchange/Frontier" "openCount" "I" (.int (Int32.ofNat oc)) := (f127.other W132 (Or.inl P_ne_f1_aO))
      obtain ⟨T136, X136, e136, st136⟩ := getF X132 hx hZ hown (host := "") (Or.inl (hw _ (List.mem_of_getElem? (i := 30) rfl))) Via.refl e132 f135 (g := (mkF m 78 #[.val (.ref f1), .val (.int (Int32.ofNat vv)), .val (.double d1), .second, .unset] [(.ref f1), (.ref f1)])) rfl rfl (hb hby d7_78)
      have f137 : Exa Z h132 f1 "com/example/slotwright/slotwright/exchange/Frontier" := ((f121.wr W122).wr W132)
      obtain ⟨T138, h138, X138, e138, W138, st138⟩ := putF X136 hx hZ hown (host := "") (Or.inl (hw _ (List.mem_of_getElem? (i := 30) rfl))) Via.refl e136 f135 f137 (Or.inl (hw _ (List.mem_of_getElem? (i := 31) rfl))) (hw _ (List.mem_of_getElem? (i := 1) rfl)) (ty := .int) (by decide) rfl rfl (g := (mkF m 83 #[.val (.ref f1), .val (.int (Int32.ofNat vv)), .val (.double d1), .second, .unset] [(.int (Int32.ofNat (oc + 1))), (.ref f1)])) rfl rfl (hb hby d7_83)
      have F138 : Fld Z h138 f1 "com/example/slotwright/slotwright/exchange/Frontier" "openCount" "I" (.int (Int32.ofNat (oc + 1))) := f135.same W138
      have z139 : n0 ≤ h138.size := Nat.le_trans z133 (Keep.of_wr W138).1
      have k140 : Keep h0 h138 [f1, aD, aR, aO] := k134.wr W138 (Or.inl (List.mem_of_getElem? (i := 0) rfl))
      have N138 : Fr n0 _ := Fr.snoc X138 N132 P_G_f1
      have f141 : Fld Z h138 f1 "com/example/slotwright/slotwright/exchange/Frontier" "distance" "[D" (.ref aD) := ((((P_F_f1_distance.other W116 (Or.inl P_ne_f1_aR)).other W122 (Or.inr (slot_ne (Or.inr (hw _ (List.mem_of_getElem? (i := 11) rfl))) (Or.inl (hw _ (List.mem_of_getElem? (i := 42) rfl))) (by decide) (t := (.array .double)) (t' := .int) (by decide) (by decide)))).other W132 (Or.inl P_ne_f1_aO)).other W138 (Or.inr (slot_ne (Or.inr (hw _ (List.mem_of_getElem? (i := 11) rfl))) (Or.inl (hw _ (List.mem_of_getElem? (i := 31) rfl))) (by decide) (t := (.array .double)) (t' := .int) (by decide) (by decide))))
      obtain ⟨T142, X142, e142, st142⟩ := getF X138 hx hZ hown (host := "") (Or.inl (hw _ (List.mem_of_getElem? (i := 10) rfl))) Via.refl e138 f141 (g := (mkF m 88 #[.val (.ref f1), .val (.int (Int32.ofNat vv)), .val (.double d1), .second, .unset] [(.ref f1), (.double d1)])) rfl rfl (hb hby d7_88)
      have f143 : Arv Z h138 aD kD .double (Int32.ofNat n) (own_LD dist n) (.double (0 : UInt64)) := ((((P_V_aD.other W116 P_ne_aD_aR).other W122 (Ne.symm P_ne_f1_aD)).other W132 P_ne_aD_aO).other W138 (Ne.symm P_ne_f1_aD))
      obtain ⟨cl144, Ar144, Q144, S144, M144, H144, G144⟩ := id f143
      have in145 : ¬ ((Int32.ofNat vv) < 0 ∨ cl144.slots.size ≤ ((Int32.ofNat vv)).toNatClampNeg) := inb_of S144 ⟨nn32 (by omega), lt32 hv (by omega)⟩
      have at146 : cl144.slots[((Int32.ofNat vv)).toNatClampNeg]? = some (.double (dist vv)) := by rw [n32 (by omega), H144 vv (by rw [S144, n32 (by omega)]; exact hv), own_LD_at _ hv]
      obtain ⟨T147, X147, e147, st147⟩ := getF X142 hx hZ hown (host := "") (Or.inl (hw _ (List.mem_of_getElem? (i := 10) rfl))) Via.refl e142 f141 (g := (mkF m 110 #[.val (.ref f1), .val (.int (Int32.ofNat vv)), .val (.double d1), .second, .val (.int (1 : Int32))] [(.ref f1)])) rfl rfl (hb hby d7_110)
      obtain ⟨cl148, Ar148, Q148, S148, M148, H148, G148⟩ := id f143
      have in149 : ¬ ((Int32.ofNat vv) < 0 ∨ cl148.slots.size ≤ ((Int32.ofNat vv)).toNatClampNeg) := inb_of S148 ⟨nn32 (by omega), lt32 hv (by omega)⟩
      obtain ⟨T150, h150, X150, e150, W150, st150⟩ := stD X147 hx hZ e147 Ar148 (j := (Int32.ofNat vv)) in149 (g := (mkF m 115 #[.val (.ref f1), .val (.int (Int32.ofNat vv)), .val (.double d1), .second, .val (.int (1 : Int32))] [(.double d1), (.int (Int32.ofNat vv)), (.ref aD)])) rfl rfl (hb hby d7_115)
      have z151 : n0 ≤ h150.size := Nat.le_trans z139 (Keep.of_wr W150).1
      have k152 : Keep h0 h150 [f1, aD, aR, aO] := k140.wr W150 (Or.inl (List.mem_of_getElem? (i := 1) rfl))
      have V150 : Arv Z h150 aD kD .double (Int32.ofNat n) (own_LD (own_up dist vv d1) n) (.double (0 : UInt64)) := own_LD_set dist n vv d1 ▸ Arv.set Ar148 Q148 S148 M148 H148 G148 rfl W150 vv (n32 (by omega)) (by rw [own_LD_len]; exact hv)
      have N150 : Fr n0 _ := Fr.snoc X150 N138 P_G_aD
      have pre153 : ∀ t_, Steps p.tables e below (T150.setTop (mkF m 118 #[.val (.ref f1), .val (.int (Int32.ofNat vv)), .val (.double d1), .second, .val (.int (1 : Int32))] [(.int (1 : Int32))])) t_ → Steps p.tables e below (s₁.setTop (entryFrame m #[(.ref f1), (.int (Int32.ofNat vv)), (.double d1)] 5)) t_ := fun t_ kt => pre111 t_ (by
          show Steps p.tables e below (T107.setTop (mkF m 43 #[.val (.ref f1), .val (.int (Int32.ofNat vv)), .val (.double d1), .second, .unset] [(.int (cmpValue (FP.dcmp (dist vv) (9218868437227405312 : UInt64)) .l))])) _
          refine XS.ifNo X107.here hx rfl (hb hby d7_43) rfl ((if0 _ _).trans (teq (hi : (cmpValue (FP.dcmp (dist vv) (9218868437227405312 : UInt64)) .l) = (0 : Int32))).2) ?_
          show Steps p.tables e below (T107.setTop (mkF m 46 #[.val (.ref f1), .val (.int (Int32.ofNat vv)), .val (.double d1), .second, .unset] [])) _
          refine XS.aloadN X107.here hx rfl (hb hby d7_46) rfl rfl ?_
          show Steps p.tables e below (T107.setTop (mkF m 47 #[.val (.ref f1), .val (.int (Int32.ofNat vv)), .val (.double d1), .second, .unset] [(.ref f1)])) _
          refine st112 _ ?_
          show Steps p.tables e below (T112.setTop (mkF m 50 #[.val (.ref f1), .val (.int (Int32.ofNat vv)), .val (.double d1), .second, .unset] [(.ref aR)])) _
          refine XS.aloadN X112.here hx rfl (hb hby d7_50) rfl rfl ?_
          show Steps p.tables e below (T112.setTop (mkF m 51 #[.val (.ref f1), .val (.int (Int32.ofNat vv)), .val (.double d1), .second, .unset] [(.ref f1), (.ref aR)])) _
          refine st113 _ ?_
          show Steps p.tables e below (T113.setTop (mkF m 54 #[.val (.ref f1), .val (.int (Int32.ofNat vv)), .val (.double d1), .second, .unset] [(.int (Int32.ofNat rc)), (.ref aR)])) _
          refine XS.iloadN X113.here hx rfl (hb hby d7_54) rfl ?_
          show Steps p.tables e below (T113.setTop (mkF m 55 #[.val (.ref f1), .val (.int (Int32.ofNat vv)), .val (.double d1), .second, .unset] [(.int (Int32.ofNat vv)), (.int (Int32.ofNat rc)), (.ref aR)])) _
          refine st116 _ ?_
          show Steps p.tables e below (T116.setTop (mkF m 56 #[.val (.ref f1), .val (.int (Int32.ofNat vv)), .val (.double d1), .second, .unset] [])) _
          refine XS.aloadN X116.here hx rfl (hb hby d7_56) rfl rfl ?_
          show Steps p.tables e below (T116.setTop (mkF m 57 #[.val (.ref f1), .val (.int (Int32.ofNat vv)), .val (.double d1), .second, .unset] [(.ref f1)])) _
          refine XS.dup X116.here hx rfl (hb hby d7_57) rfl rfl ?_
          show Steps p.tables e below (T116.setTop (mkF m 58 #[.val (.ref f1), .val (.int (Int32.ofNat vv)), .val (.double d1), .second, .unset] [(.ref f1), (.ref f1)])) _
          refine st120 _ ?_
          show Steps p.tables e below (T120.setTop (mkF m 61 #[.val (.ref f1), .val (.int (Int32.ofNat vv)), .val (.double d1), .second, .unset] [(.int (Int32.ofNat rc)), (.ref f1)])) _
          refine XS.iconst X120.here hx rfl (hb hby d7_61) ?_
          show Steps p.tables e below (T120.setTop (mkF m 62 #[.val (.ref f1), .val (.int (Int32.ofNat vv)), .val (.double d1), .second, .unset] [(.int (1 : Int32)), (.int (Int32.ofNat rc)), (.ref f1)])) _
          refine XS.iadd X120.here hx rfl (hb hby d7_62) rfl ?_
          show Steps p.tables e below (T120.setTop (mkF m 63 #[.val (.ref f1), .val (.int (Int32.ofNat vv)), .val (.double d1), .second, .unset] [(.int ((Int32.ofNat rc) + (1 : Int32))), (.ref f1)])) _
          rw [one32 rc]
          show Steps p.tables e below (T120.setTop (mkF m 63 #[.val (.ref f1), .val (.int (Int32.ofNat vv)), .val (.double d1), .second, .unset] [(.int (Int32.ofNat (rc + 1))), (.ref f1)])) _
          refine st122 _ ?_
          show Steps p.tables e below (T122.setTop (mkF m 66 #[.val (.ref f1), .val (.int (Int32.ofNat vv)), .val (.double d1), .second, .unset] [])) _
          refine XS.aloadN X122.here hx rfl (hb hby d7_66) rfl rfl ?_
          show Steps p.tables e below (T122.setTop (mkF m 67 #[.val (.ref f1), .val (.int (Int32.ofNat vv)), .val (.double d1), .second, .unset] [(.ref f1)])) _
          refine st126 _ ?_
          show Steps p.tables e below (T126.setTop (mkF m 70 #[.val (.ref f1), .val (.int (Int32.ofNat vv)), .val (.double d1), .second, .unset] [(.ref aO)])) _
          refine XS.aloadN X126.here hx rfl (hb hby d7_70) rfl rfl ?_
          show Steps p.tables e below (T126.setTop (mkF m 71 #[.val (.ref f1), .val (.int (Int32.ofNat vv)), .val (.double d1), .second, .unset] [(.ref f1), (.ref aO)])) _
          refine st128 _ ?_
          show Steps p.tables e below (T128.setTop (mkF m 74 #[.val (.ref f1), .val (.int (Int32.ofNat vv)), .val (.double d1), .second, .unset] [(.int (Int32.ofNat oc)), (.ref aO)])) _
          refine XS.iloadN X128.here hx rfl (hb hby d7_74) rfl ?_
          show Steps p.tables e below (T128.setTop (mkF m 75 #[.val (.ref f1), .val (.int (Int32.ofNat vv)), .val (.double d1), .second, .unset] [(.int (Int32.ofNat vv)), (.int (Int32.ofNat oc)), (.ref aO)])) _
          refine st132 _ ?_
          show Steps p.tables e below (T132.setTop (mkF m 76 #[.val (.ref f1), .val (.int (Int32.ofNat vv)), .val (.double d1), .second, .unset] [])) _
          refine XS.aloadN X132.here hx rfl (hb hby d7_76) rfl rfl ?_
          show Steps p.tables e below (T132.setTop (mkF m 77 #[.val (.ref f1), .val (.int (Int32.ofNat vv)), .val (.double d1), .second, .unset] [(.ref f1)])) _
          refine XS.dup X132.here hx rfl (hb hby d7_77) rfl rfl ?_
          show Steps p.tables e below (T132.setTop (mkF m 78 #[.val (.ref f1), .val (.int (Int32.ofNat vv)), .val (.double d1), .second, .unset] [(.ref f1), (.ref f1)])) _
          refine st136 _ ?_
          show Steps p.tables e below (T136.setTop (mkF m 81 #[.val (.ref f1), .val (.int (Int32.ofNat vv)), .val (.double d1), .second, .unset] [(.int (Int32.ofNat oc)), (.ref f1)])) _
          refine XS.iconst X136.here hx rfl (hb hby d7_81) ?_
          show Steps p.tables e below (T136.setTop (mkF m 82 #[.val (.ref f1), .val (.int (Int32.ofNat vv)), .val (.double d1), .second, .unset] [(.int (1 : Int32)), (.int (Int32.ofNat oc)), (.ref f1)])) _
          refine XS.iadd X136.here hx rfl (hb hby d7_82) rfl ?_
          show Steps p.tables e below (T136.setTop (mkF m 83 #[.val (.ref f1), .val (.int (Int32.ofNat vv)), .val (.double d1), .second, .unset] [(.int ((Int32.ofNat oc) + (1 : Int32))), (.ref f1)])) _
          rw [one32 oc]
          show Steps p.tables e below (T136.setTop (mkF m 83 #[.val (.ref f1), .val (.int (Int32.ofNat vv)), .val (.double d1), .second, .unset] [(.int (Int32.ofNat (oc + 1))), (.ref f1)])) _
          refine st138 _ ?_
          show Steps p.tables e below (T138.setTop (mkF m 86 #[.val (.ref f1), .val (.int (Int32.ofNat vv)), .val (.double d1), .second, .unset] [])) _
          refine XS.dloadN X138.here hx rfl (hb hby d7_86) rfl ?_
          show Steps p.tables e below (T138.setTop (mkF m 87 #[.val (.ref f1), .val (.int (Int32.ofNat vv)), .val (.double d1), .second, .unset] [(.double d1)])) _
          refine XS.aloadN X138.here hx rfl (hb hby d7_87) rfl rfl ?_
          show Steps p.tables e below (T138.setTop (mkF m 88 #[.val (.ref f1), .val (.int (Int32.ofNat vv)), .val (.double d1), .second, .unset] [(.ref f1), (.double d1)])) _
          refine st142 _ ?_
          show Steps p.tables e below (T142.setTop (mkF m 91 #[.val (.ref f1), .val (.int (Int32.ofNat vv)), .val (.double d1), .second, .unset] [(.ref aD), (.double d1)])) _
          refine XS.iloadN X142.here hx rfl (hb hby d7_91) rfl ?_
          show Steps p.tables e below (T142.setTop (mkF m 92 #[.val (.ref f1), .val (.int (Int32.ofNat vv)), .val (.double d1), .second, .unset] [(.int (Int32.ofNat vv)), (.ref aD), (.double d1)])) _
          refine X142.daload hx (j := (Int32.ofNat vv)) (v := (.double (dist vv))) (by rw [e142]; exact Ar144.1) (State.isArrayOf_alike hZ.alike Ar144.2.1) Ar144.2.2 in145 at146 (g := (mkF m 92 #[.val (.ref f1), .val (.int (Int32.ofNat vv)), .val (.double d1), .second, .unset] [(.int (Int32.ofNat vv)), (.ref aD), (.double d1)])) rfl rfl (hb hby d7_92) _ ?_
          show Steps p.tables e below (T142.setTop (mkF m 93 #[.val (.ref f1), .val (.int (Int32.ofNat vv)), .val (.double d1), .second, .unset] [(.double (dist vv)), (.double d1)])) _
          refine XS.dcmpS X142.here hx rfl (hb hby d7_93) rfl (v := (cmpValue (FP.dcmp d1 (dist vv)) .g)) rfl ?_
          show Steps p.tables e below (T142.setTop (mkF m 94 #[.val (.ref f1), .val (.int (Int32.ofNat vv)), .val (.double d1), .second, .unset] [(.int (cmpValue (FP.dcmp d1 (dist vv)) .g))])) _
          refine XS.ifNo X142.here hx rfl (hb hby d7_94) rfl ((if0 _ _).trans (tlt (by rw [hie]; rw [show own_inf = (9218868437227405312 : UInt64) from rfl, dcmp_pinf hd]; decide : (cmpValue (FP.dcmp d1 (dist vv)) .g) < (0 : Int32))).2.1) ?_
          show Steps p.tables e below (T142.setTop (mkF m 97 #[.val (.ref f1), .val (.int (Int32.ofNat vv)), .val (.double d1), .second, .unset] [])) _
          refine XS.iconst X142.here hx rfl (hb hby d7_97) ?_
          show Steps p.tables e below (T142.setTop (mkF m 98 #[.val (.ref f1), .val (.int (Int32.ofNat vv)), .val (.double d1), .second, .unset] [(.int (1 : Int32))])) _
          refine XS.goto X142.here hx rfl (pc0 := 98) (pc' := 102) rfl (hb hby d7_98) (by decide) (by decide) ?_
          show Steps p.tables e below (T142.setTop (mkF m 102 #[.val (.ref f1), .val (.int (Int32.ofNat vv)), .val (.double d1), .second, .unset] [(.int (1 : Int32))])) _
          refine XS.istore X142.here hx rfl (hb hby d7_102) rfl (l' := #[.val (.ref f1), .val (.int (Int32.ofNat vv)), .val (.double d1), .second, .val (.int (1 : Int32))]) rfl ?_
          show Steps p.tables e below (T142.setTop (mkF m 104 #[.val (.ref f1), .val (.int (Int32.ofNat vv)), .val (.double d1), .second, .val (.int (1 : Int32))] [])) _
          refine XS.iload X142.here hx rfl (hb hby d7_104) rfl ?_
          show Steps p.tables e below (T142.setTop (mkF m 106 #[.val (.ref f1), .val (.int (Int32.ofNat vv)), .val (.double d1), .second, .val (.int (1 : Int32))] [(.int (1 : Int32))])) _
          refine XS.ifNo X142.here hx rfl (hb hby d7_106) rfl ((if0 _ _).trans (feq ((by decide) : ¬ ((1 : Int32) = (0 : Int32)))).1) ?_
          show Steps p.tables e below (T142.setTop (mkF m 109 #[.val (.ref f1), .val (.int (Int32.ofNat vv)), .val (.double d1), .second, .val (.int (1 : Int32))] [])) _
          refine XS.aloadN X142.here hx rfl (hb hby d7_109) rfl rfl ?_
          show Steps p.tables e below (T142.setTop (mkF m 110 #[.val (.ref f1), .val (.int (Int32.ofNat vv)), .val (.double d1), .second, .val (.int (1 : Int32))] [(.ref f1)])) _
          refine st147 _ ?_
          show Steps p.tables e below (T147.setTop (mkF m 113 #[.val (.ref f1), .val (.int (Int32.ofNat vv)), .val (.double d1), .second, .val (.int (1 : Int32))] [(.ref aD)])) _
          refine XS.iloadN X147.here hx rfl (hb hby d7_113) rfl ?_
          show Steps p.tables e below (T147.setTop (mkF m 114 #[.val (.ref f1), .val (.int (Int32.ofNat vv)), .val (.double d1), .second, .val (.int (1 : Int32))] [(.int (Int32.ofNat vv)), (.ref aD)])) _
          refine XS.dloadN X147.here hx rfl (hb hby d7_114) rfl ?_
          show Steps p.tables e below (T147.setTop (mkF m 115 #[.val (.ref f1), .val (.int (Int32.ofNat vv)), .val (.double d1), .second, .val (.int (1 : Int32))] [(.double d1), (.int (Int32.ofNat vv)), (.ref aD)])) _
          refine st150 _ ?_
          show Steps p.tables e below (T150.setTop (mkF m 116 #[.val (.ref f1), .val (.int (Int32.ofNat vv)), .val (.double d1), .second, .val (.int (1 : Int32))] [])) _
          refine XS.iload X150.here hx rfl (hb hby d7_116) rfl ?_
          exact kt)
      have f154 : Exa Z h150 f1 "com/example/slotwright/slotwright/exchange/Frontier" := ((f137.wr W138).wr W150)
      have f155 : Fld Z h150 f1 "com/example/slotwright/slotwright/exchange/Frontier" "distance" "[D" (.ref aD) := (f141.other W150 (Or.inl P_ne_f1_aD))
      have f156 : Fld Z h150 f1 "com/example/slotwright/slotwright/exchange/Frontier" "settled" "[Z" (.ref aS) := (((((P_F_f1_settled.other W116 (Or.inl P_ne_f1_aR)).other W122 (Or.inr (slot_ne (Or.inr (hw _ (List.mem_of_getElem? (i := 19) rfl))) (Or.inl (hw _ (List.mem_of_getElem? (i := 42) rfl))) (by decide) (t := (.array .boolean)) (t' := .int) (by decide) (by decide)))).other W132 (Or.inl P_ne_f1_aO)).other W138 (Or.inr (slot_ne (Or.inr (hw _ (List.mem_of_getElem? (i := 19) rfl))) (Or.inl (hw _ (List.mem_of_getElem? (i := 31) rfl))) (by decide) (t := (.array .boolean)) (t' := .int) (by decide) (by decide)))).other W150 (Or.inl P_ne_f1_aD))
      have f157 : Fld Z h150 f1 "com/example/slotwright/slotwright/exchange/Frontier" "reached" "[I" (.ref aR) := (((((P_F_f1_reached.other W116 (Or.inl P_ne_f1_aR)).other W122 (Or.inr (slot_ne (Or.inr (hw _ (List.mem_of_getElem? (i := 22) rfl))) (Or.inl (hw _ (List.mem_of_getElem? (i := 42) rfl))) (by decide) (t := (.array .int)) (t' := .int) (by decide) (by decide)))).other W132 (Or.inl P_ne_f1_aO)).other W138 (Or.inr (slot_ne (Or.inr (hw _ (List.mem_of_getElem? (i := 22) rfl))) (Or.inl (hw _ (List.mem_of_getElem? (i := 31) rfl))) (by decide) (t := (.array .int)) (t' := .int) (by decide) (by decide)))).other W150 (Or.inl P_ne_f1_aD))
      have f158 : Fld Z h150 f1 "com/example/slotwright/slotwright/exchange/Frontier" "open" "[I" (.ref aO) := (((f125.other W132 (Or.inl P_ne_f1_aO)).other W138 (Or.inr (slot_ne (Or.inr (hw _ (List.mem_of_getElem? (i := 24) rfl))) (Or.inl (hw _ (List.mem_of_getElem? (i := 31) rfl))) (by decide) (t := (.array .int)) (t' := .int) (by decide) (by decide)))).other W150 (Or.inl P_ne_f1_aD))
      have f159 : Fld Z h150 f1 "com/example/slotwright/slotwright/exchange/Frontier" "reachedCount" "I" (.int (Int32.ofNat (rc + 1))) := (((F122.other W132 (Or.inl P_ne_f1_aO)).other W138 (Or.inr (slot_ne (Or.inl (hw _ (List.mem_of_getElem? (i := 42) rfl))) (Or.inl (hw _ (List.mem_of_getElem? (i := 31) rfl))) (by decide) (t := .int) (t' := .int) (by decide) (by decide)))).other W150 (Or.inl P_ne_f1_aD))
      have f160 : Fld Z h150 f1 "com/example/slotwright/slotwright/exchange/Frontier" "openCount" "I" (.int (Int32.ofNat (oc + 1))) := (F138.other W150 (Or.inl P_ne_f1_aD))
      have f161 : Arv Z h150 aS kS .boolean (Int32.ofNat n) (own_LZ st n) (.int (0 : Int32)) := (((((P_V_aS.other W116 P_ne_aS_aR).other W122 (Ne.symm P_ne_f1_aS)).other W132 P_ne_aS_aO).other W138 (Ne.symm P_ne_f1_aS)).other W150 (Ne.symm P_ne_aD_aS))
      have f162 : Arv Z h150 aR kR .int (Int32.ofNat n) (own_LN (own_up rch rc vv) n) (.int (0 : Int32)) := ((((V116.other W122 (Ne.symm P_ne_f1_aR)).other W132 P_ne_aR_aO).other W138 (Ne.symm P_ne_f1_aR)).other W150 (Ne.symm P_ne_aD_aR))
      have f163 : Arv Z h150 aO kO .int (Int32.ofNat n) (own_LN (own_up opn oc vv) n) (.int (0 : Int32)) := ((V132.other W138 (Ne.symm P_ne_f1_aO)).other W150 (Ne.symm P_ne_aD_aO))
      obtain ⟨fs, hr, hrun, hended, hW, hsame⟩ := X150.leave (v := some (.int (1 : Int32))) (fun h => by rw [Bd.returns] at h; cases h)
      refine ⟨_, _, pre153 _ ?_, hrun, hended, _, _, rfl, ?_, ⟨_, rfl⟩, hW, hsame.mono (by decide) (by decide)⟩
      · show Steps p.tables e below (T150.setTop (mkF m 118 #[.val (.ref f1), .val (.int (Int32.ofNat vv)), .val (.double d1), .second, .val (.int (1 : Int32))] [(.int (1 : Int32))])) _
        exact retN X150 hx (t := .boolean) Bd.returns (by simp) (hb hby d7_118) hr
      · show QFreach Z f1 d1 aD aS aR aO kD kS kR kO n dist st rch rc opn oc vv h0 n0 _ T150.heap _
        rw [e150]
        exact ⟨(own_up dist vv d1), (own_up rch rc vv), (rc + 1), (own_up opn oc vv), (oc + 1), (1 : Int32), rfl, N150, k152, f154, f155, f156, f157, f158, f159, f160, V150, f161, f162, f163, Or.inr (Or.inl ⟨hs, hie, rfl, rfl, rfl, rfl, rfl⟩)⟩
    · skip
      have hne := own_infne hi
      obtain ⟨T164, X164, e164, st164⟩ := getF X107 hx hZ hown (host := "") (Or.inl (hw _ (List.mem_of_getElem? (i := 10) rfl))) Via.refl e107 P_F_f1_distance (g := (mkF m 88 #[.val (.ref f1), .val (.int (Int32.ofNat vv)), .val (.double d1), .second, .unset] [(.ref f1), (.double d1)])) rfl rfl (hb hby d7_88)
      obtain ⟨cl165, Ar165, Q165, S165, M165, H165, G165⟩ := id P_V_aD
      have in166 : ¬ ((Int32.ofNat vv) < 0 ∨ cl165.slots.size ≤ ((Int32.ofNat vv)).toNatClampNeg) := inb_of S165 ⟨nn32 (by omega), lt32 hv (by omega)⟩
      have at167 : cl165.slots[((Int32.ofNat vv)).toNatClampNeg]? = some (.double (dist vv)) := by rw [n32 (by omega), H165 vv (by rw [S165, n32 (by omega)]; exact hv), own_LD_at _ hv]
      have pre168 : ∀ t_, Steps p.tables e below (T164.setTop (mkF m 94 #[.val (.ref f1), .val (.int (Int32.ofNat vv)), .val (.double d1), .second, .unset] [(.int (cmpValue (FP.dcmp d1 (dist vv)) .g))])) t_ → Steps p.tables e below (s₁.setTop (entryFrame m #[(.ref f1), (.int (Int32.ofNat vv)), (.double d1)] 5)) t_ := fun t_ kt => pre111 t_ (by
          show Steps p.tables e below (T107.setTop (mkF m 43 #[.val (.ref f1), .val (.int (Int32.ofNat vv)), .val (.double d1), .second, .unset] [(.int (cmpValue (FP.dcmp (dist vv) (9218868437227405312 : UInt64)) .l))])) _
          refine XS.ifYes X107.here hx rfl (pc0 := 43) (pc' := 86) rfl (hb hby d7_43) rfl ((if0 _ _).trans (feq (hi : ¬ ((cmpValue (FP.dcmp (dist vv) (9218868437227405312 : UInt64)) .l) = (0 : Int32)))).2) (by decide) (by decide) ?_
          show Steps p.tables e below (T107.setTop (mkF m 86 #[.val (.ref f1), .val (.int (Int32.ofNat vv)), .val (.double d1), .second, .unset] [])) _
          refine XS.dloadN X107.here hx rfl (hb hby d7_86) rfl ?_
          show Steps p.tables e below (T107.setTop (mkF m 87 #[.val (.ref f1), .val (.int (Int32.ofNat vv)), .val (.double d1), .second, .unset] [(.double d1)])) _
          refine XS.aloadN X107.here hx rfl (hb hby d7_87) rfl rfl ?_
          show Steps p.tables e below (T107.setTop (mkF m 88 #[.val (.ref f1), .val (.int (Int32.ofNat vv)), .val (.double d1), .second, .unset] [(.ref f1), (.double d1)])) _
          refine st164 _ ?_
          show Steps p.tables e below (T164.setTop (mkF m 91 #[.val (.ref f1), .val (.int (Int32.ofNat vv)), .val (.double d1), .second, .unset] [(.ref aD), (.double d1)])) _
          refine XS.iloadN X164.here hx rfl (hb hby d7_91) rfl ?_
          show Steps p.tables e below (T164.setTop (mkF m 92 #[.val (.ref f1), .val (.int (Int32.ofNat vv)), .val (.double d1), .second, .unset] [(.int (Int32.ofNat vv)), (.ref aD), (.double d1)])) _
          refine X164.daload hx (j := (Int32.ofNat vv)) (v := (.double (dist vv))) (by rw [e164]; exact Ar165.1) (State.isArrayOf_alike hZ.alike Ar165.2.1) Ar165.2.2 in166 at167 (g := (mkF m 92 #[.val (.ref f1), .val (.int (Int32.ofNat vv)), .val (.double d1), .second, .unset] [(.int (Int32.ofNat vv)), (.ref aD), (.double d1)])) rfl rfl (hb hby d7_92) _ ?_
          show Steps p.tables e below (T164.setTop (mkF m 93 #[.val (.ref f1), .val (.int (Int32.ofNat vv)), .val (.double d1), .second, .unset] [(.double (dist vv)), (.double d1)])) _
          refine XS.dcmpS X164.here hx rfl (hb hby d7_93) rfl (v := (cmpValue (FP.dcmp d1 (dist vv)) .g)) rfl ?_
          exact kt)
      by_cases hl : (cmpValue (FP.dcmp d1 (dist vv)) .g) < (0 : Int32)
      · skip
        obtain ⟨T169, X169, e169, st169⟩ := getF X164 hx hZ hown (host := "") (Or.inl (hw _ (List.mem_of_getElem? (i := 10) rfl))) Via.refl e164 P_F_f1_distance (g := (mkF m 110 #[.val (.ref f1), .val (.int (Int32.ofNat vv)), .val (.double d1), .second, .val (.int (1 : Int32))] [(.ref f1)])) rfl rfl (hb hby d7_110)
        obtain ⟨cl170, Ar170, Q170, S170, M170, H170, G170⟩ := id P_V_aD
        have in171 : ¬ ((Int32.ofNat vv) < 0 ∨ cl170.slots.size ≤ ((Int32.ofNat vv)).toNatClampNeg) := inb_of S170 ⟨nn32 (by omega), lt32 hv (by omega)⟩
        obtain ⟨T172, h172, X172, e172, W172, st172⟩ := stD X169 hx hZ e169 Ar170 (j := (Int32.ofNat vv)) in171 (g := (mkF m 115 #[.val (.ref f1), .val (.int (Int32.ofNat vv)), .val (.double d1), .second, .val (.int (1 : Int32))] [(.double d1), (.int (Int32.ofNat vv)), (.ref aD)])) rfl rfl (hb hby d7_115)
        have z173 : n0 ≤ h172.size := Nat.le_trans Z0 (Keep.of_wr W172).1
        have k174 : Keep h0 h172 [f1, aD, aR, aO] := (Keep.refl h0 [f1, aD, aR, aO]).wr W172 (Or.inl (List.mem_of_getElem? (i := 1) rfl))
        have V172 : Arv Z h172 aD kD .double (Int32.ofNat n) (own_LD (own_up dist vv d1) n) (.double (0 : UInt64)) := own_LD_set dist n vv d1 ▸ Arv.set Ar170 Q170 S170 M170 H170 G170 rfl W172 vv (n32 (by omega)) (by rw [own_LD_len]; exact hv)
        have N172 : Fr n0 _ := Fr.snoc X172 N101 P_G_aD
        have pre175 : ∀ t_, Steps p.tables e below (T172.setTop (mkF m 118 #[.val (.ref f1), .val (.int (Int32.ofNat vv)), .val (.double d1), .second, .val (.int (1 : Int32))] [(.int (1 : Int32))])) t_ → Steps p.tables e below (s₁.setTop (entryFrame m #[(.ref f1), (.int (Int32.ofNat vv)), (.double d1)] 5)) t_ := fun t_ kt => pre168 t_ (by
            show Steps p.tables e below (T164.setTop (mkF m 94 #[.val (.ref f1), .val (.int (Int32.ofNat vv)), .val (.double d1), .second, .unset] [(.int (cmpValue (FP.dcmp d1 (dist vv)) .g))])) _
            refine XS.ifNo X164.here hx rfl (hb hby d7_94) rfl ((if0 _ _).trans (tlt (hl : (cmpValue (FP.dcmp d1 (dist vv)) .g) < (0 : Int32))).2.1) ?_
            show Steps p.tables e below (T164.setTop (mkF m 97 #[.val (.ref f1), .val (.int (Int32.ofNat vv)), .val (.double d1), .second, .unset] [])) _
            refine XS.iconst X164.here hx rfl (hb hby d7_97) ?_
            show Steps p.tables e below (T164.setTop (mkF m 98 #[.val (.ref f1), .val (.int (Int32.ofNat vv)), .val (.double d1), .second, .unset] [(.int (1 : Int32))])) _
            refine XS.goto X164.here hx rfl (pc0 := 98) (pc' := 102) rfl (hb hby d7_98) (by decide) (by decide) ?_
            show Steps p.tables e below (T164.setTop (mkF m 102 #[.val (.ref f1), .val (.int (Int32.ofNat vv)), .val (.double d1), .second, .unset] [(.int (1 : Int32))])) _
            refine XS.istore X164.here hx rfl (hb hby d7_102) rfl (l' := #[.val (.ref f1), .val (.int (Int32.ofNat vv)), .val (.double d1), .second, .val (.int (1 : Int32))]) rfl ?_
            show Steps p.tables e below (T164.setTop (mkF m 104 #[.val (.ref f1), .val (.int (Int32.ofNat vv)), .val (.double d1), .second, .val (.int (1 : Int32))] [])) _
            refine XS.iload X164.here hx rfl (hb hby d7_104) rfl ?_
            show Steps p.tables e below (T164.setTop (mkF m 106 #[.val (.ref f1), .val (.int (Int32.ofNat vv)), .val (.double d1), .second, .val (.int (1 : Int32))] [(.int (1 : Int32))])) _
            refine XS.ifNo X164.here hx rfl (hb hby d7_106) rfl ((if0 _ _).trans (feq ((by decide) : ¬ ((1 : Int32) = (0 : Int32)))).1) ?_
            show Steps p.tables e below (T164.setTop (mkF m 109 #[.val (.ref f1), .val (.int (Int32.ofNat vv)), .val (.double d1), .second, .val (.int (1 : Int32))] [])) _
            refine XS.aloadN X164.here hx rfl (hb hby d7_109) rfl rfl ?_
            show Steps p.tables e below (T164.setTop (mkF m 110 #[.val (.ref f1), .val (.int (Int32.ofNat vv)), .val (.double d1), .second, .val (.int (1 : Int32))] [(.ref f1)])) _
            refine st169 _ ?_
            show Steps p.tables e below (T169.setTop (mkF m 113 #[.val (.ref f1), .val (.int (Int32.ofNat vv)), .val (.double d1), .second, .val (.int (1 : Int32))] [(.ref aD)])) _
            refine XS.iloadN X169.here hx rfl (hb hby d7_113) rfl ?_
            show Steps p.tables e below (T169.setTop (mkF m 114 #[.val (.ref f1), .val (.int (Int32.ofNat vv)), .val (.double d1), .second, .val (.int (1 : Int32))] [(.int (Int32.ofNat vv)), (.ref aD)])) _
            refine XS.dloadN X169.here hx rfl (hb hby d7_114) rfl ?_
            show Steps p.tables e below (T169.setTop (mkF m 115 #[.val (.ref f1), .val (.int (Int32.ofNat vv)), .val (.double d1), .second, .val (.int (1 : Int32))] [(.double d1), (.int (Int32.ofNat vv)), (.ref aD)])) _
            refine st172 _ ?_
            show Steps p.tables e below (T172.setTop (mkF m 116 #[.val (.ref f1), .val (.int (Int32.ofNat vv)), .val (.double d1), .second, .val (.int (1 : Int32))] [])) _
            refine XS.iload X172.here hx rfl (hb hby d7_116) rfl ?_
            exact kt)
        have f176 : Exa Z h172 f1 "com/example/slotwright/slotwright/exchange/Frontier" := (P_E_f1.wr W172)
        have f177 : Fld Z h172 f1 "com/example/slotwright/slotwright/exchange/Frontier" "distance" "[D" (.ref aD) := (P_F_f1_distance.other W172 (Or.inl P_ne_f1_aD))
        have f178 : Fld Z h172 f1 "com/example/slotwright/slotwright/exchange/Frontier" "settled" "[Z" (.ref aS) := (P_F_f1_settled.other W172 (Or.inl P_ne_f1_aD))
        have f179 : Fld Z h172 f1 "com/example/slotwright/slotwright/exchange/Frontier" "reached" "[I" (.ref aR) := (P_F_f1_reached.other W172 (Or.inl P_ne_f1_aD))
        have f180 : Fld Z h172 f1 "com/example/slotwright/slotwright/exchange/Frontier" "open" "[I" (.ref aO) := (P_F_f1_open.other W172 (Or.inl P_ne_f1_aD))
        have f181 : Fld Z h172 f1 "com/example/slotwright/slotwright/exchange/Frontier" "reachedCount" "I" (.int (Int32.ofNat rc)) := (P_F_f1_reachedCount.other W172 (Or.inl P_ne_f1_aD))
        have f182 : Fld Z h172 f1 "com/example/slotwright/slotwright/exchange/Frontier" "openCount" "I" (.int (Int32.ofNat oc)) := (P_F_f1_openCount.other W172 (Or.inl P_ne_f1_aD))
        have f183 : Arv Z h172 aS kS .boolean (Int32.ofNat n) (own_LZ st n) (.int (0 : Int32)) := (P_V_aS.other W172 (Ne.symm P_ne_aD_aS))
        have f184 : Arv Z h172 aR kR .int (Int32.ofNat n) (own_LN rch n) (.int (0 : Int32)) := (P_V_aR.other W172 (Ne.symm P_ne_aD_aR))
        have f185 : Arv Z h172 aO kO .int (Int32.ofNat n) (own_LN opn n) (.int (0 : Int32)) := (P_V_aO.other W172 (Ne.symm P_ne_aD_aO))
        obtain ⟨fs, hr, hrun, hended, hW, hsame⟩ := X172.leave (v := some (.int (1 : Int32))) (fun h => by rw [Bd.returns] at h; cases h)
        refine ⟨_, _, pre175 _ ?_, hrun, hended, _, _, rfl, ?_, ⟨_, rfl⟩, hW, hsame.mono (by decide) (by decide)⟩
        · show Steps p.tables e below (T172.setTop (mkF m 118 #[.val (.ref f1), .val (.int (Int32.ofNat vv)), .val (.double d1), .second, .val (.int (1 : Int32))] [(.int (1 : Int32))])) _
          exact retN X172 hx (t := .boolean) Bd.returns (by simp) (hb hby d7_118) hr
        · show QFreach Z f1 d1 aD aS aR aO kD kS kR kO n dist st rch rc opn oc vv h0 n0 _ T172.heap _
          rw [e172]
          exact ⟨(own_up dist vv d1), rch, rc, opn, oc, (1 : Int32), rfl, N172, k174, f176, f177, f178, f179, f180, f181, f182, V172, f183, f184, f185, Or.inr (Or.inr (Or.inl ⟨hs, hne, hl, rfl, rfl, rfl, rfl, rfl⟩))⟩
      · skip
        have pre186 : ∀ t_, Steps p.tables e below (T164.setTop (mkF m 118 #[.val (.ref f1), .val (.int (Int32.ofNat vv)), .val (.double d1), .second, .val (.int (0 : Int32))] [(.int (0 : Int32))])) t_ → Steps p.tables e below (s₁.setTop (entryFrame m #[(.ref f1), (.int (Int32.ofNat vv)), (.double d1)] 5)) t_ := fun t_ kt => pre168 t_ (by
            show Steps p.tables e below (T164.setTop (mkF m 94 #[.val (.ref f1), .val (.int (Int32.ofNat vv)), .val (.double d1), .second, .unset] [(.int (cmpValue (FP.dcmp d1 (dist vv)) .g))])) _
            refine XS.ifYes X164.here hx rfl (pc0 := 94) (pc' := 101) rfl (hb hby d7_94) rfl ((if0 _ _).trans (flt (hl : ¬ ((cmpValue (FP.dcmp d1 (dist vv)) .g) < (0 : Int32)))).2.1) (by decide) (by decide) ?_
            show Steps p.tables e below (T164.setTop (mkF m 101 #[.val (.ref f1), .val (.int (Int32.ofNat vv)), .val (.double d1), .second, .unset] [])) _
            refine XS.iconst X164.here hx rfl (hb hby d7_101) ?_
            show Steps p.tables e below (T164.setTop (mkF m 102 #[.val (.ref f1), .val (.int (Int32.ofNat vv)), .val (.double d1), .second, .unset] [(.int (0 : Int32))])) _
            refine XS.istore X164.here hx rfl (hb hby d7_102) rfl (l' := #[.val (.ref f1), .val (.int (Int32.ofNat vv)), .val (.double d1), .second, .val (.int (0 : Int32))]) rfl ?_
            show Steps p.tables e below (T164.setTop (mkF m 104 #[.val (.ref f1), .val (.int (Int32.ofNat vv)), .val (.double d1), .second, .val (.int (0 : Int32))] [])) _
            refine XS.iload X164.here hx rfl (hb hby d7_104) rfl ?_
            show Steps p.tables e below (T164.setTop (mkF m 106 #[.val (.ref f1), .val (.int (Int32.ofNat vv)), .val (.double d1), .second, .val (.int (0 : Int32))] [(.int (0 : Int32))])) _
            refine XS.ifYes X164.here hx rfl (pc0 := 106) (pc' := 116) rfl (hb hby d7_106) rfl ((if0 _ _).trans (teq ((by decide) : (0 : Int32) = (0 : Int32))).1) (by decide) (by decide) ?_
            show Steps p.tables e below (T164.setTop (mkF m 116 #[.val (.ref f1), .val (.int (Int32.ofNat vv)), .val (.double d1), .second, .val (.int (0 : Int32))] [])) _
            refine XS.iload X164.here hx rfl (hb hby d7_116) rfl ?_
            exact kt)
        obtain ⟨fs, hr, hrun, hended, hW, hsame⟩ := X164.leave (v := some (.int (0 : Int32))) (fun h => by rw [Bd.returns] at h; cases h)
        refine ⟨_, _, pre186 _ ?_, hrun, hended, _, _, rfl, ?_, ⟨_, rfl⟩, hW, hsame.mono (by decide) (by decide)⟩
        · show Steps p.tables e below (T164.setTop (mkF m 118 #[.val (.ref f1), .val (.int (Int32.ofNat vv)), .val (.double d1), .second, .val (.int (0 : Int32))] [(.int (0 : Int32))])) _
          exact retN X164 hx (t := .boolean) Bd.returns (by simp) (hb hby d7_118) hr
        · show QFreach Z f1 d1 aD aS aR aO kD kS kR kO n dist st rch rc opn oc vv h0 n0 _ T164.heap _
          rw [e164]
          exact ⟨dist, rch, rc, opn, oc, (0 : Int32), rfl, N101, (Keep.refl h0 [f1, aD, aR, aO]), P_E_f1, P_F_f1_distance, P_F_f1_settled, P_F_f1_reached, P_F_f1_open, P_F_f1_reachedCount, P_F_f1_openCount, P_V_aD, P_V_aS, P_V_aR, P_V_aO, Or.inr (Or.inr (Or.inr ⟨hs, hne, hl, rfl, rfl, rfl, rfl, rfl⟩))⟩
  · skip
    have pre187 : ∀ t_, Steps p.tables e below (T102.setTop (mkF m 32 #[.val (.ref f1), .val (.int (Int32.ofNat vv)), .val (.double d1), .second, .unset] [(.int (0 : Int32))])) t_ → Steps p.tables e below (s₁.setTop (entryFrame m #[(.ref f1), (.int (Int32.ofNat vv)), (.double d1)] 5)) t_ := fun t_ kt => pre106 t_ (by
        show Steps p.tables e below (T102.setTop (mkF m 28 #[.val (.ref f1), .val (.int (Int32.ofNat vv)), .val (.double d1), .second, .unset] [(.int (st vv))])) _
        refine XS.ifNo X102.here hx rfl (hb hby d7_28) rfl ((if0 _ _).trans (feq (hs : ¬ ((st vv) = (0 : Int32)))).1) ?_
        show Steps p.tables e below (T102.setTop (mkF m 31 #[.val (.ref f1), .val (.int (Int32.ofNat vv)), .val (.double d1), .second, .unset] [])) _
        refine XS.iconst X102.here hx rfl (hb hby d7_31) ?_
        exact kt)
    obtain ⟨fs, hr, hrun, hended, hW, hsame⟩ := X102.leave (v := some (.int (0 : Int32))) (fun h => by rw [Bd.returns] at h; cases h)
    refine ⟨_, _, pre187 _ ?_, hrun, hended, _, _, rfl, ?_, ⟨_, rfl⟩, hW, hsame.mono (by decide) (by decide)⟩
    · show Steps p.tables e below (T102.setTop (mkF m 32 #[.val (.ref f1), .val (.int (Int32.ofNat vv)), .val (.double d1), .second, .unset] [(.int (0 : Int32))])) _
      exact retN X102 hx (t := .boolean) Bd.returns (by simp) (hb hby d7_32) hr
    · show QFreach Z f1 d1 aD aS aR aO kD kS kR kO n dist st rch rc opn oc vv h0 n0 _ T102.heap _
      rw [e102]
      exact ⟨dist, rch, rc, opn, oc, (0 : Int32), rfl, N101, (Keep.refl h0 [f1, aD, aR, aO]), P_E_f1, P_F_f1_distance, P_F_f1_settled, P_F_f1_reached, P_F_f1_open, P_F_f1_reachedCount, P_F_f1_openCount, P_V_aD, P_V_aS, P_V_aR, P_V_aO, Or.inl ⟨hs, rfl, rfl, rfl, rfl, rfl⟩⟩
theorem d10_21 : decode prog_39_method_4_code 21 = .ok (.iload_n 2, 1) := by decide +kernel
theorem d10_22 : decode prog_39_method_4_code 22 = .ok (.aload_n 0, 1) := by decide +kernel
theorem d10_23 : decode prog_39_method_4_code 23 = .ok (.getfield 51, 3) := by decide +kernel
theorem d10_26 : decode prog_39_method_4_code 26 = .ok (.if_icmp .ge 37, 3) := by decide +kernel
theorem d10_29 : decode prog_39_method_4_code 29 = .ok (.aload_n 0, 1) := by decide +kernel
theorem d10_30 : decode prog_39_method_4_code 30 = .ok (.getfield 7, 3) := by decide +kernel
theorem d10_33 : decode prog_39_method_4_code 33 = .ok (.aload_n 0, 1) := by decide +kernel
theorem d10_34 : decode prog_39_method_4_code 34 = .ok (.getfield 31, 3) := by decide +kernel
theorem d10_37 : decode prog_39_method_4_code 37 = .ok (.iload_n 2, 1) := by decide +kernel
theorem d10_38 : decode prog_39_method_4_code 38 = .ok (.iaload, 1) := by decide +kernel
theorem d10_39 : decode prog_39_method_4_code 39 = .ok (.daload, 1) := by decide +kernel
theorem d10_40 : decode prog_39_method_4_code 40 = .ok (.aload_n 0, 1) := by decide +kernel
theorem d10_41 : decode prog_39_method_4_code 41 = .ok (.getfield 7, 3) := by decide +kernel
theorem d10_44 : decode prog_39_method_4_code 44 = .ok (.aload_n 0, 1) := by decide +kernel
theorem d10_45 : decode prog_39_method_4_code 45 = .ok (.getfield 31, 3) := by decide +kernel
theorem d10_48 : decode prog_39_method_4_code 48 = .ok (.iload_n 1, 1) := by decide +kernel
theorem d10_49 : decode prog_39_method_4_code 49 = .ok (.iaload, 1) := by decide +kernel
theorem d10_50 : decode prog_39_method_4_code 50 = .ok (.daload, 1) := by decide +kernel
theorem d10_51 : decode prog_39_method_4_code 51 = .ok (.dcmp .g, 1) := by decide +kernel
theorem d10_52 : decode prog_39_method_4_code 52 = .ok (.ifCond .ge 5, 3) := by decide +kernel
theorem d10_55 : decode prog_39_method_4_code 55 = .ok (.iload_n 2, 1) := by decide +kernel
theorem d10_56 : decode prog_39_method_4_code 56 = .ok (.istore_n 1, 1) := by decide +kernel
theorem d10_57 : decode prog_39_method_4_code 57 = .ok (.iinc 2 1, 3) := by decide +kernel
theorem d10_60 : decode prog_39_method_4_code 60 = .ok (.goto (-39), 3) := by decide +kernel
set_option maxRecDepth 65536 in
set_option maxHeartbeats 40000000 in
theorem own_set_t {p : Program} {l : Launch} {e : Env} {R : Room} {s : State} {m : MethodId} {args : Array Value} {below : List Frame} {meth : Method} {c : Code} {cells slots : Nat} {Z : State} {a0 : Array Value} {n0 : Nat} {T0 : State} {locs : List Loc} {h0 : Heap} (f1 : Addr) (aD : Addr) (aO : Addr) (kD : ClassId) (kO : ClassId) (n : Nat) (dist : Nat → UInt64) (opn : Nat → Nat) (oc : Nat) (near : Nat) (k : Nat) (X0 : Stand p l e R s m args below meth c T0 locs cells slots) (hx : p.tables.exec = Jvm.exec) (hZ : Z.Warmed39 s.vm) (hw : ∀ d ∈ tables_1, d.before a0 Z = true) (hby : c.code = prog_39_method_4_code) (hml : c.maxLocals = 3) (hown : s.vm.findClass "com/example/slotwright/slotwright/exchange/Frontier" = some m.cls) (e0 : T0.heap = h0) (N0 : Fr n0 locs) (Z0 : n0 ≤ h0.size) (hRf : 0 ≤ R.frames) (hRl : 0 ≤ R.locals) (hRc : cells + 0 ≤ R.cells) (hRs : slots + 0 ≤ R.slots) (P_F_f1_distance : Fld Z h0 f1 "com/example/slotwright/slotwright/exchange/Frontier" "distance" "[D" (.ref aD)) (P_F_f1_open : Fld Z h0 f1 "com/example/slotwright/slotwright/exchange/Frontier" "open" "[I" (.ref aO)) (P_F_f1_openCount : Fld Z h0 f1 "com/example/slotwright/slotwright/exchange/Frontier" "openCount" "I" (.int (Int32.ofNat oc))) (P_V_aD : Arv Z h0 aD kD .double (Int32.ofNat n) (own_LD dist n) (.double (0 : UInt64))) (P_V_aO : Arv Z h0 aO kO .int (Int32.ofNat n) (own_LN opn n) (.int (0 : Int32))) (hn : n ≤ 4) (hocn : oc ≤ n) (hk : k < oc) (hop : ∀ j, j < oc → opn j < n) (hnn0 : ∀ j, j < n → NoNaN64 (dist j)) (hN : own_near dist opn k near) :
    ∃ (T' : State) (locs' : List Loc) (near2 : Nat), Stand p l e R s m args below meth c T' locs' cells slots ∧ T'.heap = h0 ∧ Fr n0 locs' ∧ (own_near dist opn (k + 1) near2) ∧ ∀ t_, Steps p.tables e below (T'.setTop (mkF m 21 #[.val (.ref f1), .val (.int (Int32.ofNat near2)), .val (.int (Int32.ofNat (k + 1)))] [])) t_ → Steps p.tables e below (T0.setTop (mkF m 21 #[.val (.ref f1), .val (.int (Int32.ofNat near)), .val (.int (Int32.ofNat k))] [])) t_ := by
  have pre0 : ∀ t_, Steps p.tables e below (T0.setTop (mkF m 21 #[.val (.ref f1), .val (.int (Int32.ofNat near)), .val (.int (Int32.ofNat k))] [])) t_ → Steps p.tables e below (T0.setTop (mkF m 21 #[.val (.ref f1), .val (.int (Int32.ofNat near)), .val (.int (Int32.ofNat k))] [])) t_ := fun _ k => k
  have hkn : k < n := by omega
  have hnn : near < n := by have := hN.1; omega
  have hok : opn k < n := hop k hk
  have hon : opn near < n := hop near (by have := hN.1; omega)
  obtain ⟨T101, X101, e101, st101⟩ := getF X0 hx hZ hown (host := "") (Or.inl (hw _ (List.mem_of_getElem? (i := 30) rfl))) Via.refl e0 P_F_f1_openCount (g := (mkF m 23 #[.val (.ref f1), .val (.int (Int32.ofNat near)), .val (.int (Int32.ofNat k))] [(.ref f1), (.int (Int32.ofNat k))])) rfl rfl (hb hby d10_23)
  obtain ⟨T102, X102, e102, st102⟩ := getF X101 hx hZ hown (host := "") (Or.inl (hw _ (List.mem_of_getElem? (i := 10) rfl))) Via.refl e101 P_F_f1_distance (g := (mkF m 30 #[.val (.ref f1), .val (.int (Int32.ofNat near)), .val (.int (Int32.ofNat k))] [(.ref f1)])) rfl rfl (hb hby d10_30)
  obtain ⟨T103, X103, e103, st103⟩ := getF X102 hx hZ hown (host := "") (Or.inl (hw _ (List.mem_of_getElem? (i := 23) rfl))) Via.refl e102 P_F_f1_open (g := (mkF m 34 #[.val (.ref f1), .val (.int (Int32.ofNat near)), .val (.int (Int32.ofNat k))] [(.ref f1), (.ref aD)])) rfl rfl (hb hby d10_34)
  obtain ⟨cl104, Ar104, Q104, S104, M104, H104, G104⟩ := id P_V_aO
  have in105 : ¬ ((Int32.ofNat k) < 0 ∨ cl104.slots.size ≤ ((Int32.ofNat k)).toNatClampNeg) := inb_of S104 ⟨nn32 (by omega), lt32 hkn (by omega)⟩
  have at106 : cl104.slots[((Int32.ofNat k)).toNatClampNeg]? = some (.int (Int32.ofNat (opn k))) := by rw [n32 (by omega), H104 k (by rw [S104, n32 (by omega)]; exact hkn), own_LN_at _ hkn]
  obtain ⟨cl107, Ar107, Q107, S107, M107, H107, G107⟩ := id P_V_aD
  have in108 : ¬ ((Int32.ofNat (opn k)) < 0 ∨ cl107.slots.size ≤ ((Int32.ofNat (opn k))).toNatClampNeg) := inb_of S107 ⟨nn32 (by omega), lt32 hok (by omega)⟩
  have at109 : cl107.slots[((Int32.ofNat (opn k))).toNatClampNeg]? = some (.double (dist (opn k))) := by rw [n32 (by omega), H107 (opn k) (by rw [S107, n32 (by omega)]; exact hok), own_LD_at _ hok]
  obtain ⟨T110, X110, e110, st110⟩ := getF X103 hx hZ hown (host := "") (Or.inl (hw _ (List.mem_of_getElem? (i := 10) rfl))) Via.refl e103 P_F_f1_distance (g := (mkF m 41 #[.val (.ref f1), .val (.int (Int32.ofNat near)), .val (.int (Int32.ofNat k))] [(.ref f1), (.double (dist (opn k)))])) rfl rfl (hb hby d10_41)
  obtain ⟨T111, X111, e111, st111⟩ := getF X110 hx hZ hown (host := "") (Or.inl (hw _ (List.mem_of_getElem? (i := 23) rfl))) Via.refl e110 P_F_f1_open (g := (mkF m 45 #[.val (.ref f1), .val (.int (Int32.ofNat near)), .val (.int (Int32.ofNat k))] [(.ref f1), (.ref aD), (.double (dist (opn k)))])) rfl rfl (hb hby d10_45)
  obtain ⟨cl112, Ar112, Q112, S112, M112, H112, G112⟩ := id P_V_aO
  have in113 : ¬ ((Int32.ofNat near) < 0 ∨ cl112.slots.size ≤ ((Int32.ofNat near)).toNatClampNeg) := inb_of S112 ⟨nn32 (by omega), lt32 hnn (by omega)⟩
  have at114 : cl112.slots[((Int32.ofNat near)).toNatClampNeg]? = some (.int (Int32.ofNat (opn near))) := by rw [n32 (by omega), H112 near (by rw [S112, n32 (by omega)]; exact hnn), own_LN_at _ hnn]
  obtain ⟨cl115, Ar115, Q115, S115, M115, H115, G115⟩ := id P_V_aD
  have in116 : ¬ ((Int32.ofNat (opn near)) < 0 ∨ cl115.slots.size ≤ ((Int32.ofNat (opn near))).toNatClampNeg) := inb_of S115 ⟨nn32 (by omega), lt32 hon (by omega)⟩
  have at117 : cl115.slots[((Int32.ofNat (opn near))).toNatClampNeg]? = some (.double (dist (opn near))) := by rw [n32 (by omega), H115 (opn near) (by rw [S115, n32 (by omega)]; exact hon), own_LD_at _ hon]
  have pre118 : ∀ t_, Steps p.tables e below (T111.setTop (mkF m 52 #[.val (.ref f1), .val (.int (Int32.ofNat near)), .val (.int (Int32.ofNat k))] [(.int (cmpValue (FP.dcmp (dist (opn k)) (dist (opn near))) .g))])) t_ → Steps p.tables e below (T0.setTop (mkF m 21 #[.val (.ref f1), .val (.int (Int32.ofNat near)), .val (.int (Int32.ofNat k))] [])) t_ := fun t_ kt => pre0 t_ (by
      show Steps p.tables e below (T0.setTop (mkF m 21 #[.val (.ref f1), .val (.int (Int32.ofNat near)), .val (.int (Int32.ofNat k))] [])) _
      refine XS.iloadN X0.here hx rfl (hb hby d10_21) rfl ?_
      show Steps p.tables e below (T0.setTop (mkF m 22 #[.val (.ref f1), .val (.int (Int32.ofNat near)), .val (.int (Int32.ofNat k))] [(.int (Int32.ofNat k))])) _
      refine XS.aloadN X0.here hx rfl (hb hby d10_22) rfl rfl ?_
      show Steps p.tables e below (T0.setTop (mkF m 23 #[.val (.ref f1), .val (.int (Int32.ofNat near)), .val (.int (Int32.ofNat k))] [(.ref f1), (.int (Int32.ofNat k))])) _
      refine st101 _ ?_
      show Steps p.tables e below (T101.setTop (mkF m 26 #[.val (.ref f1), .val (.int (Int32.ofNat near)), .val (.int (Int32.ofNat k))] [(.int (Int32.ofNat oc)), (.int (Int32.ofNat k))])) _
      refine XS.icmpNo X101.here hx rfl (hb hby d10_26) rfl (tlt (lt32 hk (by omega) : (Int32.ofNat k) < (Int32.ofNat oc))).2.1 ?_
      show Steps p.tables e below (T101.setTop (mkF m 29 #[.val (.ref f1), .val (.int (Int32.ofNat near)), .val (.int (Int32.ofNat k))] [])) _
      refine XS.aloadN X101.here hx rfl (hb hby d10_29) rfl rfl ?_
      show Steps p.tables e below (T101.setTop (mkF m 30 #[.val (.ref f1), .val (.int (Int32.ofNat near)), .val (.int (Int32.ofNat k))] [(.ref f1)])) _
      refine st102 _ ?_
      show Steps p.tables e below (T102.setTop (mkF m 33 #[.val (.ref f1), .val (.int (Int32.ofNat near)), .val (.int (Int32.ofNat k))] [(.ref aD)])) _
      refine XS.aloadN X102.here hx rfl (hb hby d10_33) rfl rfl ?_
      show Steps p.tables e below (T102.setTop (mkF m 34 #[.val (.ref f1), .val (.int (Int32.ofNat near)), .val (.int (Int32.ofNat k))] [(.ref f1), (.ref aD)])) _
      refine st103 _ ?_
      show Steps p.tables e below (T103.setTop (mkF m 37 #[.val (.ref f1), .val (.int (Int32.ofNat near)), .val (.int (Int32.ofNat k))] [(.ref aO), (.ref aD)])) _
      refine XS.iloadN X103.here hx rfl (hb hby d10_37) rfl ?_
      show Steps p.tables e below (T103.setTop (mkF m 38 #[.val (.ref f1), .val (.int (Int32.ofNat near)), .val (.int (Int32.ofNat k))] [(.int (Int32.ofNat k)), (.ref aO), (.ref aD)])) _
      refine X103.iaload hx (j := (Int32.ofNat k)) (v := (.int (Int32.ofNat (opn k)))) (by rw [e103]; exact Ar104.1) (State.isArrayOf_alike hZ.alike Ar104.2.1) Ar104.2.2 in105 at106 (g := (mkF m 38 #[.val (.ref f1), .val (.int (Int32.ofNat near)), .val (.int (Int32.ofNat k))] [(.int (Int32.ofNat k)), (.ref aO), (.ref aD)])) rfl rfl (hb hby d10_38) _ ?_
      show Steps p.tables e below (T103.setTop (mkF m 39 #[.val (.ref f1), .val (.int (Int32.ofNat near)), .val (.int (Int32.ofNat k))] [(.int (Int32.ofNat (opn k))), (.ref aD)])) _
      refine X103.daload hx (j := (Int32.ofNat (opn k))) (v := (.double (dist (opn k)))) (by rw [e103]; exact Ar107.1) (State.isArrayOf_alike hZ.alike Ar107.2.1) Ar107.2.2 in108 at109 (g := (mkF m 39 #[.val (.ref f1), .val (.int (Int32.ofNat near)), .val (.int (Int32.ofNat k))] [(.int (Int32.ofNat (opn k))), (.ref aD)])) rfl rfl (hb hby d10_39) _ ?_
      show Steps p.tables e below (T103.setTop (mkF m 40 #[.val (.ref f1), .val (.int (Int32.ofNat near)), .val (.int (Int32.ofNat k))] [(.double (dist (opn k)))])) _
      refine XS.aloadN X103.here hx rfl (hb hby d10_40) rfl rfl ?_
      show Steps p.tables e below (T103.setTop (mkF m 41 #[.val (.ref f1), .val (.int (Int32.ofNat near)), .val (.int (Int32.ofNat k))] [(.ref f1), (.double (dist (opn k)))])) _
      refine st110 _ ?_
      show Steps p.tables e below (T110.setTop (mkF m 44 #[.val (.ref f1), .val (.int (Int32.ofNat near)), .val (.int (Int32.ofNat k))] [(.ref aD), (.double (dist (opn k)))])) _
      refine XS.aloadN X110.here hx rfl (hb hby d10_44) rfl rfl ?_
      show Steps p.tables e below (T110.setTop (mkF m 45 #[.val (.ref f1), .val (.int (Int32.ofNat near)), .val (.int (Int32.ofNat k))] [(.ref f1), (.ref aD), (.double (dist (opn k)))])) _
      refine st111 _ ?_
      show Steps p.tables e below (T111.setTop (mkF m 48 #[.val (.ref f1), .val (.int (Int32.ofNat near)), .val (.int (Int32.ofNat k))] [(.ref aO), (.ref aD), (.double (dist (opn k)))])) _
      refine XS.iloadN X111.here hx rfl (hb hby d10_48) rfl ?_
      show Steps p.tables e below (T111.setTop (mkF m 49 #[.val (.ref f1), .val (.int (Int32.ofNat near)), .val (.int (Int32.ofNat k))] [(.int (Int32.ofNat near)), (.ref aO), (.ref aD), (.double (dist (opn k)))])) _
      refine X111.iaload hx (j := (Int32.ofNat near)) (v := (.int (Int32.ofNat (opn near)))) (by rw [e111]; exact Ar112.1) (State.isArrayOf_alike hZ.alike Ar112.2.1) Ar112.2.2 in113 at114 (g := (mkF m 49 #[.val (.ref f1), .val (.int (Int32.ofNat near)), .val (.int (Int32.ofNat k))] [(.int (Int32.ofNat near)), (.ref aO), (.ref aD), (.double (dist (opn k)))])) rfl rfl (hb hby d10_49) _ ?_
      show Steps p.tables e below (T111.setTop (mkF m 50 #[.val (.ref f1), .val (.int (Int32.ofNat near)), .val (.int (Int32.ofNat k))] [(.int (Int32.ofNat (opn near))), (.ref aD), (.double (dist (opn k)))])) _
      refine X111.daload hx (j := (Int32.ofNat (opn near))) (v := (.double (dist (opn near)))) (by rw [e111]; exact Ar115.1) (State.isArrayOf_alike hZ.alike Ar115.2.1) Ar115.2.2 in116 at117 (g := (mkF m 50 #[.val (.ref f1), .val (.int (Int32.ofNat near)), .val (.int (Int32.ofNat k))] [(.int (Int32.ofNat (opn near))), (.ref aD), (.double (dist (opn k)))])) rfl rfl (hb hby d10_50) _ ?_
      show Steps p.tables e below (T111.setTop (mkF m 51 #[.val (.ref f1), .val (.int (Int32.ofNat near)), .val (.int (Int32.ofNat k))] [(.double (dist (opn near))), (.double (dist (opn k)))])) _
      refine XS.dcmpS X111.here hx rfl (hb hby d10_51) rfl (v := (cmpValue (FP.dcmp (dist (opn k)) (dist (opn near))) .g)) rfl ?_
      exact kt)
  by_cases hl : (cmpValue (FP.dcmp (dist (opn k)) (dist (opn near))) .g) < (0 : Int32)
  · skip
    have pre119 : ∀ t_, Steps p.tables e below (T111.setTop (mkF m 21 #[.val (.ref f1), .val (.int (Int32.ofNat k)), .val (.int (Int32.ofNat (k + 1)))] [])) t_ → Steps p.tables e below (T0.setTop (mkF m 21 #[.val (.ref f1), .val (.int (Int32.ofNat near)), .val (.int (Int32.ofNat k))] [])) t_ := fun t_ kt => pre118 t_ (by
        show Steps p.tables e below (T111.setTop (mkF m 52 #[.val (.ref f1), .val (.int (Int32.ofNat near)), .val (.int (Int32.ofNat k))] [(.int (cmpValue (FP.dcmp (dist (opn k)) (dist (opn near))) .g))])) _
        refine XS.ifNo X111.here hx rfl (hb hby d10_52) rfl ((if0 _ _).trans (tlt (hl : (cmpValue (FP.dcmp (dist (opn k)) (dist (opn near))) .g) < (0 : Int32))).2.1) ?_
        show Steps p.tables e below (T111.setTop (mkF m 55 #[.val (.ref f1), .val (.int (Int32.ofNat near)), .val (.int (Int32.ofNat k))] [])) _
        refine XS.iloadN X111.here hx rfl (hb hby d10_55) rfl ?_
        show Steps p.tables e below (T111.setTop (mkF m 56 #[.val (.ref f1), .val (.int (Int32.ofNat near)), .val (.int (Int32.ofNat k))] [(.int (Int32.ofNat k))])) _
        refine XS.istoreN X111.here hx rfl (hb hby d10_56) rfl (l' := #[.val (.ref f1), .val (.int (Int32.ofNat k)), .val (.int (Int32.ofNat k))]) rfl ?_
        show Steps p.tables e below (T111.setTop (mkF m 57 #[.val (.ref f1), .val (.int (Int32.ofNat k)), .val (.int (Int32.ofNat k))] [])) _
        refine XS.iinc X111.here hx rfl (hb hby d10_57) rfl (l' := #[.val (.ref f1), .val (.int (Int32.ofNat k)), .val (.int ((Int32.ofNat k) + (1 : Int32)))]) rfl ?_
        show Steps p.tables e below (T111.setTop (mkF m 60 #[.val (.ref f1), .val (.int (Int32.ofNat k)), .val (.int ((Int32.ofNat k) + (1 : Int32)))] [])) _
        rw [one32 k]
        show Steps p.tables e below (T111.setTop (mkF m 60 #[.val (.ref f1), .val (.int (Int32.ofNat k)), .val (.int (Int32.ofNat (k + 1)))] [])) _
        refine XS.goto X111.here hx rfl (pc0 := 60) (pc' := 21) rfl (hb hby d10_60) (by decide) (by decide) ?_
        exact kt)
    exact ⟨T111, _, k, X111, e111, N0, ⟨by omega, fun j hj => by
        have z := (own_near_zv (hnn0 _ hok) (hnn0 _ hon)).mp hl
        rw [own_near_zv (hnn0 _ (hop j (by omega))) (hnn0 _ hok)]
        by_cases q : j = k
        · rw [q]; omega
        · have u := (not_congr (own_near_zv (hnn0 _ (hop j (by omega))) (hnn0 _ hon))).mp (hN.2 j (by omega))
          omega⟩, fun t_ kt => pre119 t_ kt⟩
  · skip
    have pre120 : ∀ t_, Steps p.tables e below (T111.setTop (mkF m 21 #[.val (.ref f1), .val (.int (Int32.ofNat near)), .val (.int (Int32.ofNat (k + 1)))] [])) t_ → Steps p.tables e below (T0.setTop (mkF m 21 #[.val (.ref f1), .val (.int (Int32.ofNat near)), .val (.int (Int32.ofNat k))] [])) t_ := fun t_ kt => pre118 t_ (by
        show Steps p.tables e below (T111.setTop (mkF m 52 #[.val (.ref f1), .val (.int (Int32.ofNat near)), .val (.int (Int32.ofNat k))] [(.int (cmpValue (FP.dcmp (dist (opn k)) (dist (opn near))) .g))])) _
        refine XS.ifYes X111.here hx rfl (pc0 := 52) (pc' := 57) rfl (hb hby d10_52) rfl ((if0 _ _).trans (flt (hl : ¬ ((cmpValue (FP.dcmp (dist (opn k)) (dist (opn near))) .g) < (0 : Int32)))).2.1) (by decide) (by decide) ?_
        show Steps p.tables e below (T111.setTop (mkF m 57 #[.val (.ref f1), .val (.int (Int32.ofNat near)), .val (.int (Int32.ofNat k))] [])) _
        refine XS.iinc X111.here hx rfl (hb hby d10_57) rfl (l' := #[.val (.ref f1), .val (.int (Int32.ofNat near)), .val (.int ((Int32.ofNat k) + (1 : Int32)))]) rfl ?_
        show Steps p.tables e below (T111.setTop (mkF m 60 #[.val (.ref f1), .val (.int (Int32.ofNat near)), .val (.int ((Int32.ofNat k) + (1 : Int32)))] [])) _
        rw [one32 k]
        show Steps p.tables e below (T111.setTop (mkF m 60 #[.val (.ref f1), .val (.int (Int32.ofNat near)), .val (.int (Int32.ofNat (k + 1)))] [])) _
        refine XS.goto X111.here hx rfl (pc0 := 60) (pc' := 21) rfl (hb hby d10_60) (by decide) (by decide) ?_
        exact kt)
    exact ⟨T111, _, near, X111, e111, N0, ⟨by have := hN.1; omega, fun j hj => by
        by_cases q : j = k
        · rw [q]; exact hl
        · exact hN.2 j (by omega)⟩, fun t_ kt => pre120 t_ kt⟩
theorem own_set_l {p : Program} {l : Launch} {e : Env} {R : Room} {s : State} {m : MethodId} {args : Array Value} {below : List Frame} {meth : Method} {c : Code} {cells slots : Nat} {Z : State} {a0 : Array Value} {n0 : Nat} {h0 : Heap} (f1 : Addr) (aD : Addr) (aO : Addr) (kD : ClassId) (kO : ClassId) (n : Nat) (dist : Nat → UInt64) (opn : Nat → Nat) (oc : Nat) (hx : p.tables.exec = Jvm.exec) (hZ : Z.Warmed39 s.vm) (hw : ∀ d ∈ tables_1, d.before a0 Z = true) (hby : c.code = prog_39_method_4_code) (hml : c.maxLocals = 3) (hown : s.vm.findClass "com/example/slotwright/slotwright/exchange/Frontier" = some m.cls) (Z0 : n0 ≤ h0.size) (P_F_f1_distance : Fld Z h0 f1 "com/example/slotwright/slotwright/exchange/Frontier" "distance" "[D" (.ref aD)) (P_F_f1_open : Fld Z h0 f1 "com/example/slotwright/slotwright/exchange/Frontier" "open" "[I" (.ref aO)) (P_F_f1_openCount : Fld Z h0 f1 "com/example/slotwright/slotwright/exchange/Frontier" "openCount" "I" (.int (Int32.ofNat oc))) (P_V_aD : Arv Z h0 aD kD .double (Int32.ofNat n) (own_LD dist n) (.double (0 : UInt64))) (P_V_aO : Arv Z h0 aO kO .int (Int32.ofNat n) (own_LN opn n) (.int (0 : Int32))) (hn : n ≤ 4) (hocn : oc ≤ n) (hop : ∀ j, j < oc → opn j < n) (hnn0 : ∀ j, j < n → NoNaN64 (dist j)) : ∀ (i k near : Nat) (T0 : State) (locs : List Loc), k + i = oc → own_near dist opn k near → Stand p l e R s m args below meth c T0 locs cells slots → T0.heap = h0 → Fr n0 locs → cells + 0 ≤ R.cells → slots + 0 ≤ R.slots →
    ∃ (T' : State) (locs' : List Loc) (near2 : Nat), Stand p l e R s m args below meth c T' locs' cells slots ∧ T'.heap = h0 ∧ Fr n0 locs' ∧ (own_near dist opn oc near2) ∧ ∀ t_, Steps p.tables e below (T'.setTop (mkF m 21 #[.val (.ref f1), .val (.int (Int32.ofNat near2)), .val (.int (Int32.ofNat oc))] [])) t_ → Steps p.tables e below (T0.setTop (mkF m 21 #[.val (.ref f1), .val (.int (Int32.ofNat near)), .val (.int (Int32.ofNat k))] [])) t_ := by
  intro i
  induction i with
  | zero =>
    intro k near T0 locs hi hN X0 e0 N0 hc hs
    obtain rfl : k = oc := by omega
    exact ⟨T0, locs, near, X0, e0, N0, hN, fun _ q => q⟩
  | succ i ih =>
    intro k near T0 locs hi hN X0 e0 N0 hc hs
    obtain ⟨T1, L1, near1, X1, e1, N1, hN1, st1⟩ := own_set_t f1 aD aO kD kO n dist opn oc near k X0 hx hZ hw hby hml hown e0 N0 Z0 (Nat.zero_le _) (Nat.zero_le _) hc hs P_F_f1_distance P_F_f1_open P_F_f1_openCount P_V_aD P_V_aO hn hocn (by omega) hop hnn0 hN
    obtain ⟨T2, L2, near2, X2, e2, N2, hN2, st2⟩ := ih (k + 1) near1 T1 L1 (by omega) hN1 X1 e1 N1 hc hs
    exact ⟨T2, L2, near2, X2, e2, N2, hN2, fun q kq => st1 q (st2 q kq)⟩
theorem own_set_p {p : Program} {l : Launch} {e : Env} {R : Room} {s : State} {m : MethodId} {args : Array Value} {below : List Frame} {meth : Method} {c : Code} {cells slots : Nat} {Z : State} {a0 : Array Value} {n0 : Nat} {T0 : State} {locs : List Loc} {h0 : Heap} (f1 : Addr) (aD : Addr) (aO : Addr) (kD : ClassId) (kO : ClassId) (n : Nat) (dist : Nat → UInt64) (opn : Nat → Nat) (oc : Nat) (X0 : Stand p l e R s m args below meth c T0 locs cells slots) (hx : p.tables.exec = Jvm.exec) (hZ : Z.Warmed39 s.vm) (hw : ∀ d ∈ tables_1, d.before a0 Z = true) (hby : c.code = prog_39_method_4_code) (hml : c.maxLocals = 3) (hown : s.vm.findClass "com/example/slotwright/slotwright/exchange/Frontier" = some m.cls) (e0 : T0.heap = h0) (N0 : Fr n0 locs) (Z0 : n0 ≤ h0.size) (hRf : 0 ≤ R.frames) (hRl : 0 ≤ R.locals) (hRc : cells + 0 ≤ R.cells) (hRs : slots + 0 ≤ R.slots) (P_F_f1_distance : Fld Z h0 f1 "com/example/slotwright/slotwright/exchange/Frontier" "distance" "[D" (.ref aD)) (P_F_f1_open : Fld Z h0 f1 "com/example/slotwright/slotwright/exchange/Frontier" "open" "[I" (.ref aO)) (P_F_f1_openCount : Fld Z h0 f1 "com/example/slotwright/slotwright/exchange/Frontier" "openCount" "I" (.int (Int32.ofNat oc))) (P_V_aD : Arv Z h0 aD kD .double (Int32.ofNat n) (own_LD dist n) (.double (0 : UInt64))) (P_V_aO : Arv Z h0 aO kO .int (Int32.ofNat n) (own_LN opn n) (.int (0 : Int32))) (hn : n ≤ 4) (hocn : oc ≤ n) (hop : ∀ j, j < oc → opn j < n) (hnn0 : ∀ j, j < n → NoNaN64 (dist j)) (h1_ : 1 ≤ oc) :
    ∃ (T' : State) (locs' : List Loc) (near2 : Nat), Stand p l e R s m args below meth c T' locs' cells slots ∧ T'.heap = h0 ∧ Fr n0 locs' ∧ (own_near dist opn oc near2) ∧ ∀ t_, Steps p.tables e below (T'.setTop (mkF m 21 #[.val (.ref f1), .val (.int (Int32.ofNat near2)), .val (.int (Int32.ofNat oc))] [])) t_ → Steps p.tables e below (T0.setTop (mkF m 21 #[.val (.ref f1), .val (.int (Int32.ofNat 0)), .val (.int (Int32.ofNat 1))] [])) t_ :=
  own_set_l f1 aD aO kD kO n dist opn oc hx hZ hw hby hml hown Z0 P_F_f1_distance P_F_f1_open P_F_f1_openCount P_V_aD P_V_aO hn hocn hop hnn0 (oc - 1) 1 0 T0 locs (by omega) ⟨by omega, fun j hj => by
    obtain rfl : j = 0 := by omega
    rw [own_near_zv (hnn0 _ (hop 0 (by omega))) (hnn0 _ (hop 0 (by omega)))]; omega⟩ X0 e0 N0 hRc hRs
theorem ef_Fsettle (m : MethodId) (f1 : Addr) : entryFrame m #[(.ref f1)] 3 = mkF m 0 #[.val (.ref f1), .unset, .unset] [] := by first | (simp [entryFrame, mkF, argsToLocals, Value.category]; done) | rfl
theorem d10_0 : decode prog_39_method_4_code 0 = .ok (.aload_n 0, 1) := by decide +kernel
theorem d10_1 : decode prog_39_method_4_code 1 = .ok (.getfield 51, 3) := by decide +kernel
theorem d10_4 : decode prog_39_method_4_code 4 = .ok (.ifCond .ne 13, 3) := by decide +kernel
theorem d10_17 : decode prog_39_method_4_code 17 = .ok (.iconst 0, 1) := by decide +kernel
theorem d10_18 : decode prog_39_method_4_code 18 = .ok (.istore_n 1, 1) := by decide +kernel
theorem d10_19 : decode prog_39_method_4_code 19 = .ok (.iconst 1, 1) := by decide +kernel
theorem d10_20 : decode prog_39_method_4_code 20 = .ok (.istore_n 2, 1) := by decide +kernel
theorem d10_63 : decode prog_39_method_4_code 63 = .ok (.aload_n 0, 1) := by decide +kernel
theorem d10_64 : decode prog_39_method_4_code 64 = .ok (.getfield 31, 3) := by decide +kernel
theorem d10_67 : decode prog_39_method_4_code 67 = .ok (.iload_n 1, 1) := by decide +kernel
theorem d10_68 : decode prog_39_method_4_code 68 = .ok (.iaload, 1) := by decide +kernel
theorem d10_69 : decode prog_39_method_4_code 69 = .ok (.istore_n 2, 1) := by decide +kernel
theorem d10_70 : decode prog_39_method_4_code 70 = .ok (.aload_n 0, 1) := by decide +kernel
theorem d10_71 : decode prog_39_method_4_code 71 = .ok (.dup, 1) := by decide +kernel
theorem d10_72 : decode prog_39_method_4_code 72 = .ok (.getfield 51, 3) := by decide +kernel
theorem d10_75 : decode prog_39_method_4_code 75 = .ok (.iconst 1, 1) := by decide +kernel
theorem d10_76 : decode prog_39_method_4_code 76 = .ok (.isub, 1) := by decide +kernel
theorem d10_77 : decode prog_39_method_4_code 77 = .ok (.putfield 51, 3) := by decide +kernel
theorem d10_80 : decode prog_39_method_4_code 80 = .ok (.aload_n 0, 1) := by decide +kernel
theorem d10_81 : decode prog_39_method_4_code 81 = .ok (.getfield 31, 3) := by decide +kernel
theorem d10_84 : decode prog_39_method_4_code 84 = .ok (.iload_n 1, 1) := by decide +kernel
theorem d10_85 : decode prog_39_method_4_code 85 = .ok (.aload_n 0, 1) := by decide +kernel
theorem d10_86 : decode prog_39_method_4_code 86 = .ok (.getfield 31, 3) := by decide +kernel
theorem d10_89 : decode prog_39_method_4_code 89 = .ok (.aload_n 0, 1) := by decide +kernel
theorem d10_90 : decode prog_39_method_4_code 90 = .ok (.getfield 51, 3) := by decide +kernel
theorem d10_93 : decode prog_39_method_4_code 93 = .ok (.iaload, 1) := by decide +kernel
theorem d10_94 : decode prog_39_method_4_code 94 = .ok (.iastore, 1) := by decide +kernel
theorem d10_95 : decode prog_39_method_4_code 95 = .ok (.aload_n 0, 1) := by decide +kernel
theorem d10_96 : decode prog_39_method_4_code 96 = .ok (.getfield 23, 3) := by decide +kernel
theorem d10_99 : decode prog_39_method_4_code 99 = .ok (.iload_n 2, 1) := by decide +kernel
theorem d10_100 : decode prog_39_method_4_code 100 = .ok (.iconst 1, 1) := by decide +kernel
theorem d10_101 : decode prog_39_method_4_code 101 = .ok (.bastore, 1) := by decide +kernel
theorem d10_102 : decode prog_39_method_4_code 102 = .ok (.iload_n 2, 1) := by decide +kernel
theorem d10_103 : decode prog_39_method_4_code 103 = .ok (.ireturn, 1) := by decide +kernel
def QFsettle (Z : State) (f1 : Addr) (aD : Addr) (aS : Addr) (aR : Addr) (aO : Addr) (kD : ClassId) (kS : ClassId) (kR : ClassId) (kO : ClassId) (n : Nat) (dist : Nat → UInt64) (st : Nat → Int32) (rch : Nat → Nat) (rc : Nat) (opn : Nat → Nat) (oc : Nat) (h0 : Heap) (n0 : Nat) (v : Option Value) (h : Heap) (L : List Loc) : Prop := ∃ (near : Nat), v = some (.int (Int32.ofNat (opn near))) ∧ Fr n0 L ∧ Keep h0 h [f1, aO, aS] ∧ (Exa Z h f1 "com/example/slotwright/slotwright/exchange/Frontier") ∧ (Fld Z h f1 "com/example/slotwright/slotwright/exchange/Frontier" "distance" "[D" (.ref aD)) ∧ (Fld Z h f1 "com/example/slotwright/slotwright/exchange/Frontier" "settled" "[Z" (.ref aS)) ∧ (Fld Z h f1 "com/example/slotwright/slotwright/exchange/Frontier" "reached" "[I" (.ref aR)) ∧ (Fld Z h f1 "com/example/slotwright/slotwright/exchange/Frontier" "open" "[I" (.ref aO)) ∧ (Fld Z h f1 "com/example/slotwright/slotwright/exchange/Frontier" "reachedCount" "I" (.int (Int32.ofNat rc))) ∧ (Fld Z h f1 "com/example/slotwright/slotwright/exchange/Frontier" "openCount" "I" (.int (Int32.ofNat (oc - 1)))) ∧ (Arv Z h aD kD .double (Int32.ofNat n) (own_LD dist n) (.double (0 : UInt64))) ∧ (Arv Z h aS kS .boolean (Int32.ofNat n) (own_LZ (own_up st (opn near) 1) n) (.int (0 : Int32))) ∧ (Arv Z h aR kR .int (Int32.ofNat n) (own_LN rch n) (.int (0 : Int32))) ∧ (Arv Z h aO kO .int (Int32.ofNat n) (own_LN (own_up opn near (opn (oc - 1))) n) (.int (0 : Int32))) ∧ (own_near dist opn oc near)
set_option maxRecDepth 65536 in
set_option maxHeartbeats 40000000 in
theorem rmFsettle (l : Launch) (Z : State) (a0 : Array Value) (hw : ∀ d ∈ tables_1, d.before a0 Z = true) (ws : List Jvm.Cond) (f1 : Addr) (aD : Addr) (aS : Addr) (aR : Addr) (aO : Addr) (kD : ClassId) (kS : ClassId) (kR : ClassId) (kO : ClassId) (n : Nat) (dist : Nat → UInt64) (st : Nat → Int32) (rch : Nat → Nat) (rc : Nat) (opn : Nat → Nat) (oc : Nat) (h0 : Heap) (n0 : Nat) (Z0 : n0 ≤ h0.size) (P_E_f1 : Exa Z h0 f1 "com/example/slotwright/slotwright/exchange/Frontier") (P_F_f1_distance : Fld Z h0 f1 "com/example/slotwright/slotwright/exchange/Frontier" "distance" "[D" (.ref aD)) (P_F_f1_settled : Fld Z h0 f1 "com/example/slotwright/slotwright/exchange/Frontier" "settled" "[Z" (.ref aS)) (P_F_f1_reached : Fld Z h0 f1 "com/example/slotwright/slotwright/exchange/Frontier" "reached" "[I" (.ref aR)) (P_F_f1_open : Fld Z h0 f1 "com/example/slotwright/slotwright/exchange/Frontier" "open" "[I" (.ref aO)) (P_F_f1_reachedCount : Fld Z h0 f1 "com/example/slotwright/slotwright/exchange/Frontier" "reachedCount" "I" (.int (Int32.ofNat rc))) (P_F_f1_openCount : Fld Z h0 f1 "com/example/slotwright/slotwright/exchange/Frontier" "openCount" "I" (.int (Int32.ofNat oc))) (P_V_aD : Arv Z h0 aD kD .double (Int32.ofNat n) (own_LD dist n) (.double (0 : UInt64))) (P_V_aS : Arv Z h0 aS kS .boolean (Int32.ofNat n) (own_LZ st n) (.int (0 : Int32))) (P_V_aR : Arv Z h0 aR kR .int (Int32.ofNat n) (own_LN rch n) (.int (0 : Int32))) (P_V_aO : Arv Z h0 aO kO .int (Int32.ofNat n) (own_LN opn n) (.int (0 : Int32))) (P_ne_f1_aD : f1 ≠ aD) (P_ne_f1_aS : f1 ≠ aS) (P_ne_f1_aR : f1 ≠ aR) (P_ne_f1_aO : f1 ≠ aO) (P_ne_aD_aS : aD ≠ aS) (P_ne_aD_aR : aD ≠ aR) (P_ne_aD_aO : aD ≠ aO) (P_ne_aS_aR : aS ≠ aR) (P_ne_aS_aO : aS ≠ aO) (P_ne_aR_aO : aR ≠ aO) (P_G_f1 : n0 ≤ f1) (P_G_aD : n0 ≤ aD) (P_G_aS : n0 ≤ aS) (P_G_aR : n0 ≤ aR) (P_G_aO : n0 ≤ aO) (hn : n ≤ 4) (hocn : oc ≤ n) (h1 : 1 ≤ oc) (hop : ∀ j, j < oc → opn j < n) (hnn0 : ∀ j, j < n → NoNaN64 (dist j)) :
    MetFree l (⟨"com/example/slotwright/slotwright/exchange/Frontier", "settleNearest", "()I"⟩ : MethodName) (head1 (Jvm.Cond.code (⟨"com/example/slotwright/slotwright/exchange/Frontier", "settleNearest", "()I"⟩ : MethodName) prog_39_method_4_code 3 (some .int) :: ws) ({ frames := 0, cells := 0, slots := 0, locals := 0 } : Room)) (fun a U => a = #[(.ref f1)] ∧ Z.Warmed39 U.vm ∧ U.heap = h0) (fun _ _ _ _ _ => True) (fun _ U o U' => ∃ v L, o = .returned v ∧ QFsettle Z f1 aD aS aR aO kD kS kR kO n dist st rch rc opn oc h0 n0 v U'.heap L ∧ FrameEnd U o U' L ({ frames := 0, cells := 0, slots := 0, locals := 0 } : Room).cells ({ frames := 0, cells := 0, slots := 0, locals := 0 } : Room).slots) := by
  refine MetFree.of_bodySF (plainFor_of_name pn_com_example_slotwright_slotwright_exchange_Frontier) hisR ?_
  intro p e s m args below meth c s₁ Bd hml0 hP hK
  obtain ⟨rfl, hZ, hh⟩ := hP
  have hx := Bd.exec
  have hby := Bd.bytes
  have hml : c.maxLocals = 3 := hml0
  have hown : s.vm.findClass "com/example/slotwright/slotwright/exchange/Frontier" = some m.cls := findClass_of_methodNamed Bd.named
  have hnm := (name_of_methodNamed Bd.named Bd.method).1
  have X0 : Stand p l e ({ frames := 0, cells := 0, slots := 0, locals := 0 } : Room) s m #[(.ref f1)] below meth c s₁ [] 0 0 := Stand.of_body Bd
  have e0 : s₁.heap = h0 := by rw [← hh, Bd.state]; rfl
  have N0 := Fr.nil n0
  have pre0 : ∀ t_, Steps p.tables e below (s₁.setTop (mkF m 0 #[.val (.ref f1), .unset, .unset] [])) t_ → Steps p.tables e below (s₁.setTop (entryFrame m #[(.ref f1)] 3)) t_ := fun t_ k => castTop (ef_Fsettle m f1) k
  obtain ⟨T101, X101, e101, st101⟩ := getF X0 hx hZ hown (host := "") (Or.inl (hw _ (List.mem_of_getElem? (i := 30) rfl))) Via.refl e0 P_F_f1_openCount (g := (mkF m 1 #[.val (.ref f1), .unset, .unset] [(.ref f1)])) rfl rfl (hb hby d10_1)
  obtain ⟨T102, L102, near2_102, X102, e102, N102, x102_0, st102⟩ := own_set_p (f1) (aD) (aO) (kD) (kO) (n) (dist) (opn) (oc) X101 hx hZ hw hby hml hown e101 N0 Z0 (by decide) (by decide) (by decide) (by decide) P_F_f1_distance P_F_f1_open P_F_f1_openCount P_V_aD P_V_aO (hn) (hocn) (hop) (hnn0) (h1)
  have hnr : near2_102 < n := by have := x102_0.1; omega
  have hon : opn near2_102 < n := hop near2_102 x102_0.1
  have hlast : oc - 1 < n := by omega
  have hdec : Int32.ofNat oc - (1 : Int32) = Int32.ofNat (oc - 1) := by
    have : oc = (oc - 1) + 1 := by omega
    rw [this, ← one32]; simp
  obtain ⟨T103, X103, e103, st103⟩ := getF X102 hx hZ hown (host := "") (Or.inl (hw _ (List.mem_of_getElem? (i := 30) rfl))) Via.refl e102 P_F_f1_openCount (g := (mkF m 23 #[.val (.ref f1), .val (.int (Int32.ofNat near2_102)), .val (.int (Int32.ofNat oc))] [(.ref f1), (.int (Int32.ofNat oc))])) rfl rfl (hb hby d10_23)
  obtain ⟨T104, X104, e104, st104⟩ := getF X103 hx hZ hown (host := "") (Or.inl (hw _ (List.mem_of_getElem? (i := 23) rfl))) Via.refl e103 P_F_f1_open (g := (mkF m 64 #[.val (.ref f1), .val (.int (Int32.ofNat near2_102)), .val (.int (Int32.ofNat oc))] [(.ref f1)])) rfl rfl (hb hby d10_64)
  obtain ⟨cl105, Ar105, Q105, S105, M105, H105, G105⟩ := id P_V_aO
  have in106 : ¬ ((Int32.ofNat near2_102) < 0 ∨ cl105.slots.size ≤ ((Int32.ofNat near2_102)).toNatClampNeg) := inb_of S105 ⟨nn32 (by omega), lt32 hnr (by omega)⟩
  have at107 : cl105.slots[((Int32.ofNat near2_102)).toNatClampNeg]? = some (.int (Int32.ofNat (opn near2_102))) := by rw [n32 (by omega), H105 near2_102 (by rw [S105, n32 (by omega)]; exact hnr), own_LN_at _ hnr]
  obtain ⟨T108, X108, e108, st108⟩ := getF X104 hx hZ hown (host := "") (Or.inl (hw _ (List.mem_of_getElem? (i := 30) rfl))) Via.refl e104 P_F_f1_openCount (g := (mkF m 72 #[.val (.ref f1), .val (.int (Int32.ofNat near2_102)), .val (.int (Int32.ofNat (opn near2_102)))] [(.ref f1), (.ref f1)])) rfl rfl (hb hby d10_72)
  obtain ⟨T109, h109, X109, e109, W109, st109⟩ := putF X108 hx hZ hown (host := "") (Or.inl (hw _ (List.mem_of_getElem? (i := 30) rfl))) Via.refl e108 P_F_f1_openCount P_E_f1 (Or.inl (hw _ (List.mem_of_getElem? (i := 31) rfl))) (hw _ (List.mem_of_getElem? (i := 1) rfl)) (ty := .int) (by decide) rfl rfl (g := (mkF m 77 #[.val (.ref f1), .val (.int (Int32.ofNat near2_102)), .val (.int (Int32.ofNat (opn near2_102)))] [(.int (Int32.ofNat (oc - 1))), (.ref f1)])) rfl rfl (hb hby d10_77)
  have F109 : Fld Z h109 f1 "com/example/slotwright/slotwright/exchange/Frontier" "openCount" "I" (.int (Int32.ofNat (oc - 1))) := P_F_f1_openCount.same W109
  have z110 : n0 ≤ h109.size := Nat.le_trans Z0 (Keep.of_wr W109).1
  have k111 : Keep h0 h109 [f1, aO, aS] := (Keep.refl h0 [f1, aO, aS]).wr W109 (Or.inl (List.mem_of_getElem? (i := 0) rfl))
  have N109 : Fr n0 _ := Fr.snoc X109 N102 P_G_f1
  have f112 : Fld Z h109 f1 "com/example/slotwright/slotwright/exchange/Frontier" "open" "[I" (.ref aO) := (P_F_f1_open.other W109 (Or.inr (slot_ne (Or.inr (hw _ (List.mem_of_getElem? (i := 24) rfl))) (Or.inl (hw _ (List.mem_of_getElem? (i := 31) rfl))) (by decide) (t := (.array .int)) (t' := .int) (by decide) (by decide))))
  obtain ⟨T113, X113, e113, st113⟩ := getF X109 hx hZ hown (host := "") (Or.inl (hw _ (List.mem_of_getElem? (i := 23) rfl))) Via.refl e109 f112 (g := (mkF m 81 #[.val (.ref f1), .val (.int (Int32.ofNat near2_102)), .val (.int (Int32.ofNat (opn near2_102)))] [(.ref f1)])) rfl rfl (hb hby d10_81)
  obtain ⟨T114, X114, e114, st114⟩ := getF X113 hx hZ hown (host := "") (Or.inl (hw _ (List.mem_of_getElem? (i := 23) rfl))) Via.refl e113 f112 (g := (mkF m 86 #[.val (.ref f1), .val (.int (Int32.ofNat near2_102)), .val (.int (Int32.ofNat (opn near2_102)))] [(.ref f1), (.int (Int32.ofNat near2_102)), (.ref aO)])) rfl rfl (hb hby d10_86)
  obtain ⟨T115, X115, e115, st115⟩ := getF X114 hx hZ hown (host := "") (Or.inl (hw _ (List.mem_of_getElem? (i := 30) rfl))) Via.refl e114 F109 (g := (mkF m 90 #[.val (.ref f1), .val (.int (Int32.ofNat near2_102)), .val (.int (Int32.ofNat (opn near2_102)))] [(.ref f1), (.ref aO), (.int (Int32.ofNat near2_102)), (.ref aO)])) rfl rfl (hb hby d10_90)
  have f116 : Arv Z h109 aO kO .int (Int32.ofNat n) (own_LN opn n) (.int (0 : Int32)) := (P_V_aO.other W109 (Ne.symm P_ne_f1_aO))
  obtain ⟨cl117, Ar117, Q117, S117, M117, H117, G117⟩ := id f116
  have in118 : ¬ ((Int32.ofNat (oc - 1)) < 0 ∨ cl117.slots.size ≤ ((Int32.ofNat (oc - 1))).toNatClampNeg) := inb_of S117 ⟨nn32 (by omega), lt32 hlast (by omega)⟩
  have at119 : cl117.slots[((Int32.ofNat (oc - 1))).toNatClampNeg]? = some (.int (Int32.ofNat (opn (oc - 1)))) := by rw [n32 (by omega), H117 (oc - 1) (by rw [S117, n32 (by omega)]; exact hlast), own_LN_at _ hlast]
  obtain ⟨cl120, Ar120, Q120, S120, M120, H120, G120⟩ := id f116
  have in121 : ¬ ((Int32.ofNat near2_102) < 0 ∨ cl120.slots.size ≤ ((Int32.ofNat near2_102)).toNatClampNeg) := inb_of S120 ⟨nn32 (by omega), lt32 hnr (by omega)⟩
  obtain ⟨T122, h122, X122, e122, W122, st122⟩ := stI X115 hx hZ e115 Ar120 (j := (Int32.ofNat near2_102)) in121 (g := (mkF m 94 #[.val (.ref f1), .val (.int (Int32.ofNat near2_102)), .val (.int (Int32.ofNat (opn near2_102)))] [(.int (Int32.ofNat (opn (oc - 1)))), (.int (Int32.ofNat near2_102)), (.ref aO)])) rfl rfl (hb hby d10_94)
  have z123 : n0 ≤ h122.size := Nat.le_trans z110 (Keep.of_wr W122).1
  have k124 : Keep h0 h122 [f1, aO, aS] := k111.wr W122 (Or.inl (List.mem_of_getElem? (i := 1) rfl))
  have V122 : Arv Z h122 aO kO .int (Int32.ofNat n) (own_LN (own_up opn near2_102 (opn (oc - 1))) n) (.int (0 : Int32)) := own_LN_set opn n near2_102 (opn (oc - 1)) ▸ Arv.set Ar120 Q120 S120 M120 H120 G120 rfl W122 near2_102 (n32 (by omega)) (by rw [own_LN_len]; exact hnr)
  have N122 : Fr n0 _ := Fr.snoc X122 N109 P_G_aO
  have f125 : Fld Z h122 f1 "com/example/slotwright/slotwright/exchange/Frontier" "settled" "[Z" (.ref aS) := ((P_F_f1_settled.other W109 (Or.inr (slot_ne (Or.inr (hw _ (List.mem_of_getElem? (i := 19) rfl))) (Or.inl (hw _ (List.mem_of_getElem? (i := 31) rfl))) (by decide) (t := (.array .boolean)) (t' := .int) (by decide) (by decide)))).other W122 (Or.inl P_ne_f1_aO))
  obtain ⟨T126, X126, e126, st126⟩ := getF X122 hx hZ hown (host := "") (Or.inl (hw _ (List.mem_of_getElem? (i := 18) rfl))) Via.refl e122 f125 (g := (mkF m 96 #[.val (.ref f1), .val (.int (Int32.ofNat near2_102)), .val (.int (Int32.ofNat (opn near2_102)))] [(.ref f1)])) rfl rfl (hb hby d10_96)
  have f127 : Arv Z h122 aS kS .boolean (Int32.ofNat n) (own_LZ st n) (.int (0 : Int32)) := ((P_V_aS.other W109 (Ne.symm P_ne_f1_aS)).other W122 P_ne_aS_aO)
  obtain ⟨cl128, Ar128, Q128, S128, M128, H128, G128⟩ := id f127
  have in129 : ¬ ((Int32.ofNat (opn near2_102)) < 0 ∨ cl128.slots.size ≤ ((Int32.ofNat (opn near2_102))).toNatClampNeg) := inb_of S128 ⟨nn32 (by omega), lt32 hon (by omega)⟩
  obtain ⟨T130, h130, X130, e130, W130, st130⟩ := stZ X126 hx hZ e126 Ar128 (j := (Int32.ofNat (opn near2_102))) in129 (g := (mkF m 101 #[.val (.ref f1), .val (.int (Int32.ofNat near2_102)), .val (.int (Int32.ofNat (opn near2_102)))] [(.int (1 : Int32)), (.int (Int32.ofNat (opn near2_102))), (.ref aS)])) rfl rfl (hb hby d10_101)
  have z131 : n0 ≤ h130.size := Nat.le_trans z123 (Keep.of_wr W130).1
  have k132 : Keep h0 h130 [f1, aO, aS] := k124.wr W130 (Or.inl (List.mem_of_getElem? (i := 2) rfl))
  have V130 : Arv Z h130 aS kS .boolean (Int32.ofNat n) (own_LZ (own_up st (opn near2_102) 1) n) (.int (0 : Int32)) := own_LZ_set st n (opn near2_102) 1 ▸ Arv.set Ar128 Q128 S128 M128 H128 G128 (fits_nar_bool _) W130 (opn near2_102) (n32 (by omega)) (by rw [own_LZ_len]; exact hon)
  have N130 : Fr n0 _ := Fr.snoc X130 N122 P_G_aS
  have pre133 : ∀ t_, Steps p.tables e below (T130.setTop (mkF m 103 #[.val (.ref f1), .val (.int (Int32.ofNat near2_102)), .val (.int (Int32.ofNat (opn near2_102)))] [(.int (Int32.ofNat (opn near2_102)))])) t_ → Steps p.tables e below (s₁.setTop (entryFrame m #[(.ref f1)] 3)) t_ := fun t_ kt => pre0 t_ (by
      show Steps p.tables e below (s₁.setTop (mkF m 0 #[.val (.ref f1), .unset, .unset] [])) _
      refine XS.aloadN X0.here hx rfl (hb hby d10_0) rfl rfl ?_
      show Steps p.tables e below (s₁.setTop (mkF m 1 #[.val (.ref f1), .unset, .unset] [(.ref f1)])) _
      refine st101 _ ?_
      show Steps p.tables e below (T101.setTop (mkF m 4 #[.val (.ref f1), .unset, .unset] [(.int (Int32.ofNat oc))])) _
      refine XS.ifYes X101.here hx rfl (pc0 := 4) (pc' := 17) rfl (hb hby d10_4) rfl ((if0 _ _).trans (feq (fun q => absurd ((eq32_iff (by omega) (by omega)).mp q : oc = 0) (by omega) : ¬ ((Int32.ofNat oc) = (0 : Int32)))).2) (by decide) (by decide) ?_
      show Steps p.tables e below (T101.setTop (mkF m 17 #[.val (.ref f1), .unset, .unset] [])) _
      refine XS.iconst X101.here hx rfl (hb hby d10_17) ?_
      show Steps p.tables e below (T101.setTop (mkF m 18 #[.val (.ref f1), .unset, .unset] [(.int (0 : Int32))])) _
      refine XS.istoreN X101.here hx rfl (hb hby d10_18) rfl (l' := #[.val (.ref f1), .val (.int (0 : Int32)), .unset]) rfl ?_
      show Steps p.tables e below (T101.setTop (mkF m 19 #[.val (.ref f1), .val (.int (0 : Int32)), .unset] [])) _
      refine XS.iconst X101.here hx rfl (hb hby d10_19) ?_
      show Steps p.tables e below (T101.setTop (mkF m 20 #[.val (.ref f1), .val (.int (0 : Int32)), .unset] [(.int (1 : Int32))])) _
      refine XS.istoreN X101.here hx rfl (hb hby d10_20) rfl (l' := #[.val (.ref f1), .val (.int (0 : Int32)), .val (.int (1 : Int32))]) rfl ?_
      show Steps p.tables e below (T101.setTop (mkF m 21 #[.val (.ref f1), .val (.int (0 : Int32)), .val (.int (1 : Int32))] [])) _
      refine st102 _ ?_
      show Steps p.tables e below (T102.setTop (mkF m 21 #[.val (.ref f1), .val (.int (Int32.ofNat near2_102)), .val (.int (Int32.ofNat oc))] [])) _
      refine XS.iloadN X102.here hx rfl (hb hby d10_21) rfl ?_
      show Steps p.tables e below (T102.setTop (mkF m 22 #[.val (.ref f1), .val (.int (Int32.ofNat near2_102)), .val (.int (Int32.ofNat oc))] [(.int (Int32.ofNat oc))])) _
      refine XS.aloadN X102.here hx rfl (hb hby d10_22) rfl rfl ?_
      show Steps p.tables e below (T102.setTop (mkF m 23 #[.val (.ref f1), .val (.int (Int32.ofNat near2_102)), .val (.int (Int32.ofNat oc))] [(.ref f1), (.int (Int32.ofNat oc))])) _
      refine st103 _ ?_
      show Steps p.tables e below (T103.setTop (mkF m 26 #[.val (.ref f1), .val (.int (Int32.ofNat near2_102)), .val (.int (Int32.ofNat oc))] [(.int (Int32.ofNat oc)), (.int (Int32.ofNat oc))])) _
      refine XS.icmpYes X103.here hx rfl (pc0 := 26) (pc' := 63) rfl (hb hby d10_26) rfl (flt (nlt32 (Nat.le_refl _) (by omega) : ¬ ((Int32.ofNat oc) < (Int32.ofNat oc)))).2.1 (by decide) (by decide) ?_
      show Steps p.tables e below (T103.setTop (mkF m 63 #[.val (.ref f1), .val (.int (Int32.ofNat near2_102)), .val (.int (Int32.ofNat oc))] [])) _
      refine XS.aloadN X103.here hx rfl (hb hby d10_63) rfl rfl ?_
      show Steps p.tables e below (T103.setTop (mkF m 64 #[.val (.ref f1), .val (.int (Int32.ofNat near2_102)), .val (.int (Int32.ofNat oc))] [(.ref f1)])) _
      refine st104 _ ?_
      show Steps p.tables e below (T104.setTop (mkF m 67 #[.val (.ref f1), .val (.int (Int32.ofNat near2_102)), .val (.int (Int32.ofNat oc))] [(.ref aO)])) _
      refine XS.iloadN X104.here hx rfl (hb hby d10_67) rfl ?_
      show Steps p.tables e below (T104.setTop (mkF m 68 #[.val (.ref f1), .val (.int (Int32.ofNat near2_102)), .val (.int (Int32.ofNat oc))] [(.int (Int32.ofNat near2_102)), (.ref aO)])) _
      refine X104.iaload hx (j := (Int32.ofNat near2_102)) (v := (.int (Int32.ofNat (opn near2_102)))) (by rw [e104]; exact Ar105.1) (State.isArrayOf_alike hZ.alike Ar105.2.1) Ar105.2.2 in106 at107 (g := (mkF m 68 #[.val (.ref f1), .val (.int (Int32.ofNat near2_102)), .val (.int (Int32.ofNat oc))] [(.int (Int32.ofNat near2_102)), (.ref aO)])) rfl rfl (hb hby d10_68) _ ?_
      show Steps p.tables e below (T104.setTop (mkF m 69 #[.val (.ref f1), .val (.int (Int32.ofNat near2_102)), .val (.int (Int32.ofNat oc))] [(.int (Int32.ofNat (opn near2_102)))])) _
      refine XS.istoreN X104.here hx rfl (hb hby d10_69) rfl (l' := #[.val (.ref f1), .val (.int (Int32.ofNat near2_102)), .val (.int (Int32.ofNat (opn near2_102)))]) rfl ?_
      show Steps p.tables e below (T104.setTop (mkF m 70 #[.val (.ref f1), .val (.int (Int32.ofNat near2_102)), .val (.int (Int32.ofNat (opn near2_102)))] [])) _
      refine XS.aloadN X104.here hx rfl (hb hby d10_70) rfl rfl ?_
      show Steps p.tables e below (T104.setTop (mkF m 71 #[.val (.ref f1), .val (.int (Int32.ofNat near2_102)), .val (.int (Int32.ofNat (opn near2_102)))] [(.ref f1)])) _
      refine XS.dup X104.here hx rfl (hb hby d10_71) rfl rfl ?_
      show Steps p.tables e below (T104.setTop (mkF m 72 #[.val (.ref f1), .val (.int (Int32.ofNat near2_102)), .val (.int (Int32.ofNat (opn near2_102)))] [(.ref f1), (.ref f1)])) _
      refine st108 _ ?_
      show Steps p.tables e below (T108.setTop (mkF m 75 #[.val (.ref f1), .val (.int (Int32.ofNat near2_102)), .val (.int (Int32.ofNat (opn near2_102)))] [(.int (Int32.ofNat oc)), (.ref f1)])) _
      refine XS.iconst X108.here hx rfl (hb hby d10_75) ?_
      show Steps p.tables e below (T108.setTop (mkF m 76 #[.val (.ref f1), .val (.int (Int32.ofNat near2_102)), .val (.int (Int32.ofNat (opn near2_102)))] [(.int (1 : Int32)), (.int (Int32.ofNat oc)), (.ref f1)])) _
      refine XS.isub X108.here hx rfl (hb hby d10_76) rfl ?_
      show Steps p.tables e below (T108.setTop (mkF m 77 #[.val (.ref f1), .val (.int (Int32.ofNat near2_102)), .val (.int (Int32.ofNat (opn near2_102)))] [(.int ((Int32.ofNat oc) - (1 : Int32))), (.ref f1)])) _
      rw [hdec]
      show Steps p.tables e below (T108.setTop (mkF m 77 #[.val (.ref f1), .val (.int (Int32.ofNat near2_102)), .val (.int (Int32.ofNat (opn near2_102)))] [(.int (Int32.ofNat (oc - 1))), (.ref f1)])) _
      refine st109 _ ?_
      show Steps p.tables e below (T109.setTop (mkF m 80 #[.val (.ref f1), .val (.int (Int32.ofNat near2_102)), .val (.int (Int32.ofNat (opn near2_102)))] [])) _
      refine XS.aloadN X109.here hx rfl (hb hby d10_80) rfl rfl ?_
      show Steps p.tables e below (T109.setTop (mkF m 81 #[.val (.ref f1), .val (.int (Int32.ofNat near2_102)), .val (.int (Int32.ofNat (opn near2_102)))] [(.ref f1)])) _
      refine st113 _ ?_
      show Steps p.tables e below (T113.setTop (mkF m 84 #[.val (.ref f1), .val (.int (Int32.ofNat near2_102)), .val (.int (Int32.ofNat (opn near2_102)))] [(.ref aO)])) _
      refine XS.iloadN X113.here hx rfl (hb hby d10_84) rfl ?_
      show Steps p.tables e below (T113.setTop (mkF m 85 #[.val (.ref f1), .val (.int (Int32.ofNat near2_102)), .val (.int (Int32.ofNat (opn near2_102)))] [(.int (Int32.ofNat near2_102)), (.ref aO)])) _
      refine XS.aloadN X113.here hx rfl (hb hby d10_85) rfl rfl ?_
      show Steps p.tables e below (T113.setTop (mkF m 86 #[.val (.ref f1), .val (.int (Int32.ofNat near2_102)), .val (.int (Int32.ofNat (opn near2_102)))] [(.ref f1), (.int (Int32.ofNat near2_102)), (.ref aO)])) _
      refine st114 _ ?_
      show Steps p.tables e below (T114.setTop (mkF m 89 #[.val (.ref f1), .val (.int (Int32.ofNat near2_102)), .val (.int (Int32.ofNat (opn near2_102)))] [(.ref aO), (.int (Int32.ofNat near2_102)), (.ref aO)])) _
      refine XS.aloadN X114.here hx rfl (hb hby d10_89) rfl rfl ?_
      show Steps p.tables e below (T114.setTop (mkF m 90 #[.val (.ref f1), .val (.int (Int32.ofNat near2_102)), .val (.int (Int32.ofNat (opn near2_102)))] [(.ref f1), (.ref aO), (.int (Int32.ofNat near2_102)), (.ref aO)])) _
      refine st115 _ ?_
      show Steps p.tables e below (T115.setTop (mkF m 93 #[.val (.ref f1), .val (.int (Int32.ofNat near2_102)), .val (.int (Int32.ofNat (opn near2_102)))] [(.int (Int32.ofNat (oc - 1))), (.ref aO), (.int (Int32.ofNat near2_102)), (.ref aO)])) _
      refine X115.iaload hx (j := (Int32.ofNat (oc - 1))) (v := (.int (Int32.ofNat (opn (oc - 1))))) (by rw [e115]; exact Ar117.1) (State.isArrayOf_alike hZ.alike Ar117.2.1) Ar117.2.2 in118 at119 (g := (mkF m 93 #[.val (.ref f1), .val (.int (Int32.ofNat near2_102)), .val (.int (Int32.ofNat (opn near2_102)))] [(.int (Int32.ofNat (oc - 1))), (.ref aO), (.int (Int32.ofNat near2_102)), (.ref aO)])) rfl rfl (hb hby d10_93) _ ?_
      show Steps p.tables e below (T115.setTop (mkF m 94 #[.val (.ref f1), .val (.int (Int32.ofNat near2_102)), .val (.int (Int32.ofNat (opn near2_102)))] [(.int (Int32.ofNat (opn (oc - 1)))), (.int (Int32.ofNat near2_102)), (.ref aO)])) _
      refine st122 _ ?_
      show Steps p.tables e below (T122.setTop (mkF m 95 #[.val (.ref f1), .val (.int (Int32.ofNat near2_102)), .val (.int (Int32.ofNat (opn near2_102)))] [])) _
      refine XS.aloadN X122.here hx rfl (hb hby d10_95) rfl rfl ?_
      show Steps p.tables e below (T122.setTop (mkF m 96 #[.val (.ref f1), .val (.int (Int32.ofNat near2_102)), .val (.int (Int32.ofNat (opn near2_102)))] [(.ref f1)])) _
      refine st126 _ ?_
      show Steps p.tables e below (T126.setTop (mkF m 99 #[.val (.ref f1), .val (.int (Int32.ofNat near2_102)), .val (.int (Int32.ofNat (opn near2_102)))] [(.ref aS)])) _
      refine XS.iloadN X126.here hx rfl (hb hby d10_99) rfl ?_
      show Steps p.tables e below (T126.setTop (mkF m 100 #[.val (.ref f1), .val (.int (Int32.ofNat near2_102)), .val (.int (Int32.ofNat (opn near2_102)))] [(.int (Int32.ofNat (opn near2_102))), (.ref aS)])) _
      refine XS.iconst X126.here hx rfl (hb hby d10_100) ?_
      show Steps p.tables e below (T126.setTop (mkF m 101 #[.val (.ref f1), .val (.int (Int32.ofNat near2_102)), .val (.int (Int32.ofNat (opn near2_102)))] [(.int (1 : Int32)), (.int (Int32.ofNat (opn near2_102))), (.ref aS)])) _
      refine st130 _ ?_
      show Steps p.tables e below (T130.setTop (mkF m 102 #[.val (.ref f1), .val (.int (Int32.ofNat near2_102)), .val (.int (Int32.ofNat (opn near2_102)))] [])) _
      refine XS.iloadN X130.here hx rfl (hb hby d10_102) rfl ?_
      exact kt)
  have f134 : Exa Z h130 f1 "com/example/slotwright/slotwright/exchange/Frontier" := (((P_E_f1.wr W109).wr W122).wr W130)
  have f135 : Fld Z h130 f1 "com/example/slotwright/slotwright/exchange/Frontier" "distance" "[D" (.ref aD) := (((P_F_f1_distance.other W109 (Or.inr (slot_ne (Or.inr (hw _ (List.mem_of_getElem? (i := 11) rfl))) (Or.inl (hw _ (List.mem_of_getElem? (i := 31) rfl))) (by decide) (t := (.array .double)) (t' := .int) (by decide) (by decide)))).other W122 (Or.inl P_ne_f1_aO)).other W130 (Or.inl P_ne_f1_aS))
  have f136 : Fld Z h130 f1 "com/example/slotwright/slotwright/exchange/Frontier" "settled" "[Z" (.ref aS) := (f125.other W130 (Or.inl P_ne_f1_aS))
  have f137 : Fld Z h130 f1 "com/example/slotwright/slotwright/exchange/Frontier" "reached" "[I" (.ref aR) := (((P_F_f1_reached.other W109 (Or.inr (slot_ne (Or.inr (hw _ (List.mem_of_getElem? (i := 22) rfl))) (Or.inl (hw _ (List.mem_of_getElem? (i := 31) rfl))) (by decide) (t := (.array .int)) (t' := .int) (by decide) (by decide)))).other W122 (Or.inl P_ne_f1_aO)).other W130 (Or.inl P_ne_f1_aS))
  have f138 : Fld Z h130 f1 "com/example/slotwright/slotwright/exchange/Frontier" "open" "[I" (.ref aO) := ((f112.other W122 (Or.inl P_ne_f1_aO)).other W130 (Or.inl P_ne_f1_aS))
  have f139 : Fld Z h130 f1 "com/example/slotwright/slotwright/exchange/Frontier" "reachedCount" "I" (.int (Int32.ofNat rc)) := (((P_F_f1_reachedCount.other W109 (Or.inr (slot_ne (Or.inl (hw _ (List.mem_of_getElem? (i := 42) rfl))) (Or.inl (hw _ (List.mem_of_getElem? (i := 31) rfl))) (by decide) (t := .int) (t' := .int) (by decide) (by decide)))).other W122 (Or.inl P_ne_f1_aO)).other W130 (Or.inl P_ne_f1_aS))
  have f140 : Fld Z h130 f1 "com/example/slotwright/slotwright/exchange/Frontier" "openCount" "I" (.int (Int32.ofNat (oc - 1))) := ((F109.other W122 (Or.inl P_ne_f1_aO)).other W130 (Or.inl P_ne_f1_aS))
  have f141 : Arv Z h130 aD kD .double (Int32.ofNat n) (own_LD dist n) (.double (0 : UInt64)) := (((P_V_aD.other W109 (Ne.symm P_ne_f1_aD)).other W122 P_ne_aD_aO).other W130 P_ne_aD_aS)
  have f142 : Arv Z h130 aR kR .int (Int32.ofNat n) (own_LN rch n) (.int (0 : Int32)) := (((P_V_aR.other W109 (Ne.symm P_ne_f1_aR)).other W122 P_ne_aR_aO).other W130 (Ne.symm P_ne_aS_aR))
  have f143 : Arv Z h130 aO kO .int (Int32.ofNat n) (own_LN (own_up opn near2_102 (opn (oc - 1))) n) (.int (0 : Int32)) := (V122.other W130 (Ne.symm P_ne_aS_aO))
  obtain ⟨fs, hr, hrun, hended, hW, hsame⟩ := X130.leave (v := some (.int (Int32.ofNat (opn near2_102)))) (fun h => by rw [Bd.returns] at h; cases h)
  refine ⟨_, _, pre133 _ ?_, hrun, hended, _, _, rfl, ?_, ⟨_, rfl⟩, hW, hsame.mono (by decide) (by decide)⟩
  · show Steps p.tables e below (T130.setTop (mkF m 103 #[.val (.ref f1), .val (.int (Int32.ofNat near2_102)), .val (.int (Int32.ofNat (opn near2_102)))] [(.int (Int32.ofNat (opn near2_102)))])) _
    exact retI X130 hx Bd.returns (hb hby d10_103) hr
  · show QFsettle Z f1 aD aS aR aO kD kS kR kO n dist st rch rc opn oc h0 n0 _ T130.heap _
    rw [e130]
    exact ⟨near2_102, rfl, N130, k132, f134, f135, f136, f137, f138, f139, f140, f141, V130, f142, f143, x102_0⟩
theorem d6_2 : decode prog_39_method_9_code 2 = .ok (.iload_n 1, 1) := by decide +kernel
theorem d6_3 : decode prog_39_method_9_code 3 = .ok (.aload_n 0, 1) := by decide +kernel
theorem d6_4 : decode prog_39_method_9_code 4 = .ok (.getfield 47, 3) := by decide +kernel
theorem d6_7 : decode prog_39_method_9_code 7 = .ok (.if_icmp .ge 35, 3) := by decide +kernel
theorem d6_10 : decode prog_39_method_9_code 10 = .ok (.aload_n 0, 1) := by decide +kernel
theorem d6_11 : decode prog_39_method_9_code 11 = .ok (.getfield 7, 3) := by decide +kernel
theorem d6_14 : decode prog_39_method_9_code 14 = .ok (.aload_n 0, 1) := by decide +kernel
theorem d6_15 : decode prog_39_method_9_code 15 = .ok (.getfield 27, 3) := by decide +kernel
theorem d6_18 : decode prog_39_method_9_code 18 = .ok (.iload_n 1, 1) := by decide +kernel
theorem d6_19 : decode prog_39_method_9_code 19 = .ok (.iaload, 1) := by decide +kernel
theorem d6_20 : decode prog_39_method_9_code 20 = .ok (.ldc2_w 15, 3) := by decide +kernel
theorem d6_23 : decode prog_39_method_9_code 23 = .ok (.dastore, 1) := by decide +kernel
theorem d6_24 : decode prog_39_method_9_code 24 = .ok (.aload_n 0, 1) := by decide +kernel
theorem d6_25 : decode prog_39_method_9_code 25 = .ok (.getfield 23, 3) := by decide +kernel
theorem d6_28 : decode prog_39_method_9_code 28 = .ok (.aload_n 0, 1) := by decide +kernel
theorem d6_29 : decode prog_39_method_9_code 29 = .ok (.getfield 27, 3) := by decide +kernel
theorem d6_32 : decode prog_39_method_9_code 32 = .ok (.iload_n 1, 1) := by decide +kernel
theorem d6_33 : decode prog_39_method_9_code 33 = .ok (.iaload, 1) := by decide +kernel
theorem d6_34 : decode prog_39_method_9_code 34 = .ok (.iconst 0, 1) := by decide +kernel
theorem d6_35 : decode prog_39_method_9_code 35 = .ok (.bastore, 1) := by decide +kernel
theorem d6_36 : decode prog_39_method_9_code 36 = .ok (.iinc 1 1, 3) := by decide +kernel
theorem d6_39 : decode prog_39_method_9_code 39 = .ok (.goto (-37), 3) := by decide +kernel
set_option maxRecDepth 65536 in
set_option maxHeartbeats 40000000 in
theorem own_res_t {p : Program} {l : Launch} {e : Env} {R : Room} {s : State} {m : MethodId} {args : Array Value} {below : List Frame} {meth : Method} {c : Code} {cells slots : Nat} {Z : State} {a0 : Array Value} {n0 : Nat} {T0 : State} {locs : List Loc} {h0 : Heap} (f1 : Addr) (aD : Addr) (aS : Addr) (aR : Addr) (kD : ClassId) (kS : ClassId) (kR : ClassId) (n : Nat) (dist : Nat → UInt64) (st : Nat → Int32) (rch : Nat → Nat) (rc : Nat) (i : Nat) (X0 : Stand p l e R s m args below meth c T0 locs cells slots) (hx : p.tables.exec = Jvm.exec) (hZ : Z.Warmed39 s.vm) (hw : ∀ d ∈ tables_1, d.before a0 Z = true) (hby : c.code = prog_39_method_9_code) (hml : c.maxLocals = 2) (hown : s.vm.findClass "com/example/slotwright/slotwright/exchange/Frontier" = some m.cls) (e0 : T0.heap = h0) (N0 : Fr n0 locs) (Z0 : n0 ≤ h0.size) (hRf : 0 ≤ R.frames) (hRl : 0 ≤ R.locals) (hRc : cells + 0 ≤ R.cells) (hRs : slots + 0 ≤ R.slots) (P_E_f1 : Exa Z h0 f1 "com/example/slotwright/slotwright/exchange/Frontier") (P_F_f1_distance : Fld Z h0 f1 "com/example/slotwright/slotwright/exchange/Frontier" "distance" "[D" (.ref aD)) (P_F_f1_settled : Fld Z h0 f1 "com/example/slotwright/slotwright/exchange/Frontier" "settled" "[Z" (.ref aS)) (P_F_f1_reached : Fld Z h0 f1 "com/example/slotwright/slotwright/exchange/Frontier" "reached" "[I" (.ref aR)) (P_F_f1_reachedCount : Fld Z h0 f1 "com/example/slotwright/slotwright/exchange/Frontier" "reachedCount" "I" (.int (Int32.ofNat rc))) (P_V_aR : Arv Z h0 aR kR .int (Int32.ofNat n) (own_LN rch n) (.int (0 : Int32))) (P_V_aD : Arv Z h0 aD kD .double (Int32.ofNat n) (own_LD (own_clr own_inf rch i dist) n) (.double (0 : UInt64))) (P_V_aS : Arv Z h0 aS kS .boolean (Int32.ofNat n) (own_LZ (own_clr 0 rch i st) n) (.int (0 : Int32))) (P_ne_f1_aD : f1 ≠ aD) (P_ne_f1_aS : f1 ≠ aS) (P_ne_f1_aR : f1 ≠ aR) (P_ne_aD_aS : aD ≠ aS) (P_ne_aD_aR : aD ≠ aR) (P_ne_aS_aR : aS ≠ aR) (P_G_aD : n0 ≤ aD) (P_G_aS : n0 ≤ aS) (hn : n ≤ 4) (hrcn : rc ≤ n) (hrn : ∀ r, r < rc → rch r < n) (hi_ : i < rc) :
    ∃ (T' : State) (h' : Heap) (locs' : List Loc), Stand p l e R s m args below meth c T' locs' cells slots ∧ T'.heap = h' ∧ Fr n0 locs' ∧ Keep h0 h' [aD, aS] ∧ (Arv Z h' aD kD .double (Int32.ofNat n) (own_LD (own_clr own_inf rch (i + 1) dist) n) (.double (0 : UInt64))) ∧ (Arv Z h' aS kS .boolean (Int32.ofNat n) (own_LZ (own_clr 0 rch (i + 1) st) n) (.int (0 : Int32))) ∧ ∀ t_, Steps p.tables e below (T'.setTop (mkF m 2 #[.val (.ref f1), .val (.int (Int32.ofNat (i + 1)))] [])) t_ → Steps p.tables e below (T0.setTop (mkF m 2 #[.val (.ref f1), .val (.int (Int32.ofNat i))] [])) t_ := by
  have pre0 : ∀ t_, Steps p.tables e below (T0.setTop (mkF m 2 #[.val (.ref f1), .val (.int (Int32.ofNat i))] [])) t_ → Steps p.tables e below (T0.setTop (mkF m 2 #[.val (.ref f1), .val (.int (Int32.ofNat i))] [])) t_ := fun _ k => k
  have hin : i < n := by omega
  have hr : rch i < n := hrn i hi_
  obtain ⟨T101, X101, e101, st101⟩ := getF X0 hx hZ hown (host := "") (Or.inl (hw _ (List.mem_of_getElem? (i := 41) rfl))) Via.refl e0 P_F_f1_reachedCount (g := (mkF m 4 #[.val (.ref f1), .val (.int (Int32.ofNat i))] [(.ref f1), (.int (Int32.ofNat i))])) rfl rfl (hb hby d6_4)
  obtain ⟨T102, X102, e102, st102⟩ := getF X101 hx hZ hown (host := "") (Or.inl (hw _ (List.mem_of_getElem? (i := 10) rfl))) Via.refl e101 P_F_f1_distance (g := (mkF m 11 #[.val (.ref f1), .val (.int (Int32.ofNat i))] [(.ref f1)])) rfl rfl (hb hby d6_11)
  obtain ⟨T103, X103, e103, st103⟩ := getF X102 hx hZ hown (host := "") (Or.inl (hw _ (List.mem_of_getElem? (i := 21) rfl))) Via.refl e102 P_F_f1_reached (g := (mkF m 15 #[.val (.ref f1), .val (.int (Int32.ofNat i))] [(.ref f1), (.ref aD)])) rfl rfl (hb hby d6_15)
  obtain ⟨cl104, Ar104, Q104, S104, M104, H104, G104⟩ := id P_V_aR
  have in105 : ¬ ((Int32.ofNat i) < 0 ∨ cl104.slots.size ≤ ((Int32.ofNat i)).toNatClampNeg) := inb_of S104 ⟨nn32 (by omega), lt32 hin (by omega)⟩
  have at106 : cl104.slots[((Int32.ofNat i)).toNatClampNeg]? = some (.int (Int32.ofNat (rch i))) := by rw [n32 (by omega), H104 i (by rw [S104, n32 (by omega)]; exact hin), own_LN_at _ hin]
  obtain ⟨cl107, Ar107, Q107, S107, M107, H107, G107⟩ := id P_V_aD
  have in108 : ¬ ((Int32.ofNat (rch i)) < 0 ∨ cl107.slots.size ≤ ((Int32.ofNat (rch i))).toNatClampNeg) := inb_of S107 ⟨nn32 (by omega), lt32 hr (by omega)⟩
  obtain ⟨T109, h109, X109, e109, W109, st109⟩ := stD X103 hx hZ e103 Ar107 (j := (Int32.ofNat (rch i))) in108 (g := (mkF m 23 #[.val (.ref f1), .val (.int (Int32.ofNat i))] [(.double (9218868437227405312 : UInt64)), (.int (Int32.ofNat (rch i))), (.ref aD)])) rfl rfl (hb hby d6_23)
  have z110 : n0 ≤ h109.size := Nat.le_trans Z0 (Keep.of_wr W109).1
  have k111 : Keep h0 h109 [aD, aS] := (Keep.refl h0 [aD, aS]).wr W109 (Or.inl (List.mem_of_getElem? (i := 0) rfl))
  have V109 : Arv Z h109 aD kD .double (Int32.ofNat n) (own_LD (own_up (own_clr own_inf rch i dist) (rch i) own_inf) n) (.double (0 : UInt64)) := own_LD_set (own_clr own_inf rch i dist) n (rch i) own_inf ▸ Arv.set Ar107 Q107 S107 M107 H107 G107 rfl W109 (rch i) (n32 (by omega)) (by rw [own_LD_len]; exact hr)
  have N109 : Fr n0 _ := Fr.snoc X109 N0 P_G_aD
  have f112 : Fld Z h109 f1 "com/example/slotwright/slotwright/exchange/Frontier" "settled" "[Z" (.ref aS) := (P_F_f1_settled.other W109 (Or.inl P_ne_f1_aD))
  obtain ⟨T113, X113, e113, st113⟩ := getF X109 hx hZ hown (host := "") (Or.inl (hw _ (List.mem_of_getElem? (i := 18) rfl))) Via.refl e109 f112 (g := (mkF m 25 #[.val (.ref f1), .val (.int (Int32.ofNat i))] [(.ref f1)])) rfl rfl (hb hby d6_25)
  have f114 : Fld Z h109 f1 "com/example/slotwright/slotwright/exchange/Frontier" "reached" "[I" (.ref aR) := (P_F_f1_reached.other W109 (Or.inl P_ne_f1_aD))
  obtain ⟨T115, X115, e115, st115⟩ := getF X113 hx hZ hown (host := "") (Or.inl (hw _ (List.mem_of_getElem? (i := 21) rfl))) Via.refl e113 f114 (g := (mkF m 29 #[.val (.ref f1), .val (.int (Int32.ofNat i))] [(.ref f1), (.ref aS)])) rfl rfl (hb hby d6_29)
  have f116 : Arv Z h109 aR kR .int (Int32.ofNat n) (own_LN rch n) (.int (0 : Int32)) := (P_V_aR.other W109 (Ne.symm P_ne_aD_aR))
  obtain ⟨cl117, Ar117, Q117, S117, M117, H117, G117⟩ := id f116
  have in118 : ¬ ((Int32.ofNat i) < 0 ∨ cl117.slots.size ≤ ((Int32.ofNat i)).toNatClampNeg) := inb_of S117 ⟨nn32 (by omega), lt32 hin (by omega)⟩
  have at119 : cl117.slots[((Int32.ofNat i)).toNatClampNeg]? = some (.int (Int32.ofNat (rch i))) := by rw [n32 (by omega), H117 i (by rw [S117, n32 (by omega)]; exact hin), own_LN_at _ hin]
  have f120 : Arv Z h109 aS kS .boolean (Int32.ofNat n) (own_LZ (own_clr 0 rch i st) n) (.int (0 : Int32)) := (P_V_aS.other W109 (Ne.symm P_ne_aD_aS))
  obtain ⟨cl121, Ar121, Q121, S121, M121, H121, G121⟩ := id f120
  have in122 : ¬ ((Int32.ofNat (rch i)) < 0 ∨ cl121.slots.size ≤ ((Int32.ofNat (rch i))).toNatClampNeg) := inb_of S121 ⟨nn32 (by omega), lt32 hr (by omega)⟩
  obtain ⟨T123, h123, X123, e123, W123, st123⟩ := stZ X115 hx hZ e115 Ar121 (j := (Int32.ofNat (rch i))) in122 (g := (mkF m 35 #[.val (.ref f1), .val (.int (Int32.ofNat i))] [(.int (0 : Int32)), (.int (Int32.ofNat (rch i))), (.ref aS)])) rfl rfl (hb hby d6_35)
  have z124 : n0 ≤ h123.size := Nat.le_trans z110 (Keep.of_wr W123).1
  have k125 : Keep h0 h123 [aD, aS] := k111.wr W123 (Or.inl (List.mem_of_getElem? (i := 1) rfl))
  have V123 : Arv Z h123 aS kS .boolean (Int32.ofNat n) (own_LZ (own_up (own_clr 0 rch i st) (rch i) 0) n) (.int (0 : Int32)) := own_LZ_set (own_clr 0 rch i st) n (rch i) 0 ▸ Arv.set Ar121 Q121 S121 M121 H121 G121 (fits_nar_bool _) W123 (rch i) (n32 (by omega)) (by rw [own_LZ_len]; exact hr)
  have N123 : Fr n0 _ := Fr.snoc X123 N109 P_G_aS
  have pre126 : ∀ t_, Steps p.tables e below (T123.setTop (mkF m 2 #[.val (.ref f1), .val (.int (Int32.ofNat (i + 1)))] [])) t_ → Steps p.tables e below (T0.setTop (mkF m 2 #[.val (.ref f1), .val (.int (Int32.ofNat i))] [])) t_ := fun t_ kt => pre0 t_ (by
      show Steps p.tables e below (T0.setTop (mkF m 2 #[.val (.ref f1), .val (.int (Int32.ofNat i))] [])) _
      refine XS.iloadN X0.here hx rfl (hb hby d6_2) rfl ?_
      show Steps p.tables e below (T0.setTop (mkF m 3 #[.val (.ref f1), .val (.int (Int32.ofNat i))] [(.int (Int32.ofNat i))])) _
      refine XS.aloadN X0.here hx rfl (hb hby d6_3) rfl rfl ?_
      show Steps p.tables e below (T0.setTop (mkF m 4 #[.val (.ref f1), .val (.int (Int32.ofNat i))] [(.ref f1), (.int (Int32.ofNat i))])) _
      refine st101 _ ?_
      show Steps p.tables e below (T101.setTop (mkF m 7 #[.val (.ref f1), .val (.int (Int32.ofNat i))] [(.int (Int32.ofNat rc)), (.int (Int32.ofNat i))])) _
      refine XS.icmpNo X101.here hx rfl (hb hby d6_7) rfl (tlt (lt32 hi_ (by omega) : (Int32.ofNat i) < (Int32.ofNat rc))).2.1 ?_
      show Steps p.tables e below (T101.setTop (mkF m 10 #[.val (.ref f1), .val (.int (Int32.ofNat i))] [])) _
      refine XS.aloadN X101.here hx rfl (hb hby d6_10) rfl rfl ?_
      show Steps p.tables e below (T101.setTop (mkF m 11 #[.val (.ref f1), .val (.int (Int32.ofNat i))] [(.ref f1)])) _
      refine st102 _ ?_
      show Steps p.tables e below (T102.setTop (mkF m 14 #[.val (.ref f1), .val (.int (Int32.ofNat i))] [(.ref aD)])) _
      refine XS.aloadN X102.here hx rfl (hb hby d6_14) rfl rfl ?_
      show Steps p.tables e below (T102.setTop (mkF m 15 #[.val (.ref f1), .val (.int (Int32.ofNat i))] [(.ref f1), (.ref aD)])) _
      refine st103 _ ?_
      show Steps p.tables e below (T103.setTop (mkF m 18 #[.val (.ref f1), .val (.int (Int32.ofNat i))] [(.ref aR), (.ref aD)])) _
      refine XS.iloadN X103.here hx rfl (hb hby d6_18) rfl ?_
      show Steps p.tables e below (T103.setTop (mkF m 19 #[.val (.ref f1), .val (.int (Int32.ofNat i))] [(.int (Int32.ofNat i)), (.ref aR), (.ref aD)])) _
      refine X103.iaload hx (j := (Int32.ofNat i)) (v := (.int (Int32.ofNat (rch i)))) (by rw [e103]; exact Ar104.1) (State.isArrayOf_alike hZ.alike Ar104.2.1) Ar104.2.2 in105 at106 (g := (mkF m 19 #[.val (.ref f1), .val (.int (Int32.ofNat i))] [(.int (Int32.ofNat i)), (.ref aR), (.ref aD)])) rfl rfl (hb hby d6_19) _ ?_
      show Steps p.tables e below (T103.setTop (mkF m 20 #[.val (.ref f1), .val (.int (Int32.ofNat i))] [(.int (Int32.ofNat (rch i))), (.ref aD)])) _
      refine X103.ldc2DoubleC hx hown (mvT hZ (hw _ (List.mem_of_getElem? (i := 12) rfl))) (g := (mkF m 20 #[.val (.ref f1), .val (.int (Int32.ofNat i))] [(.int (Int32.ofNat (rch i))), (.ref aD)])) rfl (hb hby d6_20) _ ?_
      show Steps p.tables e below (T103.setTop (mkF m 23 #[.val (.ref f1), .val (.int (Int32.ofNat i))] [(.double (9218868437227405312 : UInt64)), (.int (Int32.ofNat (rch i))), (.ref aD)])) _
      refine st109 _ ?_
      show Steps p.tables e below (T109.setTop (mkF m 24 #[.val (.ref f1), .val (.int (Int32.ofNat i))] [])) _
      refine XS.aloadN X109.here hx rfl (hb hby d6_24) rfl rfl ?_
      show Steps p.tables e below (T109.setTop (mkF m 25 #[.val (.ref f1), .val (.int (Int32.ofNat i))] [(.ref f1)])) _
      refine st113 _ ?_
      show Steps p.tables e below (T113.setTop (mkF m 28 #[.val (.ref f1), .val (.int (Int32.ofNat i))] [(.ref aS)])) _
      refine XS.aloadN X113.here hx rfl (hb hby d6_28) rfl rfl ?_
      show Steps p.tables e below (T113.setTop (mkF m 29 #[.val (.ref f1), .val (.int (Int32.ofNat i))] [(.ref f1), (.ref aS)])) _
      refine st115 _ ?_
      show Steps p.tables e below (T115.setTop (mkF m 32 #[.val (.ref f1), .val (.int (Int32.ofNat i))] [(.ref aR), (.ref aS)])) _
      refine XS.iloadN X115.here hx rfl (hb hby d6_32) rfl ?_
      show Steps p.tables e below (T115.setTop (mkF m 33 #[.val (.ref f1), .val (.int (Int32.ofNat i))] [(.int (Int32.ofNat i)), (.ref aR), (.ref aS)])) _
      refine X115.iaload hx (j := (Int32.ofNat i)) (v := (.int (Int32.ofNat (rch i)))) (by rw [e115]; exact Ar117.1) (State.isArrayOf_alike hZ.alike Ar117.2.1) Ar117.2.2 in118 at119 (g := (mkF m 33 #[.val (.ref f1), .val (.int (Int32.ofNat i))] [(.int (Int32.ofNat i)), (.ref aR), (.ref aS)])) rfl rfl (hb hby d6_33) _ ?_
      show Steps p.tables e below (T115.setTop (mkF m 34 #[.val (.ref f1), .val (.int (Int32.ofNat i))] [(.int (Int32.ofNat (rch i))), (.ref aS)])) _
      refine XS.iconst X115.here hx rfl (hb hby d6_34) ?_
      show Steps p.tables e below (T115.setTop (mkF m 35 #[.val (.ref f1), .val (.int (Int32.ofNat i))] [(.int (0 : Int32)), (.int (Int32.ofNat (rch i))), (.ref aS)])) _
      refine st123 _ ?_
      show Steps p.tables e below (T123.setTop (mkF m 36 #[.val (.ref f1), .val (.int (Int32.ofNat i))] [])) _
      refine XS.iinc X123.here hx rfl (hb hby d6_36) rfl (l' := #[.val (.ref f1), .val (.int ((Int32.ofNat i) + (1 : Int32)))]) rfl ?_
      show Steps p.tables e below (T123.setTop (mkF m 39 #[.val (.ref f1), .val (.int ((Int32.ofNat i) + (1 : Int32)))] [])) _
      rw [one32 i]
      show Steps p.tables e below (T123.setTop (mkF m 39 #[.val (.ref f1), .val (.int (Int32.ofNat (i + 1)))] [])) _
      refine XS.goto X123.here hx rfl (pc0 := 39) (pc' := 2) rfl (hb hby d6_39) (by decide) (by decide) ?_
      exact kt)
  have f127 : Arv Z h123 aD kD .double (Int32.ofNat n) (own_LD (own_up (own_clr own_inf rch i dist) (rch i) own_inf) n) (.double (0 : UInt64)) := (V109.other W123 P_ne_aD_aS)
  exact ⟨T123, h123, _, X123, e123, N123, k125, f127, V123, fun t_ kt => pre126 t_ kt⟩
set_option maxRecDepth 65536 in
set_option maxHeartbeats 4000000 in
theorem own_res_l {p : Program} {l : Launch} {e : Env} {R : Room} {s : State} {m : MethodId} {args : Array Value} {below : List Frame} {meth : Method} {c : Code} {cells slots : Nat} {Z : State} {a0 : Array Value} {n0 : Nat} (f1 : Addr) (aD : Addr) (aS : Addr) (aR : Addr) (kD : ClassId) (kS : ClassId) (kR : ClassId) (n : Nat) (dist : Nat → UInt64) (st : Nat → Int32) (rch : Nat → Nat) (rc : Nat) (hx : p.tables.exec = Jvm.exec) (hZ : Z.Warmed39 s.vm) (hw : ∀ d ∈ tables_1, d.before a0 Z = true) (hby : c.code = prog_39_method_9_code) (hml : c.maxLocals = 2) (hown : s.vm.findClass "com/example/slotwright/slotwright/exchange/Frontier" = some m.cls) (P_ne_f1_aD : f1 ≠ aD) (P_ne_f1_aS : f1 ≠ aS) (P_ne_f1_aR : f1 ≠ aR) (P_ne_aD_aS : aD ≠ aS) (P_ne_aD_aR : aD ≠ aR) (P_ne_aS_aR : aS ≠ aR) (P_G_aD : n0 ≤ aD) (P_G_aS : n0 ≤ aS) (hn : n ≤ 4) (hrcn : rc ≤ n) (hrn : ∀ r, r < rc → rch r < n) : ∀ (k i : Nat) (T0 : State) (h0 : Heap) (locs : List Loc), i + k = rc → 0 ≤ i → Stand p l e R s m args below meth c T0 locs cells slots → T0.heap = h0 → Fr n0 locs → n0 ≤ h0.size → (Exa Z h0 f1 "com/example/slotwright/slotwright/exchange/Frontier") → (Fld Z h0 f1 "com/example/slotwright/slotwright/exchange/Frontier" "distance" "[D" (.ref aD)) → (Fld Z h0 f1 "com/example/slotwright/slotwright/exchange/Frontier" "settled" "[Z" (.ref aS)) → (Fld Z h0 f1 "com/example/slotwright/slotwright/exchange/Frontier" "reached" "[I" (.ref aR)) → (Fld Z h0 f1 "com/example/slotwright/slotwright/exchange/Frontier" "reachedCount" "I" (.int (Int32.ofNat rc))) → (Arv Z h0 aR kR .int (Int32.ofNat n) (own_LN rch n) (.int (0 : Int32))) → (Arv Z h0 aD kD .double (Int32.ofNat n) (own_LD (own_clr own_inf rch i dist) n) (.double (0 : UInt64))) → (Arv Z h0 aS kS .boolean (Int32.ofNat n) (own_LZ (own_clr 0 rch i st) n) (.int (0 : Int32))) → 0 ≤ R.frames → 0 ≤ R.locals → cells + 0 ≤ R.cells → slots + 0 ≤ R.slots →
    ∃ (T' : State) (h' : Heap) (locs' : List Loc), Stand p l e R s m args below meth c T' locs' cells slots ∧ T'.heap = h' ∧ Fr n0 locs' ∧ Keep h0 h' [aD, aS] ∧ (Arv Z h' aD kD .double (Int32.ofNat n) (own_LD (own_clr own_inf rch rc dist) n) (.double (0 : UInt64))) ∧ (Arv Z h' aS kS .boolean (Int32.ofNat n) (own_LZ (own_clr 0 rch rc st) n) (.int (0 : Int32))) ∧ ∀ t_, Steps p.tables e below (T'.setTop (mkF m 2 #[.val (.ref f1), .val (.int (Int32.ofNat rc))] [])) t_ → Steps p.tables e below (T0.setTop (mkF m 2 #[.val (.ref f1), .val (.int (Int32.ofNat i))] [])) t_ := by
  intro k
  induction k with
  | zero =>
    intro i T0 h0 locs hi hlo X0 e0 N0 Z0 V0 V1 V2 V3 V4 V5 V6 V7 hf hl hc hs
    obtain rfl : i = rc := by omega
    exact ⟨T0, h0, locs, X0, e0, N0, Keep.refl _ _, V6, V7, fun _ q => q⟩
  | succ k ih =>
    intro i T0 h0 locs hi hlo X0 e0 N0 Z0 V0 V1 V2 V3 V4 V5 V6 V7 hf hl hc hs
    obtain ⟨T1, h1, L1, X1, e1, N1, K1, Y0, Y1, st1⟩ := own_res_t f1 aD aS aR kD kS kR n dist st rch rc i X0 hx hZ hw hby hml hown e0 N0 Z0 hf hl hc hs V0 V1 V2 V3 V4 V5 V6 V7 P_ne_f1_aD P_ne_f1_aS P_ne_f1_aR P_ne_aD_aS P_ne_aD_aR P_ne_aS_aR P_G_aD P_G_aS hn hrcn hrn (by omega)
    obtain ⟨T2, h2, L2, X2, e2, N2, K2, U0, U1, st2⟩ := ih (i + 1) T1 h1 L1 (by omega) (by omega) X1 e1 N1 (Nat.le_trans Z0 K1.1) (V0.keep K1) (V1.keep K1 (own_nmc P_ne_f1_aD (own_nmc P_ne_f1_aS own_nm0))) (V2.keep K1 (own_nmc P_ne_f1_aD (own_nmc P_ne_f1_aS own_nm0))) (V3.keep K1 (own_nmc P_ne_f1_aD (own_nmc P_ne_f1_aS own_nm0))) (V4.keep K1 (own_nmc P_ne_f1_aD (own_nmc P_ne_f1_aS own_nm0))) (V5.keep K1 (own_nmc (Ne.symm P_ne_aD_aR) (own_nmc (Ne.symm P_ne_aS_aR) own_nm0))) Y0 Y1 hf hl hc hs
    exact ⟨T2, h2, L2, X2, e2, N2, K1.trans K2 (own_wmc (Or.inl (List.mem_of_getElem? (i := 0) rfl)) (own_wmc (Or.inl (List.mem_of_getElem? (i := 1) rfl)) own_wm0)), U0, U1, fun q kq => st1 q (st2 q kq)⟩
theorem own_res_lP {p : Program} {l : Launch} {e : Env} {R : Room} {s : State} {m : MethodId} {args : Array Value} {below : List Frame} {meth : Method} {c : Code} {cells slots : Nat} {Z : State} {a0 : Array Value} {n0 : Nat} {T0 : State} {locs : List Loc} {h0 : Heap} (f1 : Addr) (aD : Addr) (aS : Addr) (aR : Addr) (kD : ClassId) (kS : ClassId) (kR : ClassId) (n : Nat) (dist : Nat → UInt64) (st : Nat → Int32) (rch : Nat → Nat) (rc : Nat) (X0 : Stand p l e R s m args below meth c T0 locs cells slots) (hx : p.tables.exec = Jvm.exec) (hZ : Z.Warmed39 s.vm) (hw : ∀ d ∈ tables_1, d.before a0 Z = true) (hby : c.code = prog_39_method_9_code) (hml : c.maxLocals = 2) (hown : s.vm.findClass "com/example/slotwright/slotwright/exchange/Frontier" = some m.cls) (e0 : T0.heap = h0) (N0 : Fr n0 locs) (Z0 : n0 ≤ h0.size) (hRf : 0 ≤ R.frames) (hRl : 0 ≤ R.locals) (hRc : cells + 0 ≤ R.cells) (hRs : slots + 0 ≤ R.slots) (P_E_f1 : Exa Z h0 f1 "com/example/slotwright/slotwright/exchange/Frontier") (P_F_f1_distance : Fld Z h0 f1 "com/example/slotwright/slotwright/exchange/Frontier" "distance" "[D" (.ref aD)) (P_F_f1_settled : Fld Z h0 f1 "com/example/slotwright/slotwright/exchange/Frontier" "settled" "[Z" (.ref aS)) (P_F_f1_reached : Fld Z h0 f1 "com/example/slotwright/slotwright/exchange/Frontier" "reached" "[I" (.ref aR)) (P_F_f1_reachedCount : Fld Z h0 f1 "com/example/slotwright/slotwright/exchange/Frontier" "reachedCount" "I" (.int (Int32.ofNat rc))) (P_V_aR : Arv Z h0 aR kR .int (Int32.ofNat n) (own_LN rch n) (.int (0 : Int32))) (P_V_aD : Arv Z h0 aD kD .double (Int32.ofNat n) (own_LD (own_clr own_inf rch 0 dist) n) (.double (0 : UInt64))) (P_V_aS : Arv Z h0 aS kS .boolean (Int32.ofNat n) (own_LZ (own_clr 0 rch 0 st) n) (.int (0 : Int32))) (P_ne_f1_aD : f1 ≠ aD) (P_ne_f1_aS : f1 ≠ aS) (P_ne_f1_aR : f1 ≠ aR) (P_ne_aD_aS : aD ≠ aS) (P_ne_aD_aR : aD ≠ aR) (P_ne_aS_aR : aS ≠ aR) (P_G_aD : n0 ≤ aD) (P_G_aS : n0 ≤ aS) (hn : n ≤ 4) (hrcn : rc ≤ n) (hrn : ∀ r, r < rc → rch r < n) (hle_ : 0 ≤ rc) :
    ∃ (T' : State) (h' : Heap) (locs' : List Loc), Stand p l e R s m args below meth c T' locs' cells slots ∧ T'.heap = h' ∧ Fr n0 locs' ∧ Keep h0 h' [aD, aS] ∧ (Arv Z h' aD kD .double (Int32.ofNat n) (own_LD (own_clr own_inf rch rc dist) n) (.double (0 : UInt64))) ∧ (Arv Z h' aS kS .boolean (Int32.ofNat n) (own_LZ (own_clr 0 rch rc st) n) (.int (0 : Int32))) ∧ ∀ t_, Steps p.tables e below (T'.setTop (mkF m 2 #[.val (.ref f1), .val (.int (Int32.ofNat rc))] [])) t_ → Steps p.tables e below (T0.setTop (mkF m 2 #[.val (.ref f1), .val (.int (Int32.ofNat 0))] [])) t_ := by
  exact own_res_l f1 aD aS aR kD kS kR n dist st rch rc hx hZ hw hby hml hown P_ne_f1_aD P_ne_f1_aS P_ne_f1_aR P_ne_aD_aS P_ne_aD_aR P_ne_aS_aR P_G_aD P_G_aS hn hrcn hrn (rc - 0) 0 T0 h0 locs (by omega) (by omega) X0 e0 N0 Z0 P_E_f1 P_F_f1_distance P_F_f1_settled P_F_f1_reached P_F_f1_reachedCount P_V_aR P_V_aD P_V_aS hRf hRl hRc hRs
theorem ef_Freset (m : MethodId) (f1 : Addr) : entryFrame m #[(.ref f1)] 2 = mkF m 0 #[.val (.ref f1), .unset] [] := by first | (simp [entryFrame, mkF, argsToLocals, Value.category]; done) | rfl
theorem d6_0 : decode prog_39_method_9_code 0 = .ok (.iconst 0, 1) := by decide +kernel
theorem d6_1 : decode prog_39_method_9_code 1 = .ok (.istore_n 1, 1) := by decide +kernel
theorem d6_42 : decode prog_39_method_9_code 42 = .ok (.aload_n 0, 1) := by decide +kernel
theorem d6_43 : decode prog_39_method_9_code 43 = .ok (.iconst 0, 1) := by decide +kernel
theorem d6_44 : decode prog_39_method_9_code 44 = .ok (.putfield 47, 3) := by decide +kernel
theorem d6_47 : decode prog_39_method_9_code 47 = .ok (.aload_n 0, 1) := by decide +kernel
theorem d6_48 : decode prog_39_method_9_code 48 = .ok (.iconst 0, 1) := by decide +kernel
theorem d6_49 : decode prog_39_method_9_code 49 = .ok (.putfield 51, 3) := by decide +kernel
theorem d6_52 : decode prog_39_method_9_code 52 = .ok (.return_, 1) := by decide +kernel
def QFreset (Z : State) (f1 : Addr) (aD : Addr) (aS : Addr) (aR : Addr) (aO : Addr) (kD : ClassId) (kS : ClassId) (kR : ClassId) (kO : ClassId) (n : Nat) (dist : Nat → UInt64) (st : Nat → Int32) (rch : Nat → Nat) (rc : Nat) (opn : Nat → Nat) (oc : Nat) (h0 : Heap) (n0 : Nat) (v : Option Value) (h : Heap) (L : List Loc) : Prop := v = none ∧ Fr n0 L ∧ Keep h0 h [f1, aD, aS] ∧ (Exa Z h f1 "com/example/slotwright/slotwright/exchange/Frontier") ∧ (Fld Z h f1 "com/example/slotwright/slotwright/exchange/Frontier" "distance" "[D" (.ref aD)) ∧ (Fld Z h f1 "com/example/slotwright/slotwright/exchange/Frontier" "settled" "[Z" (.ref aS)) ∧ (Fld Z h f1 "com/example/slotwright/slotwright/exchange/Frontier" "reached" "[I" (.ref aR)) ∧ (Fld Z h f1 "com/example/slotwright/slotwright/exchange/Frontier" "open" "[I" (.ref aO)) ∧ (Fld Z h f1 "com/example/slotwright/slotwright/exchange/Frontier" "reachedCount" "I" (.int (Int32.ofNat 0))) ∧ (Fld Z h f1 "com/example/slotwright/slotwright/exchange/Frontier" "openCount" "I" (.int (Int32.ofNat 0))) ∧ (Arv Z h aD kD .double (Int32.ofNat n) (own_LD (own_clr own_inf rch rc dist) n) (.double (0 : UInt64))) ∧ (Arv Z h aS kS .boolean (Int32.ofNat n) (own_LZ (own_clr 0 rch rc st) n) (.int (0 : Int32))) ∧ (Arv Z h aR kR .int (Int32.ofNat n) (own_LN rch n) (.int (0 : Int32))) ∧ (Arv Z h aO kO .int (Int32.ofNat n) (own_LN opn n) (.int (0 : Int32)))
set_option maxRecDepth 65536 in
set_option maxHeartbeats 40000000 in
theorem rmFreset (l : Launch) (Z : State) (a0 : Array Value) (hw : ∀ d ∈ tables_1, d.before a0 Z = true) (ws : List Jvm.Cond) (f1 : Addr) (aD : Addr) (aS : Addr) (aR : Addr) (aO : Addr) (kD : ClassId) (kS : ClassId) (kR : ClassId) (kO : ClassId) (n : Nat) (dist : Nat → UInt64) (st : Nat → Int32) (rch : Nat → Nat) (rc : Nat) (opn : Nat → Nat) (oc : Nat) (h0 : Heap) (n0 : Nat) (Z0 : n0 ≤ h0.size) (P_E_f1 : Exa Z h0 f1 "com/example/slotwright/slotwright/exchange/Frontier") (P_F_f1_distance : Fld Z h0 f1 "com/example/slotwright/slotwright/exchange/Frontier" "distance" "[D" (.ref aD)) (P_F_f1_settled : Fld Z h0 f1 "com/example/slotwright/slotwright/exchange/Frontier" "settled" "[Z" (.ref aS)) (P_F_f1_reached : Fld Z h0 f1 "com/example/slotwright/slotwright/exchange/Frontier" "reached" "[I" (.ref aR)) (P_F_f1_open : Fld Z h0 f1 "com/example/slotwright/slotwright/exchange/Frontier" "open" "[I" (.ref aO)) (P_F_f1_reachedCount : Fld Z h0 f1 "com/example/slotwright/slotwright/exchange/Frontier" "reachedCount" "I" (.int (Int32.ofNat rc))) (P_F_f1_openCount : Fld Z h0 f1 "com/example/slotwright/slotwright/exchange/Frontier" "openCount" "I" (.int (Int32.ofNat oc))) (P_V_aD : Arv Z h0 aD kD .double (Int32.ofNat n) (own_LD dist n) (.double (0 : UInt64))) (P_V_aS : Arv Z h0 aS kS .boolean (Int32.ofNat n) (own_LZ st n) (.int (0 : Int32))) (P_V_aR : Arv Z h0 aR kR .int (Int32.ofNat n) (own_LN rch n) (.int (0 : Int32))) (P_V_aO : Arv Z h0 aO kO .int (Int32.ofNat n) (own_LN opn n) (.int (0 : Int32))) (P_ne_f1_aD : f1 ≠ aD) (P_ne_f1_aS : f1 ≠ aS) (P_ne_f1_aR : f1 ≠ aR) (P_ne_f1_aO : f1 ≠ aO) (P_ne_aD_aS : aD ≠ aS) (P_ne_aD_aR : aD ≠ aR) (P_ne_aD_aO : aD ≠ aO) (P_ne_aS_aR : aS ≠ aR) (P_ne_aS_aO : aS ≠ aO) (P_ne_aR_aO : aR ≠ aO) (P_G_f1 : n0 ≤ f1) (P_G_aD : n0 ≤ aD) (P_G_aS : n0 ≤ aS) (P_G_aR : n0 ≤ aR) (P_G_aO : n0 ≤ aO) (hn : n ≤ 4) (hrcn : rc ≤ n) (hrn : ∀ r, r < rc → rch r < n) :
    MetFree l (⟨"com/example/slotwright/slotwright/exchange/Frontier", "reset", "()V"⟩ : MethodName) (head1 (Jvm.Cond.code (⟨"com/example/slotwright/slotwright/exchange/Frontier", "reset", "()V"⟩ : MethodName) prog_39_method_9_code 2 none :: ws) ({ frames := 0, cells := 0, slots := 0, locals := 0 } : Room)) (fun a U => a = #[(.ref f1)] ∧ Z.Warmed39 U.vm ∧ U.heap = h0) (fun _ _ _ _ _ => True) (fun _ U o U' => ∃ v L, o = .returned v ∧ QFreset Z f1 aD aS aR aO kD kS kR kO n dist st rch rc opn oc h0 n0 v U'.heap L ∧ FrameEnd U o U' L ({ frames := 0, cells := 0, slots := 0, locals := 0 } : Room).cells ({ frames := 0, cells := 0, slots := 0, locals := 0 } : Room).slots) := by
  refine MetFree.of_bodySF (plainFor_of_name pn_com_example_slotwright_slotwright_exchange_Frontier) hisR ?_
  intro p e s m args below meth c s₁ Bd hml0 hP hK
  obtain ⟨rfl, hZ, hh⟩ := hP
  have hx := Bd.exec
  have hby := Bd.bytes
  have hml : c.maxLocals = 2 := hml0
  have hown : s.vm.findClass "com/example/slotwright/slotwright/exchange/Frontier" = some m.cls := findClass_of_methodNamed Bd.named
  have hnm := (name_of_methodNamed Bd.named Bd.method).1
  have X0 : Stand p l e ({ frames := 0, cells := 0, slots := 0, locals := 0 } : Room) s m #[(.ref f1)] below meth c s₁ [] 0 0 := Stand.of_body Bd
  have e0 : s₁.heap = h0 := by rw [← hh, Bd.state]; rfl
  have N0 := Fr.nil n0
  have pre0 : ∀ t_, Steps p.tables e below (s₁.setTop (mkF m 0 #[.val (.ref f1), .unset] [])) t_ → Steps p.tables e below (s₁.setTop (entryFrame m #[(.ref f1)] 2)) t_ := fun t_ k => castTop (ef_Freset m f1) k
  obtain ⟨T101, h101, L101, X101, e101, N101, K101, x101_0, x101_1, st101⟩ := own_res_lP (f1) (aD) (aS) (aR) (kD) (kS) (kR) (n) (dist) (st) (rch) (rc) X0 hx hZ hw hby hml hown e0 N0 Z0 (by decide) (by decide) (by decide) (by decide) P_E_f1 P_F_f1_distance P_F_f1_settled P_F_f1_reached P_F_f1_reachedCount P_V_aR P_V_aD P_V_aS P_ne_f1_aD P_ne_f1_aS P_ne_f1_aR P_ne_aD_aS P_ne_aD_aR P_ne_aS_aR P_G_aD P_G_aS (hn) (hrcn) (hrn) (Nat.zero_le _)
  have z102 : n0 ≤ h101.size := Nat.le_trans Z0 K101.1
  have k103 : Keep h0 h101 [f1, aD, aS] := (Keep.refl h0 [f1, aD, aS]).trans K101 (own_wmc (Or.inl (List.mem_of_getElem? (i := 1) rfl)) (own_wmc (Or.inl (List.mem_of_getElem? (i := 2) rfl)) own_wm0))
  have f104 : Fld Z h101 f1 "com/example/slotwright/slotwright/exchange/Frontier" "reachedCount" "I" (.int (Int32.ofNat rc)) := (P_F_f1_reachedCount.keep K101 (own_nmc P_ne_f1_aD (own_nmc P_ne_f1_aS own_nm0)))
  obtain ⟨T105, X105, e105, st105⟩ := getF X101 hx hZ hown (host := "") (Or.inl (hw _ (List.mem_of_getElem? (i := 41) rfl))) Via.refl e101 f104 (g := (mkF m 4 #[.val (.ref f1), .val (.int (Int32.ofNat rc))] [(.ref f1), (.int (Int32.ofNat rc))])) rfl rfl (hb hby d6_4)
  have f106 : Exa Z h101 f1 "com/example/slotwright/slotwright/exchange/Frontier" := (P_E_f1.keep K101)
  obtain ⟨T107, h107, X107, e107, W107, st107⟩ := putF X105 hx hZ hown (host := "") (Or.inl (hw _ (List.mem_of_getElem? (i := 41) rfl))) Via.refl e105 f104 f106 (Or.inl (hw _ (List.mem_of_getElem? (i := 42) rfl))) (hw _ (List.mem_of_getElem? (i := 1) rfl)) (ty := .int) (by decide) rfl rfl (g := (mkF m 44 #[.val (.ref f1), .val (.int (Int32.ofNat rc))] [(.int (0 : Int32)), (.ref f1)])) rfl rfl (hb hby d6_44)
  have F107 : Fld Z h107 f1 "com/example/slotwright/slotwright/exchange/Frontier" "reachedCount" "I" (.int (0 : Int32)) := f104.same W107
  have z108 : n0 ≤ h107.size := Nat.le_trans z102 (Keep.of_wr W107).1
  have k109 : Keep h0 h107 [f1, aD, aS] := k103.wr W107 (Or.inl (List.mem_of_getElem? (i := 0) rfl))
  have N107 : Fr n0 _ := Fr.snoc X107 N101 P_G_f1
  have f110 : Fld Z h107 f1 "com/example/slotwright/slotwright/exchange/Frontier" "openCount" "I" (.int (Int32.ofNat oc)) := ((P_F_f1_openCount.keep K101 (own_nmc P_ne_f1_aD (own_nmc P_ne_f1_aS own_nm0))).other W107 (Or.inr (slot_ne (Or.inl (hw _ (List.mem_of_getElem? (i := 31) rfl))) (Or.inl (hw _ (List.mem_of_getElem? (i := 42) rfl))) (by decide) (t := .int) (t' := .int) (by decide) (by decide))))
  have f111 : Exa Z h107 f1 "com/example/slotwright/slotwright/exchange/Frontier" := (f106.wr W107)
  obtain ⟨T112, h112, X112, e112, W112, st112⟩ := putF X107 hx hZ hown (host := "") (Or.inl (hw _ (List.mem_of_getElem? (i := 30) rfl))) Via.refl e107 f110 f111 (Or.inl (hw _ (List.mem_of_getElem? (i := 31) rfl))) (hw _ (List.mem_of_getElem? (i := 1) rfl)) (ty := .int) (by decide) rfl rfl (g := (mkF m 49 #[.val (.ref f1), .val (.int (Int32.ofNat rc))] [(.int (0 : Int32)), (.ref f1)])) rfl rfl (hb hby d6_49)
  have F112 : Fld Z h112 f1 "com/example/slotwright/slotwright/exchange/Frontier" "openCount" "I" (.int (0 : Int32)) := f110.same W112
  have z113 : n0 ≤ h112.size := Nat.le_trans z108 (Keep.of_wr W112).1
  have k114 : Keep h0 h112 [f1, aD, aS] := k109.wr W112 (Or.inl (List.mem_of_getElem? (i := 0) rfl))
  have N112 : Fr n0 _ := Fr.snoc X112 N107 P_G_f1
  have pre115 : ∀ t_, Steps p.tables e below (T112.setTop (mkF m 52 #[.val (.ref f1), .val (.int (Int32.ofNat rc))] [])) t_ → Steps p.tables e below (s₁.setTop (entryFrame m #[(.ref f1)] 2)) t_ := fun t_ kt => pre0 t_ (by
      show Steps p.tables e below (s₁.setTop (mkF m 0 #[.val (.ref f1), .unset] [])) _
      refine XS.iconst X0.here hx rfl (hb hby d6_0) ?_
      show Steps p.tables e below (s₁.setTop (mkF m 1 #[.val (.ref f1), .unset] [(.int (0 : Int32))])) _
      refine XS.istoreN X0.here hx rfl (hb hby d6_1) rfl (l' := #[.val (.ref f1), .val (.int (0 : Int32))]) rfl ?_
      show Steps p.tables e below (s₁.setTop (mkF m 2 #[.val (.ref f1), .val (.int (0 : Int32))] [])) _
      refine st101 _ ?_
      show Steps p.tables e below (T101.setTop (mkF m 2 #[.val (.ref f1), .val (.int (Int32.ofNat rc))] [])) _
      refine XS.iloadN X101.here hx rfl (hb hby d6_2) rfl ?_
      show Steps p.tables e below (T101.setTop (mkF m 3 #[.val (.ref f1), .val (.int (Int32.ofNat rc))] [(.int (Int32.ofNat rc))])) _
      refine XS.aloadN X101.here hx rfl (hb hby d6_3) rfl rfl ?_
      show Steps p.tables e below (T101.setTop (mkF m 4 #[.val (.ref f1), .val (.int (Int32.ofNat rc))] [(.ref f1), (.int (Int32.ofNat rc))])) _
      refine st105 _ ?_
      show Steps p.tables e below (T105.setTop (mkF m 7 #[.val (.ref f1), .val (.int (Int32.ofNat rc))] [(.int (Int32.ofNat rc)), (.int (Int32.ofNat rc))])) _
      refine XS.icmpYes X105.here hx rfl (pc0 := 7) (pc' := 42) rfl (hb hby d6_7) rfl (flt (nlt32 (Nat.le_refl _) (by omega) : ¬ ((Int32.ofNat rc) < (Int32.ofNat rc)))).2.1 (by decide) (by decide) ?_
      show Steps p.tables e below (T105.setTop (mkF m 42 #[.val (.ref f1), .val (.int (Int32.ofNat rc))] [])) _
      refine XS.aloadN X105.here hx rfl (hb hby d6_42) rfl rfl ?_
      show Steps p.tables e below (T105.setTop (mkF m 43 #[.val (.ref f1), .val (.int (Int32.ofNat rc))] [(.ref f1)])) _
      refine XS.iconst X105.here hx rfl (hb hby d6_43) ?_
      show Steps p.tables e below (T105.setTop (mkF m 44 #[.val (.ref f1), .val (.int (Int32.ofNat rc))] [(.int (0 : Int32)), (.ref f1)])) _
      refine st107 _ ?_
      show Steps p.tables e below (T107.setTop (mkF m 47 #[.val (.ref f1), .val (.int (Int32.ofNat rc))] [])) _
      refine XS.aloadN X107.here hx rfl (hb hby d6_47) rfl rfl ?_
      show Steps p.tables e below (T107.setTop (mkF m 48 #[.val (.ref f1), .val (.int (Int32.ofNat rc))] [(.ref f1)])) _
      refine XS.iconst X107.here hx rfl (hb hby d6_48) ?_
      show Steps p.tables e below (T107.setTop (mkF m 49 #[.val (.ref f1), .val (.int (Int32.ofNat rc))] [(.int (0 : Int32)), (.ref f1)])) _
      refine st112 _ ?_
      exact kt)
  have f116 : Exa Z h112 f1 "com/example/slotwright/slotwright/exchange/Frontier" := (f111.wr W112)
  have f117 : Fld Z h112 f1 "com/example/slotwright/slotwright/exchange/Frontier" "distance" "[D" (.ref aD) := (((P_F_f1_distance.keep K101 (own_nmc P_ne_f1_aD (own_nmc P_ne_f1_aS own_nm0))).other W107 (Or.inr (slot_ne (Or.inr (hw _ (List.mem_of_getElem? (i := 11) rfl))) (Or.inl (hw _ (List.mem_of_getElem? (i := 42) rfl))) (by decide) (t := (.array .double)) (t' := .int) (by decide) (by decide)))).other W112 (Or.inr (slot_ne (Or.inr (hw _ (List.mem_of_getElem? (i := 11) rfl))) (Or.inl (hw _ (List.mem_of_getElem? (i := 31) rfl))) (by decide) (t := (.array .double)) (t' := .int) (by decide) (by decide))))
  have f118 : Fld Z h112 f1 "com/example/slotwright/slotwright/exchange/Frontier" "settled" "[Z" (.ref aS) := (((P_F_f1_settled.keep K101 (own_nmc P_ne_f1_aD (own_nmc P_ne_f1_aS own_nm0))).other W107 (Or.inr (slot_ne (Or.inr (hw _ (List.mem_of_getElem? (i := 19) rfl))) (Or.inl (hw _ (List.mem_of_getElem? (i := 42) rfl))) (by decide) (t := (.array .boolean)) (t' := .int) (by decide) (by decide)))).other W112 (Or.inr (slot_ne (Or.inr (hw _ (List.mem_of_getElem? (i := 19) rfl))) (Or.inl (hw _ (List.mem_of_getElem? (i := 31) rfl))) (by decide) (t := (.array .boolean)) (t' := .int) (by decide) (by decide))))
  have f119 : Fld Z h112 f1 "com/example/slotwright/slotwright/exchange/Frontier" "reached" "[I" (.ref aR) := (((P_F_f1_reached.keep K101 (own_nmc P_ne_f1_aD (own_nmc P_ne_f1_aS own_nm0))).other W107 (Or.inr (slot_ne (Or.inr (hw _ (List.mem_of_getElem? (i := 22) rfl))) (Or.inl (hw _ (List.mem_of_getElem? (i := 42) rfl))) (by decide) (t := (.array .int)) (t' := .int) (by decide) (by decide)))).other W112 (Or.inr (slot_ne (Or.inr (hw _ (List.mem_of_getElem? (i := 22) rfl))) (Or.inl (hw _ (List.mem_of_getElem? (i := 31) rfl))) (by decide) (t := (.array .int)) (t' := .int) (by decide) (by decide))))
  have f120 : Fld Z h112 f1 "com/example/slotwright/slotwright/exchange/Frontier" "open" "[I" (.ref aO) := (((P_F_f1_open.keep K101 (own_nmc P_ne_f1_aD (own_nmc P_ne_f1_aS own_nm0))).other W107 (Or.inr (slot_ne (Or.inr (hw _ (List.mem_of_getElem? (i := 24) rfl))) (Or.inl (hw _ (List.mem_of_getElem? (i := 42) rfl))) (by decide) (t := (.array .int)) (t' := .int) (by decide) (by decide)))).other W112 (Or.inr (slot_ne (Or.inr (hw _ (List.mem_of_getElem? (i := 24) rfl))) (Or.inl (hw _ (List.mem_of_getElem? (i := 31) rfl))) (by decide) (t := (.array .int)) (t' := .int) (by decide) (by decide))))
  have f121 : Fld Z h112 f1 "com/example/slotwright/slotwright/exchange/Frontier" "reachedCount" "I" (.int (0 : Int32)) := (F107.other W112 (Or.inr (slot_ne (Or.inl (hw _ (List.mem_of_getElem? (i := 42) rfl))) (Or.inl (hw _ (List.mem_of_getElem? (i := 31) rfl))) (by decide) (t := .int) (t' := .int) (by decide) (by decide))))
  have f122 : Arv Z h112 aD kD .double (Int32.ofNat n) (own_LD (own_clr own_inf rch rc dist) n) (.double (0 : UInt64)) := ((x101_0.other W107 (Ne.symm P_ne_f1_aD)).other W112 (Ne.symm P_ne_f1_aD))
  have f123 : Arv Z h112 aS kS .boolean (Int32.ofNat n) (own_LZ (own_clr 0 rch rc st) n) (.int (0 : Int32)) := ((x101_1.other W107 (Ne.symm P_ne_f1_aS)).other W112 (Ne.symm P_ne_f1_aS))
  have f124 : Arv Z h112 aR kR .int (Int32.ofNat n) (own_LN rch n) (.int (0 : Int32)) := (((P_V_aR.keep K101 (own_nmc (Ne.symm P_ne_aD_aR) (own_nmc (Ne.symm P_ne_aS_aR) own_nm0))).other W107 (Ne.symm P_ne_f1_aR)).other W112 (Ne.symm P_ne_f1_aR))
  have f125 : Arv Z h112 aO kO .int (Int32.ofNat n) (own_LN opn n) (.int (0 : Int32)) := (((P_V_aO.keep K101 (own_nmc (Ne.symm P_ne_aD_aO) (own_nmc (Ne.symm P_ne_aS_aO) own_nm0))).other W107 (Ne.symm P_ne_f1_aO)).other W112 (Ne.symm P_ne_f1_aO))
  obtain ⟨fs, hr, hrun, hended, hW, hsame⟩ := X112.leave (v := none) (fun _ => rfl)
  refine ⟨_, _, pre115 _ ?_, hrun, hended, _, _, rfl, ?_, ⟨_, rfl⟩, hW, hsame.mono (by decide) (by decide)⟩
  · show Steps p.tables e below (T112.setTop (mkF m 52 #[.val (.ref f1), .val (.int (Int32.ofNat rc))] [])) _
    exact X112.returnOut hx Bd.returns (hb hby d6_52) hr
  · show QFreset Z f1 aD aS aR aO kD kS kR kO n dist st rch rc opn oc h0 n0 _ T112.heap _
    rw [e112]
    exact ⟨rfl, N112, k114, f116, f117, f118, f119, f120, f121, F112, f122, f123, f124, f125⟩
theorem ef_FisEmpty (m : MethodId) (f1 : Addr) : entryFrame m #[(.ref f1)] 1 = mkF m 0 #[.val (.ref f1)] [] := by first | (simp [entryFrame, mkF, argsToLocals, Value.category]; done) | rfl
theorem d4_0 : decode prog_39_method_3_code 0 = .ok (.aload_n 0, 1) := by decide +kernel
theorem d4_1 : decode prog_39_method_3_code 1 = .ok (.getfield 51, 3) := by decide +kernel
theorem d4_4 : decode prog_39_method_3_code 4 = .ok (.ifCond .ne 7, 3) := by decide +kernel
theorem d4_7 : decode prog_39_method_3_code 7 = .ok (.iconst 1, 1) := by decide +kernel
theorem d4_8 : decode prog_39_method_3_code 8 = .ok (.goto 4, 3) := by decide +kernel
theorem d4_12 : decode prog_39_method_3_code 12 = .ok (.ireturn, 1) := by decide +kernel
theorem d4_11 : decode prog_39_method_3_code 11 = .ok (.iconst 0, 1) := by decide +kernel
def QFisEmpty (Z : State) (f1 : Addr) (x1 : Int32) (h0 : Heap) (n0 : Nat) (v : Option Value) (h : Heap) (L : List Loc) : Prop := ∃ (r : Int32), v = some (.int r) ∧ Fr n0 L ∧ h = h0 ∧ (x1 = (0 : Int32) → r = (1 : Int32)) ∧ (¬ (x1 = (0 : Int32)) → r = (0 : Int32))
set_option maxRecDepth 65536 in
set_option maxHeartbeats 40000000 in
theorem rmFisEmpty (l : Launch) (Z : State) (a0 : Array Value) (hw : ∀ d ∈ tables_1, d.before a0 Z = true) (ws : List Jvm.Cond) (f1 : Addr) (x1 : Int32) (h0 : Heap) (n0 : Nat) (Z0 : n0 ≤ h0.size) (P_F_f1_openCount : Fld Z h0 f1 "com/example/slotwright/slotwright/exchange/Frontier" "openCount" "I" (.int x1)) :
    MetFree l (⟨"com/example/slotwright/slotwright/exchange/Frontier", "isEmpty", "()Z"⟩ : MethodName) (head1 (Jvm.Cond.code (⟨"com/example/slotwright/slotwright/exchange/Frontier", "isEmpty", "()Z"⟩ : MethodName) prog_39_method_3_code 1 (some .boolean) :: ws) ({ frames := 0, cells := 0, slots := 0, locals := 0 } : Room)) (fun a U => a = #[(.ref f1)] ∧ Z.Warmed39 U.vm ∧ U.heap = h0) (fun _ _ _ _ _ => True) (fun _ U o U' => ∃ v L, o = .returned v ∧ QFisEmpty Z f1 x1 h0 n0 v U'.heap L ∧ FrameEnd U o U' L ({ frames := 0, cells := 0, slots := 0, locals := 0 } : Room).cells ({ frames := 0, cells := 0, slots := 0, locals := 0 } : Room).slots) := by
  refine MetFree.of_bodySF (plainFor_of_name pn_com_example_slotwright_slotwright_exchange_Frontier) hisR ?_
  intro p e s m args below meth c s₁ Bd hml0 hP hK
  obtain ⟨rfl, hZ, hh⟩ := hP
  have hx := Bd.exec
  have hby := Bd.bytes
  have hml : c.maxLocals = 1 := hml0
  have hown : s.vm.findClass "com/example/slotwright/slotwright/exchange/Frontier" = some m.cls := findClass_of_methodNamed Bd.named
  have hnm := (name_of_methodNamed Bd.named Bd.method).1
  have X0 : Stand p l e ({ frames := 0, cells := 0, slots := 0, locals := 0 } : Room) s m #[(.ref f1)] below meth c s₁ [] 0 0 := Stand.of_body Bd
  have e0 : s₁.heap = h0 := by rw [← hh, Bd.state]; rfl
  have N0 := Fr.nil n0
  have pre0 : ∀ t_, Steps p.tables e below (s₁.setTop (mkF m 0 #[.val (.ref f1)] [])) t_ → Steps p.tables e below (s₁.setTop (entryFrame m #[(.ref f1)] 1)) t_ := fun t_ k => castTop (ef_FisEmpty m f1) k
  obtain ⟨T101, X101, e101, st101⟩ := getF X0 hx hZ hown (host := "") (Or.inl (hw _ (List.mem_of_getElem? (i := 30) rfl))) Via.refl e0 P_F_f1_openCount (g := (mkF m 1 #[.val (.ref f1)] [(.ref f1)])) rfl rfl (hb hby d4_1)
  have pre102 : ∀ t_, Steps p.tables e below (T101.setTop (mkF m 4 #[.val (.ref f1)] [(.int x1)])) t_ → Steps p.tables e below (s₁.setTop (entryFrame m #[(.ref f1)] 1)) t_ := fun t_ kt => pre0 t_ (by
      show Steps p.tables e below (s₁.setTop (mkF m 0 #[.val (.ref f1)] [])) _
      refine XS.aloadN X0.here hx rfl (hb hby d4_0) rfl rfl ?_
      show Steps p.tables e below (s₁.setTop (mkF m 1 #[.val (.ref f1)] [(.ref f1)])) _
      refine st101 _ ?_
      exact kt)
  by_cases hz : x1 = (0 : Int32)
  · skip
    have pre103 : ∀ t_, Steps p.tables e below (T101.setTop (mkF m 12 #[.val (.ref f1)] [(.int (1 : Int32))])) t_ → Steps p.tables e below (s₁.setTop (entryFrame m #[(.ref f1)] 1)) t_ := fun t_ kt => pre102 t_ (by
        show Steps p.tables e below (T101.setTop (mkF m 4 #[.val (.ref f1)] [(.int x1)])) _
        refine XS.ifNo X101.here hx rfl (hb hby d4_4) rfl ((if0 _ _).trans (teq (hz : x1 = (0 : Int32))).2) ?_
        show Steps p.tables e below (T101.setTop (mkF m 7 #[.val (.ref f1)] [])) _
        refine XS.iconst X101.here hx rfl (hb hby d4_7) ?_
        show Steps p.tables e below (T101.setTop (mkF m 8 #[.val (.ref f1)] [(.int (1 : Int32))])) _
        refine XS.goto X101.here hx rfl (pc0 := 8) (pc' := 12) rfl (hb hby d4_8) (by decide) (by decide) ?_
        exact kt)
    obtain ⟨fs, hr, hrun, hended, hW, hsame⟩ := X101.leave (v := some (.int (1 : Int32))) (fun h => by rw [Bd.returns] at h; cases h)
    refine ⟨_, _, pre103 _ ?_, hrun, hended, _, _, rfl, ?_, ⟨_, rfl⟩, hW, hsame.mono (by decide) (by decide)⟩
    · show Steps p.tables e below (T101.setTop (mkF m 12 #[.val (.ref f1)] [(.int (1 : Int32))])) _
      exact retN X101 hx (t := .boolean) Bd.returns (by simp) (hb hby d4_12) hr
    · show QFisEmpty Z f1 x1 h0 n0 _ T101.heap _
      rw [e101]
      exact ⟨(1 : Int32), rfl, N0, rfl, fun _ => rfl, fun q => absurd hz q⟩
  · skip
    have pre104 : ∀ t_, Steps p.tables e below (T101.setTop (mkF m 12 #[.val (.ref f1)] [(.int (0 : Int32))])) t_ → Steps p.tables e below (s₁.setTop (entryFrame m #[(.ref f1)] 1)) t_ := fun t_ kt => pre102 t_ (by
        show Steps p.tables e below (T101.setTop (mkF m 4 #[.val (.ref f1)] [(.int x1)])) _
        refine XS.ifYes X101.here hx rfl (pc0 := 4) (pc' := 11) rfl (hb hby d4_4) rfl ((if0 _ _).trans (feq (hz : ¬ (x1 = (0 : Int32)))).2) (by decide) (by decide) ?_
        show Steps p.tables e below (T101.setTop (mkF m 11 #[.val (.ref f1)] [])) _
        refine XS.iconst X101.here hx rfl (hb hby d4_11) ?_
        exact kt)
    obtain ⟨fs, hr, hrun, hended, hW, hsame⟩ := X101.leave (v := some (.int (0 : Int32))) (fun h => by rw [Bd.returns] at h; cases h)
    refine ⟨_, _, pre104 _ ?_, hrun, hended, _, _, rfl, ?_, ⟨_, rfl⟩, hW, hsame.mono (by decide) (by decide)⟩
    · show Steps p.tables e below (T101.setTop (mkF m 12 #[.val (.ref f1)] [(.int (0 : Int32))])) _
      exact retN X101 hx (t := .boolean) Bd.returns (by simp) (hb hby d4_12) hr
    · show QFisEmpty Z f1 x1 h0 n0 _ T101.heap _
      rw [e101]
      exact ⟨(0 : Int32), rfl, N0, rfl, fun q => absurd q hz, fun _ => rfl⟩
def own_bit (j : Nat) : Int32 := (1 : Int32) <<< ((Int32.ofNat j) &&& 31)
theorem own_bit_ne : ∀ j, j < 4 → ∀ v, v < 4 → j ≠ v → own_bit v &&& own_bit j = 0 := by decide
theorem own_bit_self : ∀ j, j < 4 → ¬ (own_bit j &&& own_bit j = 0) := by decide
theorem own_or_and (b x y : Int32) : (b ||| x) &&& y = (b &&& y) ||| (x &&& y) := by
  apply Int32.toBitVec_inj.mp
  simp only [Int32.toBitVec_and, Int32.toBitVec_or]
  apply BitVec.eq_of_getLsbD_eq
  intro i hi
  simp only [BitVec.getLsbD_and, BitVec.getLsbD_or]
  cases b.toBitVec.getLsbD i <;> cases x.toBitVec.getLsbD i <;> cases y.toBitVec.getLsbD i <;> rfl
theorem own_or0 (b : Int32) : b ||| 0 = b := by
  apply Int32.toBitVec_inj.mp
  simp
theorem own_or_z {b x : Int32} (h : b ||| x = 0) : x = 0 := by
  have h2 := congrArg Int32.toBitVec h
  rw [Int32.toBitVec_or] at h2
  apply Int32.toBitVec_inj.mp
  apply BitVec.eq_of_getLsbD_eq
  intro i hi
  have h3 := congrArg (fun z : BitVec 32 => z.getLsbD i) h2
  simp only [BitVec.getLsbD_or] at h3
  have : (0 : Int32).toBitVec.getLsbD i = false := by simp
  rw [this] at h3 ⊢
  revert h3
  cases b.toBitVec.getLsbD i <;> cases x.toBitVec.getLsbD i <;> simp
/-- b's bits say which nodes are reached -/
def own_bits (n : Nat) (b : Int32) (dist : Nat → UInt64) : Prop := ∀ j, j < n → (b &&& own_bit j = 0 ↔ dist j = own_inf)
theorem own_bits_new {n v : Nat} {b : Int32} {dist : Nat → UInt64} {d : UInt64} (hn : n ≤ 4) (hv : v < n) (hd : d ≠ own_inf) (h : own_bits n b dist) : own_bits n (b ||| own_bit v) (own_up dist v d) := by
  intro j hj
  by_cases q : j = v
  · subst q
    rw [own_up_eq, own_or_and]
    exact ⟨fun z => absurd (own_or_z z) (own_bit_self j (by omega)), fun z => absurd z hd⟩
  · rw [own_up_ne _ _ q, own_or_and, own_bit_ne j (by omega) v (by omega) q, own_or0]
    exact h j hj
theorem own_bits_old {n v : Nat} {b : Int32} {dist dist2 : Nat → UInt64} {d : UInt64} (hd : d ≠ own_inf) (hi : dist v ≠ own_inf) (h : own_bits n b dist) (e : dist2 = dist ∨ dist2 = own_up dist v d) : own_bits n b dist2 := by
  intro j hj
  rcases e with e | e
  · rw [e]; exact h j hj
  · rw [e]
    by_cases q : j = v
    · rw [q, own_up_eq]
      rw [q] at hj
      exact ⟨fun z => absurd ((h v hj).mp z) hi, fun z => absurd z hd⟩
    · rw [own_up_ne _ _ q]; exact h j hj
theorem own_bits_zero {n : Nat} {dist : Nat → UInt64} (h : ∀ j, j < n → dist j = own_inf) : own_bits n 0 dist := by
  intro j hj
  refine ⟨fun _ => h j hj, fun _ => ?_⟩
  apply Int32.toBitVec_inj.mp; simp
theorem own_WF_reset {n : Nat} {dist : Nat → UInt64} {st : Nat → Int32} {rch : Nat → Nat} {rc : Nat} {opn : Nat → Nat} {oc : Nat} (W : own_WF n dist st rch rc opn oc) : own_WF n (own_clr own_inf rch rc dist) (own_clr 0 rch rc st) rch 0 opn 0 := by
  have h1 := own_WF_resetD W; have h2 := own_WF_resetZ W
  refine ⟨?_, Nat.le_refl _, fun r h => by omega, fun k h => by omega, fun j hj h => absurd (h1 j hj) h, fun j hj h => absurd (h2 j hj) h, fun j hj => by rw [h1 j hj]; exact own_infnn⟩
  rw [own_cnt_congr _ (fun _ => False) fun j hj => ⟨fun q => q (h1 j hj), fun q => q.elim⟩]
  clear h1 h2 W
  induction n with
  | zero => rfl
  | succ n ih => unfold own_cnt; rw [← ih]; simp
theorem own_node {n : Nat} (h1 : 1 ≤ n) (hn : n ≤ 4) (x : Int32) : ∃ v, v < n ∧ (x &&& (2147483647 : Int32)) % (Int32.ofNat n) = Int32.ofNat v := by
  have h0 := (c_and x 2147483647 (by decide)).1
  have e : (Int32.ofNat n).toInt = (n : Int) := Int32.toInt_ofNat_of_lt (by omega)
  have m := (c_irem (x &&& 2147483647) (Int32.ofNat n) (n : Int) e).1 h0
  have m0 := Int.emod_nonneg (x &&& (2147483647 : Int32)).toInt (show (n : Int) ≠ 0 by omega)
  have m1 := Int.emod_lt_of_pos (x &&& (2147483647 : Int32)).toInt (show (0 : Int) < (n : Int) by omega)
  exact ⟨((x &&& (2147483647 : Int32)) % (Int32.ofNat n)).toInt.toNat, by omega, of_int (by omega)⟩
theorem own_nz {n : Nat} (h1 : 1 ≤ n) (hn : n ≤ 4) : ¬ (Int32.ofNat n = (0 : Int32)) := fun q => absurd ((eq32_iff (n := 0) (by omega) (by omega)).mp q) (by omega)
theorem own_n4 (x : Int32) : ∃ n : Nat, 1 ≤ n ∧ n ≤ 4 ∧ (1 : Int32) + (x &&& (3 : Int32)) = Int32.ofNat n := by
  have h := c_and x 3 (by decide)
  rw [show (3 : Int32).toInt = 3 from rfl] at h
  have s := c_iadd 1 (x &&& 3); have r := rng32 ((1 : Int32) + (x &&& 3))
  rw [show (1 : Int32).toInt = 1 from rfl] at s
  exact ⟨((1 : Int32) + (x &&& (3 : Int32))).toInt.toNat, by omega, by omega, of_int (by omega)⟩
theorem ef_step (m : MethodId) (f1 : Addr) (p1 : Int32) (aT : Addr) : entryFrame m #[(.ref f1), (.int (Int32.ofNat n)), (.int p1), (.ref aT)] 7 = mkF m 0 #[.val (.ref f1), .val (.int (Int32.ofNat n)), .val (.int p1), .val (.ref aT), .unset, .unset, .unset] [] := by first | (simp [entryFrame, mkF, argsToLocals, Value.category]; done) | rfl
theorem d5_0 : decode method_3_code 0 = .ok (.iload_n 2, 1) := by decide +kernel
theorem d5_1 : decode method_3_code 1 = .ok (.iconst 3, 1) := by decide +kernel
theorem d5_2 : decode method_3_code 2 = .ok (.iand, 1) := by decide +kernel
theorem d5_3 : decode method_3_code 3 = .ok (.istore 4, 2) := by decide +kernel
theorem d5_5 : decode method_3_code 5 = .ok (.iload 4, 2) := by decide +kernel
theorem d5_7 : decode method_3_code 7 = .ok (.iconst 1, 1) := by decide +kernel
theorem d5_8 : decode method_3_code 8 = .ok (.if_icmp .gt 59, 3) := by decide +kernel
theorem d5_67 : decode method_3_code 67 = .ok (.iload 4, 2) := by decide +kernel
theorem d5_69 : decode method_3_code 69 = .ok (.iconst 2, 1) := by decide +kernel
theorem d5_70 : decode method_3_code 70 = .ok (.if_icmp .ne 25, 3) := by decide +kernel
theorem d5_73 : decode method_3_code 73 = .ok (.aload_n 3, 1) := by decide +kernel
theorem d5_74 : decode method_3_code 74 = .ok (.iconst 1, 1) := by decide +kernel
theorem d5_75 : decode method_3_code 75 = .ok (.iaload, 1) := by decide +kernel
theorem d5_76 : decode method_3_code 76 = .ok (.ifCond .le 31, 3) := by decide +kernel
theorem d5_79 : decode method_3_code 79 = .ok (.aload_n 0, 1) := by decide +kernel
theorem pd__28_29I : parseMethodDescriptor "()I" = some ⟨[], some .int⟩ := by decide +kernel
theorem d5_80 : decode method_3_code 80 = .ok (.invokevirtual 27, 3) := by decide +kernel
theorem d5_83 : decode method_3_code 83 = .ok (.pop, 1) := by decide +kernel
theorem d5_84 : decode method_3_code 84 = .ok (.aload_n 3, 1) := by decide +kernel
theorem d5_85 : decode method_3_code 85 = .ok (.iconst 1, 1) := by decide +kernel
theorem d5_86 : decode method_3_code 86 = .ok (.aload_n 3, 1) := by decide +kernel
theorem d5_87 : decode method_3_code 87 = .ok (.iconst 1, 1) := by decide +kernel
theorem d5_88 : decode method_3_code 88 = .ok (.iaload, 1) := by decide +kernel
theorem d5_89 : decode method_3_code 89 = .ok (.iconst 1, 1) := by decide +kernel
theorem d5_90 : decode method_3_code 90 = .ok (.isub, 1) := by decide +kernel
theorem d5_91 : decode method_3_code 91 = .ok (.iastore, 1) := by decide +kernel
theorem d5_92 : decode method_3_code 92 = .ok (.goto 15, 3) := by decide +kernel
theorem d5_107 : decode method_3_code 107 = .ok (.aload_n 0, 1) := by decide +kernel
theorem pd__28_29Z : parseMethodDescriptor "()Z" = some ⟨[], some .boolean⟩ := by decide +kernel
theorem d5_108 : decode method_3_code 108 = .ok (.invokevirtual 12, 3) := by decide +kernel
theorem d5_111 : decode method_3_code 111 = .ok (.aload_n 3, 1) := by decide +kernel
theorem d5_112 : decode method_3_code 112 = .ok (.iconst 1, 1) := by decide +kernel
theorem d5_113 : decode method_3_code 113 = .ok (.iaload, 1) := by decide +kernel
theorem d5_114 : decode method_3_code 114 = .ok (.ifCond .ne 7, 3) := by decide +kernel
theorem d5_117 : decode method_3_code 117 = .ok (.iconst 1, 1) := by decide +kernel
theorem d5_118 : decode method_3_code 118 = .ok (.goto 4, 3) := by decide +kernel
theorem d5_122 : decode method_3_code 122 = .ok (.if_icmp .ne 7, 3) := by decide +kernel
theorem d5_125 : decode method_3_code 125 = .ok (.iconst 1, 1) := by decide +kernel
theorem d5_126 : decode method_3_code 126 = .ok (.goto 4, 3) := by decide +kernel
theorem d5_130 : decode method_3_code 130 = .ok (.ireturn, 1) := by decide +kernel
theorem d5_121 : decode method_3_code 121 = .ok (.iconst 0, 1) := by decide +kernel
theorem d5_95 : decode method_3_code 95 = .ok (.aload_n 0, 1) := by decide +kernel
theorem pd__28_29V : parseMethodDescriptor "()V" = some ⟨[], none⟩ := by decide +kernel
theorem d5_96 : decode method_3_code 96 = .ok (.invokevirtual 31, 3) := by decide +kernel
theorem d5_99 : decode method_3_code 99 = .ok (.aload_n 3, 1) := by decide +kernel
theorem d5_100 : decode method_3_code 100 = .ok (.iconst 0, 1) := by decide +kernel
theorem d5_101 : decode method_3_code 101 = .ok (.iconst 0, 1) := by decide +kernel
theorem d5_102 : decode method_3_code 102 = .ok (.iastore, 1) := by decide +kernel
theorem d5_103 : decode method_3_code 103 = .ok (.aload_n 3, 1) := by decide +kernel
theorem d5_104 : decode method_3_code 104 = .ok (.iconst 1, 1) := by decide +kernel
theorem d5_105 : decode method_3_code 105 = .ok (.iconst 0, 1) := by decide +kernel
theorem d5_106 : decode method_3_code 106 = .ok (.iastore, 1) := by decide +kernel
theorem d5_11 : decode method_3_code 11 = .ok (.iload_n 2, 1) := by decide +kernel
theorem d5_12 : decode method_3_code 12 = .ok (.iconst 2, 1) := by decide +kernel
theorem d5_13 : decode method_3_code 13 = .ok (.iushr, 1) := by decide +kernel
theorem d5_14 : decode method_3_code 14 = .ok (.ldc 22, 2) := by decide +kernel
theorem d5_16 : decode method_3_code 16 = .ok (.iand, 1) := by decide +kernel
theorem d5_17 : decode method_3_code 17 = .ok (.iload_n 1, 1) := by decide +kernel
theorem d5_18 : decode method_3_code 18 = .ok (.irem, 1) := by decide +kernel
theorem d5_19 : decode method_3_code 19 = .ok (.istore 5, 2) := by decide +kernel
theorem d5_21 : decode method_3_code 21 = .ok (.aload_n 0, 1) := by decide +kernel
theorem d5_22 : decode method_3_code 22 = .ok (.iload 5, 2) := by decide +kernel
theorem d5_24 : decode method_3_code 24 = .ok (.iload_n 2, 1) := by decide +kernel
theorem d5_25 : decode method_3_code 25 = .ok (.iconst 4, 1) := by decide +kernel
theorem d5_26 : decode method_3_code 26 = .ok (.ishr, 1) := by decide +kernel
theorem d5_27 : decode method_3_code 27 = .ok (.i2d, 1) := by decide +kernel
theorem pd__28ID_29Z : parseMethodDescriptor "(ID)Z" = some ⟨[.int, .double], some .boolean⟩ := by decide +kernel
theorem d5_28 : decode method_3_code 28 = .ok (.invokevirtual 23, 3) := by decide +kernel
theorem d5_31 : decode method_3_code 31 = .ok (.pop, 1) := by decide +kernel
theorem d5_32 : decode method_3_code 32 = .ok (.iconst 1, 1) := by decide +kernel
theorem d5_33 : decode method_3_code 33 = .ok (.iload 5, 2) := by decide +kernel
theorem d5_35 : decode method_3_code 35 = .ok (.ishl, 1) := by decide +kernel
theorem d5_36 : decode method_3_code 36 = .ok (.istore 6, 2) := by decide +kernel
theorem d5_38 : decode method_3_code 38 = .ok (.aload_n 3, 1) := by decide +kernel
theorem d5_39 : decode method_3_code 39 = .ok (.iconst 0, 1) := by decide +kernel
theorem d5_40 : decode method_3_code 40 = .ok (.iaload, 1) := by decide +kernel
theorem d5_41 : decode method_3_code 41 = .ok (.iload 6, 2) := by decide +kernel
theorem d5_43 : decode method_3_code 43 = .ok (.iand, 1) := by decide +kernel
theorem d5_44 : decode method_3_code 44 = .ok (.ifCond .ne 20, 3) := by decide +kernel
theorem d5_47 : decode method_3_code 47 = .ok (.aload_n 3, 1) := by decide +kernel
theorem d5_48 : decode method_3_code 48 = .ok (.iconst 0, 1) := by decide +kernel
theorem d5_49 : decode method_3_code 49 = .ok (.aload_n 3, 1) := by decide +kernel
theorem d5_50 : decode method_3_code 50 = .ok (.iconst 0, 1) := by decide +kernel
theorem d5_51 : decode method_3_code 51 = .ok (.iaload, 1) := by decide +kernel
theorem d5_52 : decode method_3_code 52 = .ok (.iload 6, 2) := by decide +kernel
theorem d5_54 : decode method_3_code 54 = .ok (.ior, 1) := by decide +kernel
theorem d5_55 : decode method_3_code 55 = .ok (.iastore, 1) := by decide +kernel
theorem d5_56 : decode method_3_code 56 = .ok (.aload_n 3, 1) := by decide +kernel
theorem d5_57 : decode method_3_code 57 = .ok (.iconst 1, 1) := by decide +kernel
theorem d5_58 : decode method_3_code 58 = .ok (.aload_n 3, 1) := by decide +kernel
theorem d5_59 : decode method_3_code 59 = .ok (.iconst 1, 1) := by decide +kernel
theorem d5_60 : decode method_3_code 60 = .ok (.iaload, 1) := by decide +kernel
theorem d5_61 : decode method_3_code 61 = .ok (.iconst 1, 1) := by decide +kernel
theorem d5_62 : decode method_3_code 62 = .ok (.iadd, 1) := by decide +kernel
theorem d5_63 : decode method_3_code 63 = .ok (.iastore, 1) := by decide +kernel
theorem d5_64 : decode method_3_code 64 = .ok (.goto 43, 3) := by decide +kernel
theorem pn_com_example_slotwright_slotwright_exchange_FrontierIsEmptyPinLaw : plainName "com/example/slotwright/slotwright/exchange/FrontierIsEmptyPinLaw" = true := by first | (simp [plainName, overriddenIn]; done) | decide +kernel
def Qstep (Z : State) (f1 : Addr) (p1 : Int32) (aT : Addr) (aD : Addr) (aS : Addr) (aR : Addr) (aO : Addr) (kD : ClassId) (kS : ClassId) (kR : ClassId) (kO : ClassId) (n : Nat) (dist : Nat → UInt64) (st : Nat → Int32) (rch : Nat → Nat) (rc : Nat) (opn : Nat → Nat) (oc : Nat) (b0 : Int32) (kT : ClassId) (h0 : Heap) (n0 : Nat) (v : Option Value) (h : Heap) (L : List Loc) : Prop := ∃ (dist2 : Nat → UInt64) (st2 : Nat → Int32) (rch2 : Nat → Nat) (rc2 : Nat) (opn2 : Nat → Nat) (oc2 : Nat) (b2 : Int32), v = some (.int (1 : Int32)) ∧ Fr n0 L ∧ Keep h0 h [f1, aD, aS, aR, aO, aT] ∧ (Exa Z h f1 "com/example/slotwright/slotwright/exchange/Frontier") ∧ (Fld Z h f1 "com/example/slotwright/slotwright/exchange/Frontier" "distance" "[D" (.ref aD)) ∧ (Fld Z h f1 "com/example/slotwright/slotwright/exchange/Frontier" "settled" "[Z" (.ref aS)) ∧ (Fld Z h f1 "com/example/slotwright/slotwright/exchange/Frontier" "reached" "[I" (.ref aR)) ∧ (Fld Z h f1 "com/example/slotwright/slotwright/exchange/Frontier" "open" "[I" (.ref aO)) ∧ (Fld Z h f1 "com/example/slotwright/slotwright/exchange/Frontier" "reachedCount" "I" (.int (Int32.ofNat rc2))) ∧ (Fld Z h f1 "com/example/slotwright/slotwright/exchange/Frontier" "openCount" "I" (.int (Int32.ofNat oc2))) ∧ (Arv Z h aD kD .double (Int32.ofNat n) (own_LD dist2 n) (.double (0 : UInt64))) ∧ (Arv Z h aS kS .boolean (Int32.ofNat n) (own_LZ st2 n) (.int (0 : Int32))) ∧ (Arv Z h aR kR .int (Int32.ofNat n) (own_LN rch2 n) (.int (0 : Int32))) ∧ (Arv Z h aO kO .int (Int32.ofNat n) (own_LN opn2 n) (.int (0 : Int32))) ∧ (Arv Z h aT kT .int (2 : Int32) [(.int b2), (.int (Int32.ofNat oc2))] (.int (0 : Int32))) ∧ (own_WF n dist2 st2 rch2 rc2 opn2 oc2) ∧ (own_bits n b2 dist2)
set_option maxRecDepth 65536 in
set_option maxHeartbeats 40000000 in
theorem rmstep (l : Launch) (Z : State) (a0 : Array Value) (hw : ∀ d ∈ tables_1, d.before a0 Z = true) (ws : List Jvm.Cond) (f1 : Addr) (p1 : Int32) (aT : Addr) (aD : Addr) (aS : Addr) (aR : Addr) (aO : Addr) (kD : ClassId) (kS : ClassId) (kR : ClassId) (kO : ClassId) (n : Nat) (dist : Nat → UInt64) (st : Nat → Int32) (rch : Nat → Nat) (rc : Nat) (opn : Nat → Nat) (oc : Nat) (b0 : Int32) (kT : ClassId) (h0 : Heap) (n0 : Nat) (Z0 : n0 ≤ h0.size) (P_E_f1 : Exa Z h0 f1 "com/example/slotwright/slotwright/exchange/Frontier") (P_F_f1_distance : Fld Z h0 f1 "com/example/slotwright/slotwright/exchange/Frontier" "distance" "[D" (.ref aD)) (P_F_f1_settled : Fld Z h0 f1 "com/example/slotwright/slotwright/exchange/Frontier" "settled" "[Z" (.ref aS)) (P_F_f1_reached : Fld Z h0 f1 "com/example/slotwright/slotwright/exchange/Frontier" "reached" "[I" (.ref aR)) (P_F_f1_open : Fld Z h0 f1 "com/example/slotwright/slotwright/exchange/Frontier" "open" "[I" (.ref aO)) (P_F_f1_reachedCount : Fld Z h0 f1 "com/example/slotwright/slotwright/exchange/Frontier" "reachedCount" "I" (.int (Int32.ofNat rc))) (P_F_f1_openCount : Fld Z h0 f1 "com/example/slotwright/slotwright/exchange/Frontier" "openCount" "I" (.int (Int32.ofNat oc))) (P_V_aD : Arv Z h0 aD kD .double (Int32.ofNat n) (own_LD dist n) (.double (0 : UInt64))) (P_V_aS : Arv Z h0 aS kS .boolean (Int32.ofNat n) (own_LZ st n) (.int (0 : Int32))) (P_V_aR : Arv Z h0 aR kR .int (Int32.ofNat n) (own_LN rch n) (.int (0 : Int32))) (P_V_aO : Arv Z h0 aO kO .int (Int32.ofNat n) (own_LN opn n) (.int (0 : Int32))) (P_V_aT : Arv Z h0 aT kT .int (2 : Int32) [(.int b0), (.int (Int32.ofNat oc))] (.int (0 : Int32))) (P_ne_f1_aD : f1 ≠ aD) (P_ne_f1_aS : f1 ≠ aS) (P_ne_f1_aR : f1 ≠ aR) (P_ne_f1_aO : f1 ≠ aO) (P_ne_aD_aS : aD ≠ aS) (P_ne_aD_aR : aD ≠ aR) (P_ne_aD_aO : aD ≠ aO) (P_ne_aS_aR : aS ≠ aR) (P_ne_aS_aO : aS ≠ aO) (P_ne_aR_aO : aR ≠ aO) (P_ne_f1_aT : f1 ≠ aT) (P_ne_aD_aT : aD ≠ aT) (P_ne_aS_aT : aS ≠ aT) (P_ne_aR_aT : aR ≠ aT) (P_ne_aO_aT : aO ≠ aT) (P_G_f1 : n0 ≤ f1) (P_G_aD : n0 ≤ aD) (P_G_aS : n0 ≤ aS) (P_G_aR : n0 ≤ aR) (P_G_aO : n0 ≤ aO) (P_G_aT : n0 ≤ aT) (hn : n ≤ 4) (h1 : 1 ≤ n) (hWf : own_WF n dist st rch rc opn oc) (hB : own_bits n b0 dist) :
    MetFree l (⟨"com/example/slotwright/slotwright/exchange/FrontierIsEmptyPinLaw", "step", "(Lcom/example/slotwright/slotwright/exchange/Frontier;II[I)Z"⟩ : MethodName) (head1 (Jvm.Cond.code (⟨"com/example/slotwright/slotwright/exchange/FrontierIsEmptyPinLaw", "step", "(Lcom/example/slotwright/slotwright/exchange/Frontier;II[I)Z"⟩ : MethodName) method_3_code 7 (some .boolean) :: ws) ({ frames := 3, cells := 0, slots := 0, locals := 42 } : Room)) (fun a U => a = #[(.ref f1), (.int (Int32.ofNat n)), (.int p1), (.ref aT)] ∧ Z.Warmed39 U.vm ∧ U.heap = h0) (fun _ _ _ _ _ => True) (fun _ U o U' => ∃ v L, o = .returned v ∧ Qstep Z f1 p1 aT aD aS aR aO kD kS kR kO n dist st rch rc opn oc b0 kT h0 n0 v U'.heap L ∧ FrameEnd U o U' L ({ frames := 3, cells := 0, slots := 0, locals := 42 } : Room).cells ({ frames := 3, cells := 0, slots := 0, locals := 42 } : Room).slots) := by
  refine MetFree.of_bodySF (plainFor_of_name pn_com_example_slotwright_slotwright_exchange_FrontierIsEmptyPinLaw) hisR ?_
  intro p e s m args below meth c s₁ Bd hml0 hP hK
  obtain ⟨rfl, hZ, hh⟩ := hP
  have hx := Bd.exec
  have hby := Bd.bytes
  have hml : c.maxLocals = 7 := hml0
  have hown : s.vm.findClass "com/example/slotwright/slotwright/exchange/FrontierIsEmptyPinLaw" = some m.cls := findClass_of_methodNamed Bd.named
  have hnm := (name_of_methodNamed Bd.named Bd.method).1
  have X0 : Stand p l e ({ frames := 3, cells := 0, slots := 0, locals := 42 } : Room) s m #[(.ref f1), (.int (Int32.ofNat n)), (.int p1), (.ref aT)] below meth c s₁ [] 0 0 := Stand.of_body Bd
  have e0 : s₁.heap = h0 := by rw [← hh, Bd.state]; rfl
  have N0 := Fr.nil n0
  have pre0 : ∀ t_, Steps p.tables e below (s₁.setTop (mkF m 0 #[.val (.ref f1), .val (.int (Int32.ofNat n)), .val (.int p1), .val (.ref aT), .unset, .unset, .unset] [])) t_ → Steps p.tables e below (s₁.setTop (entryFrame m #[(.ref f1), (.int (Int32.ofNat n)), (.int p1), (.ref aT)] 7)) t_ := fun t_ k => castTop (ef_step m f1 p1 aT) k
  obtain ⟨vv, hvv, evv⟩ := own_node h1 hn ((p1.toUInt32 >>> ((2 : Int32) &&& 31).toUInt32).toInt32)
  have hocn : oc ≤ n := by have a1 := hWf.1; have a2 := hWf.2.1; have := own_cnt_le (fun j => dist j ≠ own_inf) n; omega
  have pre101 : ∀ t_, Steps p.tables e below (s₁.setTop (mkF m 8 #[.val (.ref f1), .val (.int (Int32.ofNat n)), .val (.int p1), .val (.ref aT), .val (.int (p1 &&& (3 : Int32))), .unset, .unset] [(.int (1 : Int32)), (.int (p1 &&& (3 : Int32)))])) t_ → Steps p.tables e below (s₁.setTop (entryFrame m #[(.ref f1), (.int (Int32.ofNat n)), (.int p1), (.ref aT)] 7)) t_ := fun t_ kt => pre0 t_ (by
      show Steps p.tables e below (s₁.setTop (mkF m 0 #[.val (.ref f1), .val (.int (Int32.ofNat n)), .val (.int p1), .val (.ref aT), .unset, .unset, .unset] [])) _
      refine XS.iloadN X0.here hx rfl (hb hby d5_0) rfl ?_
      show Steps p.tables e below (s₁.setTop (mkF m 1 #[.val (.ref f1), .val (.int (Int32.ofNat n)), .val (.int p1), .val (.ref aT), .unset, .unset, .unset] [(.int p1)])) _
      refine XS.iconst X0.here hx rfl (hb hby d5_1) ?_
      show Steps p.tables e below (s₁.setTop (mkF m 2 #[.val (.ref f1), .val (.int (Int32.ofNat n)), .val (.int p1), .val (.ref aT), .unset, .unset, .unset] [(.int (3 : Int32)), (.int p1)])) _
      refine XS.iand X0.here hx rfl (hb hby d5_2) rfl ?_
      show Steps p.tables e below (s₁.setTop (mkF m 3 #[.val (.ref f1), .val (.int (Int32.ofNat n)), .val (.int p1), .val (.ref aT), .unset, .unset, .unset] [(.int (p1 &&& (3 : Int32)))])) _
      refine XS.istore X0.here hx rfl (hb hby d5_3) rfl (l' := #[.val (.ref f1), .val (.int (Int32.ofNat n)), .val (.int p1), .val (.ref aT), .val (.int (p1 &&& (3 : Int32))), .unset, .unset]) rfl ?_
      show Steps p.tables e below (s₁.setTop (mkF m 5 #[.val (.ref f1), .val (.int (Int32.ofNat n)), .val (.int p1), .val (.ref aT), .val (.int (p1 &&& (3 : Int32))), .unset, .unset] [])) _
      refine XS.iload X0.here hx rfl (hb hby d5_5) rfl ?_
      show Steps p.tables e below (s₁.setTop (mkF m 7 #[.val (.ref f1), .val (.int (Int32.ofNat n)), .val (.int p1), .val (.ref aT), .val (.int (p1 &&& (3 : Int32))), .unset, .unset] [(.int (p1 &&& (3 : Int32)))])) _
      refine XS.iconst X0.here hx rfl (hb hby d5_7) ?_
      exact kt)
  by_cases hc8_102 : (1 : Int32) < (p1 &&& (3 : Int32))
  · skip
    have pre103 : ∀ t_, Steps p.tables e below (s₁.setTop (mkF m 70 #[.val (.ref f1), .val (.int (Int32.ofNat n)), .val (.int p1), .val (.ref aT), .val (.int (p1 &&& (3 : Int32))), .unset, .unset] [(.int (2 : Int32)), (.int (p1 &&& (3 : Int32)))])) t_ → Steps p.tables e below (s₁.setTop (entryFrame m #[(.ref f1), (.int (Int32.ofNat n)), (.int p1), (.ref aT)] 7)) t_ := fun t_ kt => pre101 t_ (by
        show Steps p.tables e below (s₁.setTop (mkF m 8 #[.val (.ref f1), .val (.int (Int32.ofNat n)), .val (.int p1), .val (.ref aT), .val (.int (p1 &&& (3 : Int32))), .unset, .unset] [(.int (1 : Int32)), (.int (p1 &&& (3 : Int32)))])) _
        refine XS.icmpYes X0.here hx rfl (pc0 := 8) (pc' := 67) rfl (hb hby d5_8) rfl (tlt (hc8_102 : (1 : Int32) < (p1 &&& (3 : Int32)))).2.2.1 (by decide) (by decide) ?_
        show Steps p.tables e below (s₁.setTop (mkF m 67 #[.val (.ref f1), .val (.int (Int32.ofNat n)), .val (.int p1), .val (.ref aT), .val (.int (p1 &&& (3 : Int32))), .unset, .unset] [])) _
        refine XS.iload X0.here hx rfl (hb hby d5_67) rfl ?_
        show Steps p.tables e below (s₁.setTop (mkF m 69 #[.val (.ref f1), .val (.int (Int32.ofNat n)), .val (.int p1), .val (.ref aT), .val (.int (p1 &&& (3 : Int32))), .unset, .unset] [(.int (p1 &&& (3 : Int32)))])) _
        refine XS.iconst X0.here hx rfl (hb hby d5_69) ?_
        exact kt)
    by_cases hc70_104 : (p1 &&& (3 : Int32)) = (2 : Int32)
    · skip
      obtain ⟨cl105, Ar105, Q105, S105, M105, H105, G105⟩ := id P_V_aT
      have in106 : ¬ ((1 : Int32) < 0 ∨ cl105.slots.size ≤ ((1 : Int32)).toNatClampNeg) := inb_of S105 ⟨by decide, by decide⟩
      have at107 : cl105.slots[((1 : Int32)).toNatClampNeg]? = some (.int (Int32.ofNat oc)) := H105 1 (by rw [S105]; decide)
      have pre108 : ∀ t_, Steps p.tables e below (s₁.setTop (mkF m 76 #[.val (.ref f1), .val (.int (Int32.ofNat n)), .val (.int p1), .val (.ref aT), .val (.int (p1 &&& (3 : Int32))), .unset, .unset] [(.int (Int32.ofNat oc))])) t_ → Steps p.tables e below (s₁.setTop (entryFrame m #[(.ref f1), (.int (Int32.ofNat n)), (.int p1), (.ref aT)] 7)) t_ := fun t_ kt => pre103 t_ (by
          show Steps p.tables e below (s₁.setTop (mkF m 70 #[.val (.ref f1), .val (.int (Int32.ofNat n)), .val (.int p1), .val (.ref aT), .val (.int (p1 &&& (3 : Int32))), .unset, .unset] [(.int (2 : Int32)), (.int (p1 &&& (3 : Int32)))])) _
          refine XS.icmpNo X0.here hx rfl (hb hby d5_70) rfl (teq (hc70_104 : (p1 &&& (3 : Int32)) = (2 : Int32))).2 ?_
          show Steps p.tables e below (s₁.setTop (mkF m 73 #[.val (.ref f1), .val (.int (Int32.ofNat n)), .val (.int p1), .val (.ref aT), .val (.int (p1 &&& (3 : Int32))), .unset, .unset] [])) _
          refine XS.aloadN X0.here hx rfl (hb hby d5_73) rfl rfl ?_
          show Steps p.tables e below (s₁.setTop (mkF m 74 #[.val (.ref f1), .val (.int (Int32.ofNat n)), .val (.int p1), .val (.ref aT), .val (.int (p1 &&& (3 : Int32))), .unset, .unset] [(.ref aT)])) _
          refine XS.iconst X0.here hx rfl (hb hby d5_74) ?_
          show Steps p.tables e below (s₁.setTop (mkF m 75 #[.val (.ref f1), .val (.int (Int32.ofNat n)), .val (.int p1), .val (.ref aT), .val (.int (p1 &&& (3 : Int32))), .unset, .unset] [(.int (1 : Int32)), (.ref aT)])) _
          refine X0.iaload hx (j := (1 : Int32)) (v := (.int (Int32.ofNat oc))) (by rw [e0]; exact Ar105.1) (State.isArrayOf_alike hZ.alike Ar105.2.1) Ar105.2.2 in106 at107 (g := (mkF m 75 #[.val (.ref f1), .val (.int (Int32.ofNat n)), .val (.int p1), .val (.ref aT), .val (.int (p1 &&& (3 : Int32))), .unset, .unset] [(.int (1 : Int32)), (.ref aT)])) rfl rfl (hb hby d5_75) _ ?_
          exact kt)
      by_cases hc1 : (0 : Int32) < (Int32.ofNat oc)
      · skip
        have h1oc : 1 ≤ oc := by
          have q := (lt32_iff (i := 0) (n := oc) (by omega) (by omega)).mp hc1
          omega
        obtain ⟨cq109, kq109, q109a, q109b, q109c⟩ := isOf hZ e0 P_E_f1
        obtain ⟨_, _, ⟨T109, L109, kk109, nn109⟩, -, X109, ⟨Lc109, hQ109, l109, y109, z109⟩, st109⟩ := X0.virtualBack hx (y := (⟨"com/example/slotwright/slotwright/exchange/Frontier", "settleNearest", "()I"⟩ : MethodName)) (z := (⟨"com/example/slotwright/slotwright/exchange/Frontier", "settleNearest", "()I"⟩ : MethodName)) hown (mvT hZ (hw _ (List.mem_of_getElem? (i := 58) rfl))) (mvT hZ (hw _ (List.mem_of_getElem? (i := 59) rfl))) (notFace_of_selects (args := #[]) (mvT hZ (hw _ (List.mem_of_getElem? (i := 61) rfl)))) (mvT hZ (hw _ (List.mem_of_getElem? (i := 61) rfl))) (mvT hZ (hw _ (List.mem_of_getElem? (i := 60) rfl))) (by decide) (backOf (W := 0) (rmFsettle l Z a0 hw [] f1 aD aS aR aO kD kS kR kO n dist st rch rc opn oc h0 n0 Z0 P_E_f1 P_F_f1_distance P_F_f1_settled P_F_f1_reached P_F_f1_open P_F_f1_reachedCount P_F_f1_openCount P_V_aD P_V_aS P_V_aR P_V_aO P_ne_f1_aD P_ne_f1_aS P_ne_f1_aR P_ne_f1_aO P_ne_aD_aS P_ne_aD_aR P_ne_aD_aO P_ne_aS_aR P_ne_aS_aO P_ne_aR_aO P_G_f1 P_G_aD P_G_aS P_G_aR P_G_aO (hn) (hocn) (h1oc) (fun j hj => (hWf.2.2.2.1 j hj).1) (hWf.2.2.2.2.2.2)) hZ (hw _ (List.mem_of_getElem? (i := 62) rfl)) (hw _ (List.mem_of_getElem? (i := 2) rfl)) (by decide) (by decide)) q109a q109c (g := (mkF m 80 #[.val (.ref f1), .val (.int (Int32.ofNat n)), .val (.int p1), .val (.ref aT), .val (.int (p1 &&& (3 : Int32))), .unset, .unset] [(.ref f1)])) rfl (by rw [hml]; rfl) (Steps.refl _) (argsL := []) (rest := []) (lenOf pd__28_29I rfl) rfl (by show 2 * 0 + _ ≤ _; exact Nat.le_of_eq rfl) (hb hby d5_80) (fun _ _ => ⟨rfl, e0, (by decide : 0 + 0 ≤ _), (by decide : 0 + 0 ≤ _)⟩)
        dsimp only [Pt.U, Pt.locs, Pt.cells, Pt.slots] at X109 l109 y109 z109 st109 hQ109
        subst l109 y109 z109
        obtain ⟨near_109, rfl, N109q, K109, x109_0, x109_1, x109_2, x109_3, x109_4, x109_5, x109_6, x109_7, x109_8, x109_9, x109_10, x109_11⟩ := hQ109
        have N109 := Fr.app N0 N109q
        have z110 : n0 ≤ T109.heap.size := Nat.le_trans Z0 K109.1
        have k111 : Keep h0 T109.heap [f1, aD, aS, aR, aO, aT] := (Keep.refl h0 [f1, aD, aS, aR, aO, aT]).trans K109 (own_wmc (Or.inl (List.mem_of_getElem? (i := 0) rfl)) (own_wmc (Or.inl (List.mem_of_getElem? (i := 4) rfl)) (own_wmc (Or.inl (List.mem_of_getElem? (i := 2) rfl)) own_wm0)))
        have hdec : Int32.ofNat oc - (1 : Int32) = Int32.ofNat (oc - 1) := by
          have : oc = (oc - 1) + 1 := by omega
          rw [this, ← one32]; simp
        have f112 : Arv Z T109.heap aT kT .int (2 : Int32) [(.int b0), (.int (Int32.ofNat oc))] (.int (0 : Int32)) := (P_V_aT.keep K109 (own_nmc (Ne.symm P_ne_f1_aT) (own_nmc (Ne.symm P_ne_aO_aT) (own_nmc (Ne.symm P_ne_aS_aT) own_nm0))))
        obtain ⟨cl113, Ar113, Q113, S113, M113, H113, G113⟩ := id f112
        have in114 : ¬ ((1 : Int32) < 0 ∨ cl113.slots.size ≤ ((1 : Int32)).toNatClampNeg) := inb_of S113 ⟨by decide, by decide⟩
        have at115 : cl113.slots[((1 : Int32)).toNatClampNeg]? = some (.int (Int32.ofNat oc)) := H113 1 (by rw [S113]; decide)
        obtain ⟨cl116, Ar116, Q116, S116, M116, H116, G116⟩ := id f112
        have in117 : ¬ ((1 : Int32) < 0 ∨ cl116.slots.size ≤ ((1 : Int32)).toNatClampNeg) := inb_of S116 ⟨by decide, by decide⟩
        obtain ⟨T118, h118, X118, e118, W118, st118⟩ := stI X109 hx hZ rfl Ar116 (j := (1 : Int32)) in117 (g := (mkF m 91 #[.val (.ref f1), .val (.int (Int32.ofNat n)), .val (.int p1), .val (.ref aT), .val (.int (p1 &&& (3 : Int32))), .unset, .unset] [(.int (Int32.ofNat (oc - 1))), (.int (1 : Int32)), (.ref aT)])) rfl rfl (hb hby d5_91)
        have z119 : n0 ≤ h118.size := Nat.le_trans z110 (Keep.of_wr W118).1
        have k120 : Keep h0 h118 [f1, aD, aS, aR, aO, aT] := k111.wr W118 (Or.inl (List.mem_of_getElem? (i := 5) rfl))
        have V118 : Arv Z h118 aT kT .int (2 : Int32) [(.int b0), (.int (Int32.ofNat (oc - 1)))] (.int (0 : Int32)) := Arv.set Ar116 Q116 S116 M116 H116 G116 rfl W118 1 rfl (Nat.le_of_ble_eq_true rfl)
        have N118 : Fr n0 _ := Fr.snoc X118 N109 P_G_aT
        have f121 : Fld Z h118 f1 "com/example/slotwright/slotwright/exchange/Frontier" "openCount" "I" (.int (Int32.ofNat (oc - 1))) := (x109_6.other W118 (Or.inl P_ne_f1_aT))
        have f123 : Exa Z h118 f1 "com/example/slotwright/slotwright/exchange/Frontier" := (x109_0.wr W118)
        obtain ⟨cq122, kq122, q122a, q122b, q122c⟩ := isOf hZ e118 f123
        obtain ⟨_, _, ⟨T122, L122, kk122, nn122⟩, -, X122, ⟨Lc122, hQ122, l122, y122, z122⟩, st122⟩ := X118.virtualBack hx (y := (⟨"com/example/slotwright/slotwright/exchange/Frontier", "isEmpty", "()Z"⟩ : MethodName)) (z := (⟨"com/example/slotwright/slotwright/exchange/Frontier", "isEmpty", "()Z"⟩ : MethodName)) hown (mvT hZ (hw _ (List.mem_of_getElem? (i := 25) rfl))) (mvT hZ (hw _ (List.mem_of_getElem? (i := 26) rfl))) (notFace_of_selects (args := #[]) (mvT hZ (hw _ (List.mem_of_getElem? (i := 28) rfl)))) (mvT hZ (hw _ (List.mem_of_getElem? (i := 28) rfl))) (mvT hZ (hw _ (List.mem_of_getElem? (i := 27) rfl))) (by decide) (backOf (W := 0) (rmFisEmpty l Z a0 hw [] f1 (Int32.ofNat (oc - 1)) h118 n0 z119 f121) hZ (hw _ (List.mem_of_getElem? (i := 29) rfl)) (hw _ (List.mem_of_getElem? (i := 2) rfl)) (by decide) (by decide)) q122a q122c (g := (mkF m 108 #[.val (.ref f1), .val (.int (Int32.ofNat n)), .val (.int p1), .val (.ref aT), .val (.int (p1 &&& (3 : Int32))), .unset, .unset] [(.ref f1)])) rfl (by rw [hml]; rfl) (Steps.refl _) (argsL := []) (rest := []) (lenOf pd__28_29Z rfl) rfl (by show 2 * 0 + _ ≤ _; exact Nat.le_of_eq rfl) (hb hby d5_108) (fun _ _ => ⟨rfl, e118, (by decide : 0 + 0 ≤ _), (by decide : 0 + 0 ≤ _)⟩)
        dsimp only [Pt.U, Pt.locs, Pt.cells, Pt.slots] at X122 l122 y122 z122 st122 hQ122
        subst l122 y122 z122
        obtain ⟨r_122, rfl, N122q, e122, x122_0, x122_1⟩ := hQ122
        have N122 := Fr.app N118 N122q
        obtain ⟨cl124, Ar124, Q124, S124, M124, H124, G124⟩ := id V118
        have in125 : ¬ ((1 : Int32) < 0 ∨ cl124.slots.size ≤ ((1 : Int32)).toNatClampNeg) := inb_of S124 ⟨by decide, by decide⟩
        have at126 : cl124.slots[((1 : Int32)).toNatClampNeg]? = some (.int (Int32.ofNat (oc - 1))) := H124 1 (by rw [S124]; decide)
        have pre127 : ∀ t_, Steps p.tables e below (T122.setTop (mkF m 114 #[.val (.ref f1), .val (.int (Int32.ofNat n)), .val (.int p1), .val (.ref aT), .val (.int (p1 &&& (3 : Int32))), .unset, .unset] [(.int (Int32.ofNat (oc - 1))), (.int r_122)])) t_ → Steps p.tables e below (s₁.setTop (entryFrame m #[(.ref f1), (.int (Int32.ofNat n)), (.int p1), (.ref aT)] 7)) t_ := fun t_ kt => pre108 t_ (by
            show Steps p.tables e below (s₁.setTop (mkF m 76 #[.val (.ref f1), .val (.int (Int32.ofNat n)), .val (.int p1), .val (.ref aT), .val (.int (p1 &&& (3 : Int32))), .unset, .unset] [(.int (Int32.ofNat oc))])) _
            refine XS.ifNo X0.here hx rfl (hb hby d5_76) rfl ((if0 _ _).trans (tlt (hc1 : (0 : Int32) < (Int32.ofNat oc))).2.2.2) ?_
            show Steps p.tables e below (s₁.setTop (mkF m 79 #[.val (.ref f1), .val (.int (Int32.ofNat n)), .val (.int p1), .val (.ref aT), .val (.int (p1 &&& (3 : Int32))), .unset, .unset] [])) _
            refine XS.aloadN X0.here hx rfl (hb hby d5_79) rfl rfl ?_
            show Steps p.tables e below (s₁.setTop (mkF m 80 #[.val (.ref f1), .val (.int (Int32.ofNat n)), .val (.int p1), .val (.ref aT), .val (.int (p1 &&& (3 : Int32))), .unset, .unset] [(.ref f1)])) _
            refine st109.trans ?_
            show Steps p.tables e below (T109.setTop (mkF m 83 #[.val (.ref f1), .val (.int (Int32.ofNat n)), .val (.int p1), .val (.ref aT), .val (.int (p1 &&& (3 : Int32))), .unset, .unset] [(.int (Int32.ofNat (opn near_109)))])) _
            refine XS.pop X109.here hx rfl (hb hby d5_83) rfl rfl ?_
            show Steps p.tables e below (T109.setTop (mkF m 84 #[.val (.ref f1), .val (.int (Int32.ofNat n)), .val (.int p1), .val (.ref aT), .val (.int (p1 &&& (3 : Int32))), .unset, .unset] [])) _
            refine XS.aloadN X109.here hx rfl (hb hby d5_84) rfl rfl ?_
            show Steps p.tables e below (T109.setTop (mkF m 85 #[.val (.ref f1), .val (.int (Int32.ofNat n)), .val (.int p1), .val (.ref aT), .val (.int (p1 &&& (3 : Int32))), .unset, .unset] [(.ref aT)])) _
            refine XS.iconst X109.here hx rfl (hb hby d5_85) ?_
            show Steps p.tables e below (T109.setTop (mkF m 86 #[.val (.ref f1), .val (.int (Int32.ofNat n)), .val (.int p1), .val (.ref aT), .val (.int (p1 &&& (3 : Int32))), .unset, .unset] [(.int (1 : Int32)), (.ref aT)])) _
            refine XS.aloadN X109.here hx rfl (hb hby d5_86) rfl rfl ?_
            show Steps p.tables e below (T109.setTop (mkF m 87 #[.val (.ref f1), .val (.int (Int32.ofNat n)), .val (.int p1), .val (.ref aT), .val (.int (p1 &&& (3 : Int32))), .unset, .unset] [(.ref aT), (.int (1 : Int32)), (.ref aT)])) _
            refine XS.iconst X109.here hx rfl (hb hby d5_87) ?_
            show Steps p.tables e below (T109.setTop (mkF m 88 #[.val (.ref f1), .val (.int (Int32.ofNat n)), .val (.int p1), .val (.ref aT), .val (.int (p1 &&& (3 : Int32))), .unset, .unset] [(.int (1 : Int32)), (.ref aT), (.int (1 : Int32)), (.ref aT)])) _
            refine X109.iaload hx (j := (1 : Int32)) (v := (.int (Int32.ofNat oc))) Ar113.1 (State.isArrayOf_alike hZ.alike Ar113.2.1) Ar113.2.2 in114 at115 (g := (mkF m 88 #[.val (.ref f1), .val (.int (Int32.ofNat n)), .val (.int p1), .val (.ref aT), .val (.int (p1 &&& (3 : Int32))), .unset, .unset] [(.int (1 : Int32)), (.ref aT), (.int (1 : Int32)), (.ref aT)])) rfl rfl (hb hby d5_88) _ ?_
            show Steps p.tables e below (T109.setTop (mkF m 89 #[.val (.ref f1), .val (.int (Int32.ofNat n)), .val (.int p1), .val (.ref aT), .val (.int (p1 &&& (3 : Int32))), .unset, .unset] [(.int (Int32.ofNat oc)), (.int (1 : Int32)), (.ref aT)])) _
            refine XS.iconst X109.here hx rfl (hb hby d5_89) ?_
            show Steps p.tables e below (T109.setTop (mkF m 90 #[.val (.ref f1), .val (.int (Int32.ofNat n)), .val (.int p1), .val (.ref aT), .val (.int (p1 &&& (3 : Int32))), .unset, .unset] [(.int (1 : Int32)), (.int (Int32.ofNat oc)), (.int (1 : Int32)), (.ref aT)])) _
            refine XS.isub X109.here hx rfl (hb hby d5_90) rfl ?_
            show Steps p.tables e below (T109.setTop (mkF m 91 #[.val (.ref f1), .val (.int (Int32.ofNat n)), .val (.int p1), .val (.ref aT), .val (.int (p1 &&& (3 : Int32))), .unset, .unset] [(.int ((Int32.ofNat oc) - (1 : Int32))), (.int (1 : Int32)), (.ref aT)])) _
            rw [hdec]
            show Steps p.tables e below (T109.setTop (mkF m 91 #[.val (.ref f1), .val (.int (Int32.ofNat n)), .val (.int p1), .val (.ref aT), .val (.int (p1 &&& (3 : Int32))), .unset, .unset] [(.int (Int32.ofNat (oc - 1))), (.int (1 : Int32)), (.ref aT)])) _
            refine st118 _ ?_
            show Steps p.tables e below (T118.setTop (mkF m 92 #[.val (.ref f1), .val (.int (Int32.ofNat n)), .val (.int p1), .val (.ref aT), .val (.int (p1 &&& (3 : Int32))), .unset, .unset] [])) _
            refine XS.goto X118.here hx rfl (pc0 := 92) (pc' := 107) rfl (hb hby d5_92) (by decide) (by decide) ?_
            show Steps p.tables e below (T118.setTop (mkF m 107 #[.val (.ref f1), .val (.int (Int32.ofNat n)), .val (.int p1), .val (.ref aT), .val (.int (p1 &&& (3 : Int32))), .unset, .unset] [])) _
            refine XS.aloadN X118.here hx rfl (hb hby d5_107) rfl rfl ?_
            show Steps p.tables e below (T118.setTop (mkF m 108 #[.val (.ref f1), .val (.int (Int32.ofNat n)), .val (.int p1), .val (.ref aT), .val (.int (p1 &&& (3 : Int32))), .unset, .unset] [(.ref f1)])) _
            refine st122.trans ?_
            show Steps p.tables e below (T122.setTop (mkF m 111 #[.val (.ref f1), .val (.int (Int32.ofNat n)), .val (.int p1), .val (.ref aT), .val (.int (p1 &&& (3 : Int32))), .unset, .unset] [(.int r_122)])) _
            refine XS.aloadN X122.here hx rfl (hb hby d5_111) rfl rfl ?_
            show Steps p.tables e below (T122.setTop (mkF m 112 #[.val (.ref f1), .val (.int (Int32.ofNat n)), .val (.int p1), .val (.ref aT), .val (.int (p1 &&& (3 : Int32))), .unset, .unset] [(.ref aT), (.int r_122)])) _
            refine XS.iconst X122.here hx rfl (hb hby d5_112) ?_
            show Steps p.tables e below (T122.setTop (mkF m 113 #[.val (.ref f1), .val (.int (Int32.ofNat n)), .val (.int p1), .val (.ref aT), .val (.int (p1 &&& (3 : Int32))), .unset, .unset] [(.int (1 : Int32)), (.ref aT), (.int r_122)])) _
            refine X122.iaload hx (j := (1 : Int32)) (v := (.int (Int32.ofNat (oc - 1)))) (by rw [e122]; exact Ar124.1) (State.isArrayOf_alike hZ.alike Ar124.2.1) Ar124.2.2 in125 at126 (g := (mkF m 113 #[.val (.ref f1), .val (.int (Int32.ofNat n)), .val (.int p1), .val (.ref aT), .val (.int (p1 &&& (3 : Int32))), .unset, .unset] [(.int (1 : Int32)), (.ref aT), (.int r_122)])) rfl rfl (hb hby d5_113) _ ?_
            exact kt)
        by_cases hz : (Int32.ofNat (oc - 1)) = (0 : Int32)
        · skip
          have pre128 : ∀ t_, Steps p.tables e below (T122.setTop (mkF m 117 #[.val (.ref f1), .val (.int (Int32.ofNat n)), .val (.int p1), .val (.ref aT), .val (.int (p1 &&& (3 : Int32))), .unset, .unset] [(.int r_122)])) t_ → Steps p.tables e below (s₁.setTop (entryFrame m #[(.ref f1), (.int (Int32.ofNat n)), (.int p1), (.ref aT)] 7)) t_ := fun t_ kt => pre127 t_ (by
              show Steps p.tables e below (T122.setTop (mkF m 114 #[.val (.ref f1), .val (.int (Int32.ofNat n)), .val (.int p1), .val (.ref aT), .val (.int (p1 &&& (3 : Int32))), .unset, .unset] [(.int (Int32.ofNat (oc - 1))), (.int r_122)])) _
              refine XS.ifNo X122.here hx rfl (hb hby d5_114) rfl ((if0 _ _).trans (teq (hz : (Int32.ofNat (oc - 1)) = (0 : Int32))).2) ?_
              exact kt)
          obtain rfl : r_122 = (1 : Int32) := x122_0 hz
          have pre129 : ∀ t_, Steps p.tables e below (T122.setTop (mkF m 130 #[.val (.ref f1), .val (.int (Int32.ofNat n)), .val (.int p1), .val (.ref aT), .val (.int (p1 &&& (3 : Int32))), .unset, .unset] [(.int (1 : Int32))])) t_ → Steps p.tables e below (s₁.setTop (entryFrame m #[(.ref f1), (.int (Int32.ofNat n)), (.int p1), (.ref aT)] 7)) t_ := fun t_ kt => pre128 t_ (by
              show Steps p.tables e below (T122.setTop (mkF m 117 #[.val (.ref f1), .val (.int (Int32.ofNat n)), .val (.int p1), .val (.ref aT), .val (.int (p1 &&& (3 : Int32))), .unset, .unset] [(.int (1 : Int32))])) _
              refine XS.iconst X122.here hx rfl (hb hby d5_117) ?_
              show Steps p.tables e below (T122.setTop (mkF m 118 #[.val (.ref f1), .val (.int (Int32.ofNat n)), .val (.int p1), .val (.ref aT), .val (.int (p1 &&& (3 : Int32))), .unset, .unset] [(.int (1 : Int32)), (.int (1 : Int32))])) _
              refine XS.goto X122.here hx rfl (pc0 := 118) (pc' := 122) rfl (hb hby d5_118) (by decide) (by decide) ?_
              show Steps p.tables e below (T122.setTop (mkF m 122 #[.val (.ref f1), .val (.int (Int32.ofNat n)), .val (.int p1), .val (.ref aT), .val (.int (p1 &&& (3 : Int32))), .unset, .unset] [(.int (1 : Int32)), (.int (1 : Int32))])) _
              refine XS.icmpNo X122.here hx rfl (hb hby d5_122) rfl (teq ((by decide) : (1 : Int32) = (1 : Int32))).2 ?_
              show Steps p.tables e below (T122.setTop (mkF m 125 #[.val (.ref f1), .val (.int (Int32.ofNat n)), .val (.int p1), .val (.ref aT), .val (.int (p1 &&& (3 : Int32))), .unset, .unset] [])) _
              refine XS.iconst X122.here hx rfl (hb hby d5_125) ?_
              show Steps p.tables e below (T122.setTop (mkF m 126 #[.val (.ref f1), .val (.int (Int32.ofNat n)), .val (.int p1), .val (.ref aT), .val (.int (p1 &&& (3 : Int32))), .unset, .unset] [(.int (1 : Int32))])) _
              refine XS.goto X122.here hx rfl (pc0 := 126) (pc' := 130) rfl (hb hby d5_126) (by decide) (by decide) ?_
              exact kt)
          have f130 : Fld Z h118 f1 "com/example/slotwright/slotwright/exchange/Frontier" "distance" "[D" (.ref aD) := (x109_1.other W118 (Or.inl P_ne_f1_aT))
          have f131 : Fld Z h118 f1 "com/example/slotwright/slotwright/exchange/Frontier" "settled" "[Z" (.ref aS) := (x109_2.other W118 (Or.inl P_ne_f1_aT))
          have f132 : Fld Z h118 f1 "com/example/slotwright/slotwright/exchange/Frontier" "reached" "[I" (.ref aR) := (x109_3.other W118 (Or.inl P_ne_f1_aT))
          have f133 : Fld Z h118 f1 "com/example/slotwright/slotwright/exchange/Frontier" "open" "[I" (.ref aO) := (x109_4.other W118 (Or.inl P_ne_f1_aT))
          have f134 : Fld Z h118 f1 "com/example/slotwright/slotwright/exchange/Frontier" "reachedCount" "I" (.int (Int32.ofNat rc)) := (x109_5.other W118 (Or.inl P_ne_f1_aT))
          have f135 : Arv Z h118 aD kD .double (Int32.ofNat n) (own_LD dist n) (.double (0 : UInt64)) := (x109_7.other W118 P_ne_aD_aT)
          have f136 : Arv Z h118 aS kS .boolean (Int32.ofNat n) (own_LZ (own_up st (opn near_109) 1) n) (.int (0 : Int32)) := (x109_8.other W118 P_ne_aS_aT)
          have f137 : Arv Z h118 aR kR .int (Int32.ofNat n) (own_LN rch n) (.int (0 : Int32)) := (x109_9.other W118 P_ne_aR_aT)
          have f138 : Arv Z h118 aO kO .int (Int32.ofNat n) (own_LN (own_up opn near_109 (opn (oc - 1))) n) (.int (0 : Int32)) := (x109_10.other W118 P_ne_aO_aT)
          obtain ⟨fs, hr, hrun, hended, hW, hsame⟩ := X122.leave (v := some (.int (1 : Int32))) (fun h => by rw [Bd.returns] at h; cases h)
          refine ⟨_, _, pre129 _ ?_, hrun, hended, _, _, rfl, ?_, ⟨_, rfl⟩, hW, hsame.mono (by decide) (by decide)⟩
          · show Steps p.tables e below (T122.setTop (mkF m 130 #[.val (.ref f1), .val (.int (Int32.ofNat n)), .val (.int p1), .val (.ref aT), .val (.int (p1 &&& (3 : Int32))), .unset, .unset] [(.int (1 : Int32))])) _
            exact retN X122 hx (t := .boolean) Bd.returns (by simp) (hb hby d5_130) hr
          · show Qstep Z f1 p1 aT aD aS aR aO kD kS kR kO n dist st rch rc opn oc b0 kT h0 n0 _ T122.heap _
            rw [e122]
            exact ⟨dist, (own_up st (opn near_109) 1), rch, rc, (own_up opn near_109 (opn (oc - 1))), (oc - 1), b0, rfl, N122, k120, f123, f130, f131, f132, f133, f134, f121, f135, f136, f137, f138, V118, own_WF_settle hWf x109_11.1, hB⟩
        · skip
          have pre139 : ∀ t_, Steps p.tables e below (T122.setTop (mkF m 121 #[.val (.ref f1), .val (.int (Int32.ofNat n)), .val (.int p1), .val (.ref aT), .val (.int (p1 &&& (3 : Int32))), .unset, .unset] [(.int r_122)])) t_ → Steps p.tables e below (s₁.setTop (entryFrame m #[(.ref f1), (.int (Int32.ofNat n)), (.int p1), (.ref aT)] 7)) t_ := fun t_ kt => pre127 t_ (by
              show Steps p.tables e below (T122.setTop (mkF m 114 #[.val (.ref f1), .val (.int (Int32.ofNat n)), .val (.int p1), .val (.ref aT), .val (.int (p1 &&& (3 : Int32))), .unset, .unset] [(.int (Int32.ofNat (oc - 1))), (.int r_122)])) _
              refine XS.ifYes X122.here hx rfl (pc0 := 114) (pc' := 121) rfl (hb hby d5_114) rfl ((if0 _ _).trans (feq (hz : ¬ ((Int32.ofNat (oc - 1)) = (0 : Int32)))).2) (by decide) (by decide) ?_
              exact kt)
          obtain rfl : r_122 = (0 : Int32) := x122_1 hz
          have pre140 : ∀ t_, Steps p.tables e below (T122.setTop (mkF m 130 #[.val (.ref f1), .val (.int (Int32.ofNat n)), .val (.int p1), .val (.ref aT), .val (.int (p1 &&& (3 : Int32))), .unset, .unset] [(.int (1 : Int32))])) t_ → Steps p.tables e below (s₁.setTop (entryFrame m #[(.ref f1), (.int (Int32.ofNat n)), (.int p1), (.ref aT)] 7)) t_ := fun t_ kt => pre139 t_ (by
              show Steps p.tables e below (T122.setTop (mkF m 121 #[.val (.ref f1), .val (.int (Int32.ofNat n)), .val (.int p1), .val (.ref aT), .val (.int (p1 &&& (3 : Int32))), .unset, .unset] [(.int (0 : Int32))])) _
              refine XS.iconst X122.here hx rfl (hb hby d5_121) ?_
              show Steps p.tables e below (T122.setTop (mkF m 122 #[.val (.ref f1), .val (.int (Int32.ofNat n)), .val (.int p1), .val (.ref aT), .val (.int (p1 &&& (3 : Int32))), .unset, .unset] [(.int (0 : Int32)), (.int (0 : Int32))])) _
              refine XS.icmpNo X122.here hx rfl (hb hby d5_122) rfl (teq ((by decide) : (0 : Int32) = (0 : Int32))).2 ?_
              show Steps p.tables e below (T122.setTop (mkF m 125 #[.val (.ref f1), .val (.int (Int32.ofNat n)), .val (.int p1), .val (.ref aT), .val (.int (p1 &&& (3 : Int32))), .unset, .unset] [])) _
              refine XS.iconst X122.here hx rfl (hb hby d5_125) ?_
              show Steps p.tables e below (T122.setTop (mkF m 126 #[.val (.ref f1), .val (.int (Int32.ofNat n)), .val (.int p1), .val (.ref aT), .val (.int (p1 &&& (3 : Int32))), .unset, .unset] [(.int (1 : Int32))])) _
              refine XS.goto X122.here hx rfl (pc0 := 126) (pc' := 130) rfl (hb hby d5_126) (by decide) (by decide) ?_
              exact kt)
          have f141 : Fld Z h118 f1 "com/example/slotwright/slotwright/exchange/Frontier" "distance" "[D" (.ref aD) := (x109_1.other W118 (Or.inl P_ne_f1_aT))
          have f142 : Fld Z h118 f1 "com/example/slotwright/slotwright/exchange/Frontier" "settled" "[Z" (.ref aS) := (x109_2.other W118 (Or.inl P_ne_f1_aT))
          have f143 : Fld Z h118 f1 "com/example/slotwright/slotwright/exchange/Frontier" "reached" "[I" (.ref aR) := (x109_3.other W118 (Or.inl P_ne_f1_aT))
          have f144 : Fld Z h118 f1 "com/example/slotwright/slotwright/exchange/Frontier" "open" "[I" (.ref aO) := (x109_4.other W118 (Or.inl P_ne_f1_aT))
          have f145 : Fld Z h118 f1 "com/example/slotwright/slotwright/exchange/Frontier" "reachedCount" "I" (.int (Int32.ofNat rc)) := (x109_5.other W118 (Or.inl P_ne_f1_aT))
          have f146 : Arv Z h118 aD kD .double (Int32.ofNat n) (own_LD dist n) (.double (0 : UInt64)) := (x109_7.other W118 P_ne_aD_aT)
          have f147 : Arv Z h118 aS kS .boolean (Int32.ofNat n) (own_LZ (own_up st (opn near_109) 1) n) (.int (0 : Int32)) := (x109_8.other W118 P_ne_aS_aT)
          have f148 : Arv Z h118 aR kR .int (Int32.ofNat n) (own_LN rch n) (.int (0 : Int32)) := (x109_9.other W118 P_ne_aR_aT)
          have f149 : Arv Z h118 aO kO .int (Int32.ofNat n) (own_LN (own_up opn near_109 (opn (oc - 1))) n) (.int (0 : Int32)) := (x109_10.other W118 P_ne_aO_aT)
          obtain ⟨fs, hr, hrun, hended, hW, hsame⟩ := X122.leave (v := some (.int (1 : Int32))) (fun h => by rw [Bd.returns] at h; cases h)
          refine ⟨_, _, pre140 _ ?_, hrun, hended, _, _, rfl, ?_, ⟨_, rfl⟩, hW, hsame.mono (by decide) (by decide)⟩
          · show Steps p.tables e below (T122.setTop (mkF m 130 #[.val (.ref f1), .val (.int (Int32.ofNat n)), .val (.int p1), .val (.ref aT), .val (.int (p1 &&& (3 : Int32))), .unset, .unset] [(.int (1 : Int32))])) _
            exact retN X122 hx (t := .boolean) Bd.returns (by simp) (hb hby d5_130) hr
          · show Qstep Z f1 p1 aT aD aS aR aO kD kS kR kO n dist st rch rc opn oc b0 kT h0 n0 _ T122.heap _
            rw [e122]
            exact ⟨dist, (own_up st (opn near_109) 1), rch, rc, (own_up opn near_109 (opn (oc - 1))), (oc - 1), b0, rfl, N122, k120, f123, f141, f142, f143, f144, f145, f121, f146, f147, f148, f149, V118, own_WF_settle hWf x109_11.1, hB⟩
      · skip
        obtain ⟨cq150, kq150, q150a, q150b, q150c⟩ := isOf hZ e0 P_E_f1
        obtain ⟨_, _, ⟨T150, L150, kk150, nn150⟩, -, X150, ⟨Lc150, hQ150, l150, y150, z150⟩, st150⟩ := X0.virtualBack hx (y := (⟨"com/example/slotwright/slotwright/exchange/Frontier", "isEmpty", "()Z"⟩ : MethodName)) (z := (⟨"com/example/slotwright/slotwright/exchange/Frontier", "isEmpty", "()Z"⟩ : MethodName)) hown (mvT hZ (hw _ (List.mem_of_getElem? (i := 25) rfl))) (mvT hZ (hw _ (List.mem_of_getElem? (i := 26) rfl))) (notFace_of_selects (args := #[]) (mvT hZ (hw _ (List.mem_of_getElem? (i := 28) rfl)))) (mvT hZ (hw _ (List.mem_of_getElem? (i := 28) rfl))) (mvT hZ (hw _ (List.mem_of_getElem? (i := 27) rfl))) (by decide) (backOf (W := 0) (rmFisEmpty l Z a0 hw [] f1 (Int32.ofNat oc) h0 n0 Z0 P_F_f1_openCount) hZ (hw _ (List.mem_of_getElem? (i := 29) rfl)) (hw _ (List.mem_of_getElem? (i := 2) rfl)) (by decide) (by decide)) q150a q150c (g := (mkF m 108 #[.val (.ref f1), .val (.int (Int32.ofNat n)), .val (.int p1), .val (.ref aT), .val (.int (p1 &&& (3 : Int32))), .unset, .unset] [(.ref f1)])) rfl (by rw [hml]; rfl) (Steps.refl _) (argsL := []) (rest := []) (lenOf pd__28_29Z rfl) rfl (by show 2 * 0 + _ ≤ _; exact Nat.le_of_eq rfl) (hb hby d5_108) (fun _ _ => ⟨rfl, e0, (by decide : 0 + 0 ≤ _), (by decide : 0 + 0 ≤ _)⟩)
        dsimp only [Pt.U, Pt.locs, Pt.cells, Pt.slots] at X150 l150 y150 z150 st150 hQ150
        subst l150 y150 z150
        obtain ⟨r_150, rfl, N150q, e150, x150_0, x150_1⟩ := hQ150
        have N150 := Fr.app N0 N150q
        obtain ⟨cl151, Ar151, Q151, S151, M151, H151, G151⟩ := id P_V_aT
        have in152 : ¬ ((1 : Int32) < 0 ∨ cl151.slots.size ≤ ((1 : Int32)).toNatClampNeg) := inb_of S151 ⟨by decide, by decide⟩
        have at153 : cl151.slots[((1 : Int32)).toNatClampNeg]? = some (.int (Int32.ofNat oc)) := H151 1 (by rw [S151]; decide)
        have pre154 : ∀ t_, Steps p.tables e below (T150.setTop (mkF m 114 #[.val (.ref f1), .val (.int (Int32.ofNat n)), .val (.int p1), .val (.ref aT), .val (.int (p1 &&& (3 : Int32))), .unset, .unset] [(.int (Int32.ofNat oc)), (.int r_150)])) t_ → Steps p.tables e below (s₁.setTop (entryFrame m #[(.ref f1), (.int (Int32.ofNat n)), (.int p1), (.ref aT)] 7)) t_ := fun t_ kt => pre108 t_ (by
            show Steps p.tables e below (s₁.setTop (mkF m 76 #[.val (.ref f1), .val (.int (Int32.ofNat n)), .val (.int p1), .val (.ref aT), .val (.int (p1 &&& (3 : Int32))), .unset, .unset] [(.int (Int32.ofNat oc))])) _
            refine XS.ifYes X0.here hx rfl (pc0 := 76) (pc' := 107) rfl (hb hby d5_76) rfl ((if0 _ _).trans (flt (hc1 : ¬ ((0 : Int32) < (Int32.ofNat oc)))).2.2.2) (by decide) (by decide) ?_
            show Steps p.tables e below (s₁.setTop (mkF m 107 #[.val (.ref f1), .val (.int (Int32.ofNat n)), .val (.int p1), .val (.ref aT), .val (.int (p1 &&& (3 : Int32))), .unset, .unset] [])) _
            refine XS.aloadN X0.here hx rfl (hb hby d5_107) rfl rfl ?_
            show Steps p.tables e below (s₁.setTop (mkF m 108 #[.val (.ref f1), .val (.int (Int32.ofNat n)), .val (.int p1), .val (.ref aT), .val (.int (p1 &&& (3 : Int32))), .unset, .unset] [(.ref f1)])) _
            refine st150.trans ?_
            show Steps p.tables e below (T150.setTop (mkF m 111 #[.val (.ref f1), .val (.int (Int32.ofNat n)), .val (.int p1), .val (.ref aT), .val (.int (p1 &&& (3 : Int32))), .unset, .unset] [(.int r_150)])) _
            refine XS.aloadN X150.here hx rfl (hb hby d5_111) rfl rfl ?_
            show Steps p.tables e below (T150.setTop (mkF m 112 #[.val (.ref f1), .val (.int (Int32.ofNat n)), .val (.int p1), .val (.ref aT), .val (.int (p1 &&& (3 : Int32))), .unset, .unset] [(.ref aT), (.int r_150)])) _
            refine XS.iconst X150.here hx rfl (hb hby d5_112) ?_
            show Steps p.tables e below (T150.setTop (mkF m 113 #[.val (.ref f1), .val (.int (Int32.ofNat n)), .val (.int p1), .val (.ref aT), .val (.int (p1 &&& (3 : Int32))), .unset, .unset] [(.int (1 : Int32)), (.ref aT), (.int r_150)])) _
            refine X150.iaload hx (j := (1 : Int32)) (v := (.int (Int32.ofNat oc))) (by rw [e150]; exact Ar151.1) (State.isArrayOf_alike hZ.alike Ar151.2.1) Ar151.2.2 in152 at153 (g := (mkF m 113 #[.val (.ref f1), .val (.int (Int32.ofNat n)), .val (.int p1), .val (.ref aT), .val (.int (p1 &&& (3 : Int32))), .unset, .unset] [(.int (1 : Int32)), (.ref aT), (.int r_150)])) rfl rfl (hb hby d5_113) _ ?_
            exact kt)
        by_cases hz : (Int32.ofNat oc) = (0 : Int32)
        · skip
          have pre155 : ∀ t_, Steps p.tables e below (T150.setTop (mkF m 117 #[.val (.ref f1), .val (.int (Int32.ofNat n)), .val (.int p1), .val (.ref aT), .val (.int (p1 &&& (3 : Int32))), .unset, .unset] [(.int r_150)])) t_ → Steps p.tables e below (s₁.setTop (entryFrame m #[(.ref f1), (.int (Int32.ofNat n)), (.int p1), (.ref aT)] 7)) t_ := fun t_ kt => pre154 t_ (by
              show Steps p.tables e below (T150.setTop (mkF m 114 #[.val (.ref f1), .val (.int (Int32.ofNat n)), .val (.int p1), .val (.ref aT), .val (.int (p1 &&& (3 : Int32))), .unset, .unset] [(.int (Int32.ofNat oc)), (.int r_150)])) _
              refine XS.ifNo X150.here hx rfl (hb hby d5_114) rfl ((if0 _ _).trans (teq (hz : (Int32.ofNat oc) = (0 : Int32))).2) ?_
              exact kt)
          obtain rfl : r_150 = (1 : Int32) := x150_0 hz
          have pre156 : ∀ t_, Steps p.tables e below (T150.setTop (mkF m 130 #[.val (.ref f1), .val (.int (Int32.ofNat n)), .val (.int p1), .val (.ref aT), .val (.int (p1 &&& (3 : Int32))), .unset, .unset] [(.int (1 : Int32))])) t_ → Steps p.tables e below (s₁.setTop (entryFrame m #[(.ref f1), (.int (Int32.ofNat n)), (.int p1), (.ref aT)] 7)) t_ := fun t_ kt => pre155 t_ (by
              show Steps p.tables e below (T150.setTop (mkF m 117 #[.val (.ref f1), .val (.int (Int32.ofNat n)), .val (.int p1), .val (.ref aT), .val (.int (p1 &&& (3 : Int32))), .unset, .unset] [(.int (1 : Int32))])) _
              refine XS.iconst X150.here hx rfl (hb hby d5_117) ?_
              show Steps p.tables e below (T150.setTop (mkF m 118 #[.val (.ref f1), .val (.int (Int32.ofNat n)), .val (.int p1), .val (.ref aT), .val (.int (p1 &&& (3 : Int32))), .unset, .unset] [(.int (1 : Int32)), (.int (1 : Int32))])) _
              refine XS.goto X150.here hx rfl (pc0 := 118) (pc' := 122) rfl (hb hby d5_118) (by decide) (by decide) ?_
              show Steps p.tables e below (T150.setTop (mkF m 122 #[.val (.ref f1), .val (.int (Int32.ofNat n)), .val (.int p1), .val (.ref aT), .val (.int (p1 &&& (3 : Int32))), .unset, .unset] [(.int (1 : Int32)), (.int (1 : Int32))])) _
              refine XS.icmpNo X150.here hx rfl (hb hby d5_122) rfl (teq ((by decide) : (1 : Int32) = (1 : Int32))).2 ?_
              show Steps p.tables e below (T150.setTop (mkF m 125 #[.val (.ref f1), .val (.int (Int32.ofNat n)), .val (.int p1), .val (.ref aT), .val (.int (p1 &&& (3 : Int32))), .unset, .unset] [])) _
              refine XS.iconst X150.here hx rfl (hb hby d5_125) ?_
              show Steps p.tables e below (T150.setTop (mkF m 126 #[.val (.ref f1), .val (.int (Int32.ofNat n)), .val (.int p1), .val (.ref aT), .val (.int (p1 &&& (3 : Int32))), .unset, .unset] [(.int (1 : Int32))])) _
              refine XS.goto X150.here hx rfl (pc0 := 126) (pc' := 130) rfl (hb hby d5_126) (by decide) (by decide) ?_
              exact kt)
          obtain ⟨fs, hr, hrun, hended, hW, hsame⟩ := X150.leave (v := some (.int (1 : Int32))) (fun h => by rw [Bd.returns] at h; cases h)
          refine ⟨_, _, pre156 _ ?_, hrun, hended, _, _, rfl, ?_, ⟨_, rfl⟩, hW, hsame.mono (by decide) (by decide)⟩
          · show Steps p.tables e below (T150.setTop (mkF m 130 #[.val (.ref f1), .val (.int (Int32.ofNat n)), .val (.int p1), .val (.ref aT), .val (.int (p1 &&& (3 : Int32))), .unset, .unset] [(.int (1 : Int32))])) _
            exact retN X150 hx (t := .boolean) Bd.returns (by simp) (hb hby d5_130) hr
          · show Qstep Z f1 p1 aT aD aS aR aO kD kS kR kO n dist st rch rc opn oc b0 kT h0 n0 _ T150.heap _
            rw [e150]
            exact ⟨dist, st, rch, rc, opn, oc, b0, rfl, N150, (Keep.refl h0 [f1, aD, aS, aR, aO, aT]), P_E_f1, P_F_f1_distance, P_F_f1_settled, P_F_f1_reached, P_F_f1_open, P_F_f1_reachedCount, P_F_f1_openCount, P_V_aD, P_V_aS, P_V_aR, P_V_aO, P_V_aT, hWf, hB⟩
        · skip
          have pre157 : ∀ t_, Steps p.tables e below (T150.setTop (mkF m 121 #[.val (.ref f1), .val (.int (Int32.ofNat n)), .val (.int p1), .val (.ref aT), .val (.int (p1 &&& (3 : Int32))), .unset, .unset] [(.int r_150)])) t_ → Steps p.tables e below (s₁.setTop (entryFrame m #[(.ref f1), (.int (Int32.ofNat n)), (.int p1), (.ref aT)] 7)) t_ := fun t_ kt => pre154 t_ (by
              show Steps p.tables e below (T150.setTop (mkF m 114 #[.val (.ref f1), .val (.int (Int32.ofNat n)), .val (.int p1), .val (.ref aT), .val (.int (p1 &&& (3 : Int32))), .unset, .unset] [(.int (Int32.ofNat oc)), (.int r_150)])) _
              refine XS.ifYes X150.here hx rfl (pc0 := 114) (pc' := 121) rfl (hb hby d5_114) rfl ((if0 _ _).trans (feq (hz : ¬ ((Int32.ofNat oc) = (0 : Int32)))).2) (by decide) (by decide) ?_
              exact kt)
          obtain rfl : r_150 = (0 : Int32) := x150_1 hz
          have pre158 : ∀ t_, Steps p.tables e below (T150.setTop (mkF m 130 #[.val (.ref f1), .val (.int (Int32.ofNat n)), .val (.int p1), .val (.ref aT), .val (.int (p1 &&& (3 : Int32))), .unset, .unset] [(.int (1 : Int32))])) t_ → Steps p.tables e below (s₁.setTop (entryFrame m #[(.ref f1), (.int (Int32.ofNat n)), (.int p1), (.ref aT)] 7)) t_ := fun t_ kt => pre157 t_ (by
              show Steps p.tables e below (T150.setTop (mkF m 121 #[.val (.ref f1), .val (.int (Int32.ofNat n)), .val (.int p1), .val (.ref aT), .val (.int (p1 &&& (3 : Int32))), .unset, .unset] [(.int (0 : Int32))])) _
              refine XS.iconst X150.here hx rfl (hb hby d5_121) ?_
              show Steps p.tables e below (T150.setTop (mkF m 122 #[.val (.ref f1), .val (.int (Int32.ofNat n)), .val (.int p1), .val (.ref aT), .val (.int (p1 &&& (3 : Int32))), .unset, .unset] [(.int (0 : Int32)), (.int (0 : Int32))])) _
              refine XS.icmpNo X150.here hx rfl (hb hby d5_122) rfl (teq ((by decide) : (0 : Int32) = (0 : Int32))).2 ?_
              show Steps p.tables e below (T150.setTop (mkF m 125 #[.val (.ref f1), .val (.int (Int32.ofNat n)), .val (.int p1), .val (.ref aT), .val (.int (p1 &&& (3 : Int32))), .unset, .unset] [])) _
              refine XS.iconst X150.here hx rfl (hb hby d5_125) ?_
              show Steps p.tables e below (T150.setTop (mkF m 126 #[.val (.ref f1), .val (.int (Int32.ofNat n)), .val (.int p1), .val (.ref aT), .val (.int (p1 &&& (3 : Int32))), .unset, .unset] [(.int (1 : Int32))])) _
              refine XS.goto X150.here hx rfl (pc0 := 126) (pc' := 130) rfl (hb hby d5_126) (by decide) (by decide) ?_
              exact kt)
          obtain ⟨fs, hr, hrun, hended, hW, hsame⟩ := X150.leave (v := some (.int (1 : Int32))) (fun h => by rw [Bd.returns] at h; cases h)
          refine ⟨_, _, pre158 _ ?_, hrun, hended, _, _, rfl, ?_, ⟨_, rfl⟩, hW, hsame.mono (by decide) (by decide)⟩
          · show Steps p.tables e below (T150.setTop (mkF m 130 #[.val (.ref f1), .val (.int (Int32.ofNat n)), .val (.int p1), .val (.ref aT), .val (.int (p1 &&& (3 : Int32))), .unset, .unset] [(.int (1 : Int32))])) _
            exact retN X150 hx (t := .boolean) Bd.returns (by simp) (hb hby d5_130) hr
          · show Qstep Z f1 p1 aT aD aS aR aO kD kS kR kO n dist st rch rc opn oc b0 kT h0 n0 _ T150.heap _
            rw [e150]
            exact ⟨dist, st, rch, rc, opn, oc, b0, rfl, N150, (Keep.refl h0 [f1, aD, aS, aR, aO, aT]), P_E_f1, P_F_f1_distance, P_F_f1_settled, P_F_f1_reached, P_F_f1_open, P_F_f1_reachedCount, P_F_f1_openCount, P_V_aD, P_V_aS, P_V_aR, P_V_aO, P_V_aT, hWf, hB⟩
    · skip
      obtain ⟨cq159, kq159, q159a, q159b, q159c⟩ := isOf hZ e0 P_E_f1
      obtain ⟨_, _, ⟨T159, L159, kk159, nn159⟩, -, X159, ⟨Lc159, hQ159, l159, y159, z159⟩, st159⟩ := X0.virtualBack hx (y := (⟨"com/example/slotwright/slotwright/exchange/Frontier", "reset", "()V"⟩ : MethodName)) (z := (⟨"com/example/slotwright/slotwright/exchange/Frontier", "reset", "()V"⟩ : MethodName)) hown (mvT hZ (hw _ (List.mem_of_getElem? (i := 36) rfl))) (mvT hZ (hw _ (List.mem_of_getElem? (i := 37) rfl))) (notFace_of_selects (args := #[]) (mvT hZ (hw _ (List.mem_of_getElem? (i := 39) rfl)))) (mvT hZ (hw _ (List.mem_of_getElem? (i := 39) rfl))) (mvT hZ (hw _ (List.mem_of_getElem? (i := 38) rfl))) (by decide) (backOf (W := 0) (rmFreset l Z a0 hw [] f1 aD aS aR aO kD kS kR kO n dist st rch rc opn oc h0 n0 Z0 P_E_f1 P_F_f1_distance P_F_f1_settled P_F_f1_reached P_F_f1_open P_F_f1_reachedCount P_F_f1_openCount P_V_aD P_V_aS P_V_aR P_V_aO P_ne_f1_aD P_ne_f1_aS P_ne_f1_aR P_ne_f1_aO P_ne_aD_aS P_ne_aD_aR P_ne_aD_aO P_ne_aS_aR P_ne_aS_aO P_ne_aR_aO P_G_f1 P_G_aD P_G_aS P_G_aR P_G_aO (hn) (hWf.1 ▸ own_cnt_le _ _) (hWf.2.2.1)) hZ (hw _ (List.mem_of_getElem? (i := 40) rfl)) (hw _ (List.mem_of_getElem? (i := 2) rfl)) (by decide) (by decide)) q159a q159c (g := (mkF m 96 #[.val (.ref f1), .val (.int (Int32.ofNat n)), .val (.int p1), .val (.ref aT), .val (.int (p1 &&& (3 : Int32))), .unset, .unset] [(.ref f1)])) rfl (by rw [hml]; rfl) (Steps.refl _) (argsL := []) (rest := []) (lenOf pd__28_29V rfl) rfl (by show 2 * 0 + _ ≤ _; exact Nat.le_of_eq rfl) (hb hby d5_96) (fun _ _ => ⟨rfl, e0, (by decide : 0 + 0 ≤ _), (by decide : 0 + 0 ≤ _)⟩)
      dsimp only [Pt.U, Pt.locs, Pt.cells, Pt.slots] at X159 l159 y159 z159 st159 hQ159
      subst l159 y159 z159
      obtain ⟨rfl, N159q, K159, x159_0, x159_1, x159_2, x159_3, x159_4, x159_5, x159_6, x159_7, x159_8, x159_9, x159_10⟩ := hQ159
      have N159 := Fr.app N0 N159q
      have z160 : n0 ≤ T159.heap.size := Nat.le_trans Z0 K159.1
      have k161 : Keep h0 T159.heap [f1, aD, aS, aR, aO, aT] := (Keep.refl h0 [f1, aD, aS, aR, aO, aT]).trans K159 (own_wmc (Or.inl (List.mem_of_getElem? (i := 0) rfl)) (own_wmc (Or.inl (List.mem_of_getElem? (i := 1) rfl)) (own_wmc (Or.inl (List.mem_of_getElem? (i := 2) rfl)) own_wm0)))
      have f162 : Arv Z T159.heap aT kT .int (2 : Int32) [(.int b0), (.int (Int32.ofNat oc))] (.int (0 : Int32)) := (P_V_aT.keep K159 (own_nmc (Ne.symm P_ne_f1_aT) (own_nmc (Ne.symm P_ne_aD_aT) (own_nmc (Ne.symm P_ne_aS_aT) own_nm0))))
      obtain ⟨cl163, Ar163, Q163, S163, M163, H163, G163⟩ := id f162
      have in164 : ¬ ((0 : Int32) < 0 ∨ cl163.slots.size ≤ ((0 : Int32)).toNatClampNeg) := inb_of S163 ⟨by decide, by decide⟩
      obtain ⟨T165, h165, X165, e165, W165, st165⟩ := stI X159 hx hZ rfl Ar163 (j := (0 : Int32)) in164 (g := (mkF m 102 #[.val (.ref f1), .val (.int (Int32.ofNat n)), .val (.int p1), .val (.ref aT), .val (.int (p1 &&& (3 : Int32))), .unset, .unset] [(.int (0 : Int32)), (.int (0 : Int32)), (.ref aT)])) rfl rfl (hb hby d5_102)
      have z166 : n0 ≤ h165.size := Nat.le_trans z160 (Keep.of_wr W165).1
      have k167 : Keep h0 h165 [f1, aD, aS, aR, aO, aT] := k161.wr W165 (Or.inl (List.mem_of_getElem? (i := 5) rfl))
      have V165 : Arv Z h165 aT kT .int (2 : Int32) [(.int (0 : Int32)), (.int (Int32.ofNat oc))] (.int (0 : Int32)) := Arv.set Ar163 Q163 S163 M163 H163 G163 rfl W165 0 rfl (Nat.le_of_ble_eq_true rfl)
      have N165 : Fr n0 _ := Fr.snoc X165 N159 P_G_aT
      obtain ⟨cl168, Ar168, Q168, S168, M168, H168, G168⟩ := id V165
      have in169 : ¬ ((1 : Int32) < 0 ∨ cl168.slots.size ≤ ((1 : Int32)).toNatClampNeg) := inb_of S168 ⟨by decide, by decide⟩
      obtain ⟨T170, h170, X170, e170, W170, st170⟩ := stI X165 hx hZ e165 Ar168 (j := (1 : Int32)) in169 (g := (mkF m 106 #[.val (.ref f1), .val (.int (Int32.ofNat n)), .val (.int p1), .val (.ref aT), .val (.int (p1 &&& (3 : Int32))), .unset, .unset] [(.int (0 : Int32)), (.int (1 : Int32)), (.ref aT)])) rfl rfl (hb hby d5_106)
      have z171 : n0 ≤ h170.size := Nat.le_trans z166 (Keep.of_wr W170).1
      have k172 : Keep h0 h170 [f1, aD, aS, aR, aO, aT] := k167.wr W170 (Or.inl (List.mem_of_getElem? (i := 5) rfl))
      have V170 : Arv Z h170 aT kT .int (2 : Int32) [(.int (0 : Int32)), (.int (0 : Int32))] (.int (0 : Int32)) := Arv.set Ar168 Q168 S168 M168 H168 G168 rfl W170 1 rfl (Nat.le_of_ble_eq_true rfl)
      have N170 : Fr n0 _ := Fr.snoc X170 N165 P_G_aT
      have f173 : Fld Z h170 f1 "com/example/slotwright/slotwright/exchange/Frontier" "openCount" "I" (.int (Int32.ofNat 0)) := ((x159_6.other W165 (Or.inl P_ne_f1_aT)).other W170 (Or.inl P_ne_f1_aT))
      have f175 : Exa Z h170 f1 "com/example/slotwright/slotwright/exchange/Frontier" := ((x159_0.wr W165).wr W170)
      obtain ⟨cq174, kq174, q174a, q174b, q174c⟩ := isOf hZ e170 f175
      obtain ⟨_, _, ⟨T174, L174, kk174, nn174⟩, -, X174, ⟨Lc174, hQ174, l174, y174, z174⟩, st174⟩ := X170.virtualBack hx (y := (⟨"com/example/slotwright/slotwright/exchange/Frontier", "isEmpty", "()Z"⟩ : MethodName)) (z := (⟨"com/example/slotwright/slotwright/exchange/Frontier", "isEmpty", "()Z"⟩ : MethodName)) hown (mvT hZ (hw _ (List.mem_of_getElem? (i := 25) rfl))) (mvT hZ (hw _ (List.mem_of_getElem? (i := 26) rfl))) (notFace_of_selects (args := #[]) (mvT hZ (hw _ (List.mem_of_getElem? (i := 28) rfl)))) (mvT hZ (hw _ (List.mem_of_getElem? (i := 28) rfl))) (mvT hZ (hw _ (List.mem_of_getElem? (i := 27) rfl))) (by decide) (backOf (W := 0) (rmFisEmpty l Z a0 hw [] f1 (Int32.ofNat 0) h170 n0 z171 f173) hZ (hw _ (List.mem_of_getElem? (i := 29) rfl)) (hw _ (List.mem_of_getElem? (i := 2) rfl)) (by decide) (by decide)) q174a q174c (g := (mkF m 108 #[.val (.ref f1), .val (.int (Int32.ofNat n)), .val (.int p1), .val (.ref aT), .val (.int (p1 &&& (3 : Int32))), .unset, .unset] [(.ref f1)])) rfl (by rw [hml]; rfl) (Steps.refl _) (argsL := []) (rest := []) (lenOf pd__28_29Z rfl) rfl (by show 2 * 0 + _ ≤ _; exact Nat.le_of_eq rfl) (hb hby d5_108) (fun _ _ => ⟨rfl, e170, (by decide : 0 + 0 ≤ _), (by decide : 0 + 0 ≤ _)⟩)
      dsimp only [Pt.U, Pt.locs, Pt.cells, Pt.slots] at X174 l174 y174 z174 st174 hQ174
      subst l174 y174 z174
      obtain ⟨r_174, rfl, N174q, e174, x174_0, x174_1⟩ := hQ174
      have N174 := Fr.app N170 N174q
      obtain rfl : r_174 = (1 : Int32) := x174_0 rfl
      obtain ⟨cl176, Ar176, Q176, S176, M176, H176, G176⟩ := id V170
      have in177 : ¬ ((1 : Int32) < 0 ∨ cl176.slots.size ≤ ((1 : Int32)).toNatClampNeg) := inb_of S176 ⟨by decide, by decide⟩
      have at178 : cl176.slots[((1 : Int32)).toNatClampNeg]? = some (.int (0 : Int32)) := H176 1 (by rw [S176]; decide)
      have pre179 : ∀ t_, Steps p.tables e below (T174.setTop (mkF m 130 #[.val (.ref f1), .val (.int (Int32.ofNat n)), .val (.int p1), .val (.ref aT), .val (.int (p1 &&& (3 : Int32))), .unset, .unset] [(.int (1 : Int32))])) t_ → Steps p.tables e below (s₁.setTop (entryFrame m #[(.ref f1), (.int (Int32.ofNat n)), (.int p1), (.ref aT)] 7)) t_ := fun t_ kt => pre103 t_ (by
          show Steps p.tables e below (s₁.setTop (mkF m 70 #[.val (.ref f1), .val (.int (Int32.ofNat n)), .val (.int p1), .val (.ref aT), .val (.int (p1 &&& (3 : Int32))), .unset, .unset] [(.int (2 : Int32)), (.int (p1 &&& (3 : Int32)))])) _
          refine XS.icmpYes X0.here hx rfl (pc0 := 70) (pc' := 95) rfl (hb hby d5_70) rfl (feq (hc70_104 : ¬ ((p1 &&& (3 : Int32)) = (2 : Int32)))).2 (by decide) (by decide) ?_
          show Steps p.tables e below (s₁.setTop (mkF m 95 #[.val (.ref f1), .val (.int (Int32.ofNat n)), .val (.int p1), .val (.ref aT), .val (.int (p1 &&& (3 : Int32))), .unset, .unset] [])) _
          refine XS.aloadN X0.here hx rfl (hb hby d5_95) rfl rfl ?_
          show Steps p.tables e below (s₁.setTop (mkF m 96 #[.val (.ref f1), .val (.int (Int32.ofNat n)), .val (.int p1), .val (.ref aT), .val (.int (p1 &&& (3 : Int32))), .unset, .unset] [(.ref f1)])) _
          refine st159.trans ?_
          show Steps p.tables e below (T159.setTop (mkF m 99 #[.val (.ref f1), .val (.int (Int32.ofNat n)), .val (.int p1), .val (.ref aT), .val (.int (p1 &&& (3 : Int32))), .unset, .unset] [])) _
          refine XS.aloadN X159.here hx rfl (hb hby d5_99) rfl rfl ?_
          show Steps p.tables e below (T159.setTop (mkF m 100 #[.val (.ref f1), .val (.int (Int32.ofNat n)), .val (.int p1), .val (.ref aT), .val (.int (p1 &&& (3 : Int32))), .unset, .unset] [(.ref aT)])) _
          refine XS.iconst X159.here hx rfl (hb hby d5_100) ?_
          show Steps p.tables e below (T159.setTop (mkF m 101 #[.val (.ref f1), .val (.int (Int32.ofNat n)), .val (.int p1), .val (.ref aT), .val (.int (p1 &&& (3 : Int32))), .unset, .unset] [(.int (0 : Int32)), (.ref aT)])) _
          refine XS.iconst X159.here hx rfl (hb hby d5_101) ?_
          show Steps p.tables e below (T159.setTop (mkF m 102 #[.val (.ref f1), .val (.int (Int32.ofNat n)), .val (.int p1), .val (.ref aT), .val (.int (p1 &&& (3 : Int32))), .unset, .unset] [(.int (0 : Int32)), (.int (0 : Int32)), (.ref aT)])) _
          refine st165 _ ?_
          show Steps p.tables e below (T165.setTop (mkF m 103 #[.val (.ref f1), .val (.int (Int32.ofNat n)), .val (.int p1), .val (.ref aT), .val (.int (p1 &&& (3 : Int32))), .unset, .unset] [])) _
          refine XS.aloadN X165.here hx rfl (hb hby d5_103) rfl rfl ?_
          show Steps p.tables e below (T165.setTop (mkF m 104 #[.val (.ref f1), .val (.int (Int32.ofNat n)), .val (.int p1), .val (.ref aT), .val (.int (p1 &&& (3 : Int32))), .unset, .unset] [(.ref aT)])) _
          refine XS.iconst X165.here hx rfl (hb hby d5_104) ?_
          show Steps p.tables e below (T165.setTop (mkF m 105 #[.val (.ref f1), .val (.int (Int32.ofNat n)), .val (.int p1), .val (.ref aT), .val (.int (p1 &&& (3 : Int32))), .unset, .unset] [(.int (1 : Int32)), (.ref aT)])) _
          refine XS.iconst X165.here hx rfl (hb hby d5_105) ?_
          show Steps p.tables e below (T165.setTop (mkF m 106 #[.val (.ref f1), .val (.int (Int32.ofNat n)), .val (.int p1), .val (.ref aT), .val (.int (p1 &&& (3 : Int32))), .unset, .unset] [(.int (0 : Int32)), (.int (1 : Int32)), (.ref aT)])) _
          refine st170 _ ?_
          show Steps p.tables e below (T170.setTop (mkF m 107 #[.val (.ref f1), .val (.int (Int32.ofNat n)), .val (.int p1), .val (.ref aT), .val (.int (p1 &&& (3 : Int32))), .unset, .unset] [])) _
          refine XS.aloadN X170.here hx rfl (hb hby d5_107) rfl rfl ?_
          show Steps p.tables e below (T170.setTop (mkF m 108 #[.val (.ref f1), .val (.int (Int32.ofNat n)), .val (.int p1), .val (.ref aT), .val (.int (p1 &&& (3 : Int32))), .unset, .unset] [(.ref f1)])) _
          refine st174.trans ?_
          show Steps p.tables e below (T174.setTop (mkF m 111 #[.val (.ref f1), .val (.int (Int32.ofNat n)), .val (.int p1), .val (.ref aT), .val (.int (p1 &&& (3 : Int32))), .unset, .unset] [(.int (1 : Int32))])) _
          refine XS.aloadN X174.here hx rfl (hb hby d5_111) rfl rfl ?_
          show Steps p.tables e below (T174.setTop (mkF m 112 #[.val (.ref f1), .val (.int (Int32.ofNat n)), .val (.int p1), .val (.ref aT), .val (.int (p1 &&& (3 : Int32))), .unset, .unset] [(.ref aT), (.int (1 : Int32))])) _
          refine XS.iconst X174.here hx rfl (hb hby d5_112) ?_
          show Steps p.tables e below (T174.setTop (mkF m 113 #[.val (.ref f1), .val (.int (Int32.ofNat n)), .val (.int p1), .val (.ref aT), .val (.int (p1 &&& (3 : Int32))), .unset, .unset] [(.int (1 : Int32)), (.ref aT), (.int (1 : Int32))])) _
          refine X174.iaload hx (j := (1 : Int32)) (v := (.int (0 : Int32))) (by rw [e174]; exact Ar176.1) (State.isArrayOf_alike hZ.alike Ar176.2.1) Ar176.2.2 in177 at178 (g := (mkF m 113 #[.val (.ref f1), .val (.int (Int32.ofNat n)), .val (.int p1), .val (.ref aT), .val (.int (p1 &&& (3 : Int32))), .unset, .unset] [(.int (1 : Int32)), (.ref aT), (.int (1 : Int32))])) rfl rfl (hb hby d5_113) _ ?_
          show Steps p.tables e below (T174.setTop (mkF m 114 #[.val (.ref f1), .val (.int (Int32.ofNat n)), .val (.int p1), .val (.ref aT), .val (.int (p1 &&& (3 : Int32))), .unset, .unset] [(.int (0 : Int32)), (.int (1 : Int32))])) _
          refine XS.ifNo X174.here hx rfl (hb hby d5_114) rfl ((if0 _ _).trans (teq ((by decide) : (0 : Int32) = (0 : Int32))).2) ?_
          show Steps p.tables e below (T174.setTop (mkF m 117 #[.val (.ref f1), .val (.int (Int32.ofNat n)), .val (.int p1), .val (.ref aT), .val (.int (p1 &&& (3 : Int32))), .unset, .unset] [(.int (1 : Int32))])) _
          refine XS.iconst X174.here hx rfl (hb hby d5_117) ?_
          show Steps p.tables e below (T174.setTop (mkF m 118 #[.val (.ref f1), .val (.int (Int32.ofNat n)), .val (.int p1), .val (.ref aT), .val (.int (p1 &&& (3 : Int32))), .unset, .unset] [(.int (1 : Int32)), (.int (1 : Int32))])) _
          refine XS.goto X174.here hx rfl (pc0 := 118) (pc' := 122) rfl (hb hby d5_118) (by decide) (by decide) ?_
          show Steps p.tables e below (T174.setTop (mkF m 122 #[.val (.ref f1), .val (.int (Int32.ofNat n)), .val (.int p1), .val (.ref aT), .val (.int (p1 &&& (3 : Int32))), .unset, .unset] [(.int (1 : Int32)), (.int (1 : Int32))])) _
          refine XS.icmpNo X174.here hx rfl (hb hby d5_122) rfl (teq ((by decide) : (1 : Int32) = (1 : Int32))).2 ?_
          show Steps p.tables e below (T174.setTop (mkF m 125 #[.val (.ref f1), .val (.int (Int32.ofNat n)), .val (.int p1), .val (.ref aT), .val (.int (p1 &&& (3 : Int32))), .unset, .unset] [])) _
          refine XS.iconst X174.here hx rfl (hb hby d5_125) ?_
          show Steps p.tables e below (T174.setTop (mkF m 126 #[.val (.ref f1), .val (.int (Int32.ofNat n)), .val (.int p1), .val (.ref aT), .val (.int (p1 &&& (3 : Int32))), .unset, .unset] [(.int (1 : Int32))])) _
          refine XS.goto X174.here hx rfl (pc0 := 126) (pc' := 130) rfl (hb hby d5_126) (by decide) (by decide) ?_
          exact kt)
      have f180 : Fld Z h170 f1 "com/example/slotwright/slotwright/exchange/Frontier" "distance" "[D" (.ref aD) := ((x159_1.other W165 (Or.inl P_ne_f1_aT)).other W170 (Or.inl P_ne_f1_aT))
      have f181 : Fld Z h170 f1 "com/example/slotwright/slotwright/exchange/Frontier" "settled" "[Z" (.ref aS) := ((x159_2.other W165 (Or.inl P_ne_f1_aT)).other W170 (Or.inl P_ne_f1_aT))
      have f182 : Fld Z h170 f1 "com/example/slotwright/slotwright/exchange/Frontier" "reached" "[I" (.ref aR) := ((x159_3.other W165 (Or.inl P_ne_f1_aT)).other W170 (Or.inl P_ne_f1_aT))
      have f183 : Fld Z h170 f1 "com/example/slotwright/slotwright/exchange/Frontier" "open" "[I" (.ref aO) := ((x159_4.other W165 (Or.inl P_ne_f1_aT)).other W170 (Or.inl P_ne_f1_aT))
      have f184 : Fld Z h170 f1 "com/example/slotwright/slotwright/exchange/Frontier" "reachedCount" "I" (.int (Int32.ofNat 0)) := ((x159_5.other W165 (Or.inl P_ne_f1_aT)).other W170 (Or.inl P_ne_f1_aT))
      have f185 : Arv Z h170 aD kD .double (Int32.ofNat n) (own_LD (own_clr own_inf rch rc dist) n) (.double (0 : UInt64)) := ((x159_7.other W165 P_ne_aD_aT).other W170 P_ne_aD_aT)
      have f186 : Arv Z h170 aS kS .boolean (Int32.ofNat n) (own_LZ (own_clr 0 rch rc st) n) (.int (0 : Int32)) := ((x159_8.other W165 P_ne_aS_aT).other W170 P_ne_aS_aT)
      have f187 : Arv Z h170 aR kR .int (Int32.ofNat n) (own_LN rch n) (.int (0 : Int32)) := ((x159_9.other W165 P_ne_aR_aT).other W170 P_ne_aR_aT)
      have f188 : Arv Z h170 aO kO .int (Int32.ofNat n) (own_LN opn n) (.int (0 : Int32)) := ((x159_10.other W165 P_ne_aO_aT).other W170 P_ne_aO_aT)
      obtain ⟨fs, hr, hrun, hended, hW, hsame⟩ := X174.leave (v := some (.int (1 : Int32))) (fun h => by rw [Bd.returns] at h; cases h)
      refine ⟨_, _, pre179 _ ?_, hrun, hended, _, _, rfl, ?_, ⟨_, rfl⟩, hW, hsame.mono (by decide) (by decide)⟩
      · show Steps p.tables e below (T174.setTop (mkF m 130 #[.val (.ref f1), .val (.int (Int32.ofNat n)), .val (.int p1), .val (.ref aT), .val (.int (p1 &&& (3 : Int32))), .unset, .unset] [(.int (1 : Int32))])) _
        exact retN X174 hx (t := .boolean) Bd.returns (by simp) (hb hby d5_130) hr
      · show Qstep Z f1 p1 aT aD aS aR aO kD kS kR kO n dist st rch rc opn oc b0 kT h0 n0 _ T174.heap _
        rw [e174]
        exact ⟨(own_clr own_inf rch rc dist), (own_clr 0 rch rc st), rch, 0, opn, 0, (0 : Int32), rfl, N174, k172, f175, f180, f181, f182, f183, f184, f173, f185, f186, f187, f188, V170, own_WF_reset hWf, own_bits_zero (own_WF_resetD hWf)⟩
  · skip
    obtain ⟨cq189, kq189, q189a, q189b, q189c⟩ := isOf hZ e0 P_E_f1
    obtain ⟨_, _, ⟨T189, L189, kk189, nn189⟩, -, X189, ⟨Lc189, hQ189, l189, y189, z189⟩, st189⟩ := X0.virtualBack hx (y := (⟨"com/example/slotwright/slotwright/exchange/Frontier", "reach", "(ID)Z"⟩ : MethodName)) (z := (⟨"com/example/slotwright/slotwright/exchange/Frontier", "reach", "(ID)Z"⟩ : MethodName)) hown (mvT hZ (hw _ (List.mem_of_getElem? (i := 44) rfl))) (mvT hZ (hw _ (List.mem_of_getElem? (i := 45) rfl))) (notFace_of_selects (args := #[]) (mvT hZ (hw _ (List.mem_of_getElem? (i := 47) rfl)))) (mvT hZ (hw _ (List.mem_of_getElem? (i := 47) rfl))) (mvT hZ (hw _ (List.mem_of_getElem? (i := 46) rfl))) (by decide) (backOf (W := 0) (rmFreach l Z a0 hw [] f1 (FP.i2d (p1 >>> ((4 : Int32) &&& 31))) aD aS aR aO kD kS kR kO n dist st rch rc opn oc vv h0 n0 Z0 P_E_f1 P_F_f1_distance P_F_f1_settled P_F_f1_reached P_F_f1_open P_F_f1_reachedCount P_F_f1_openCount P_V_aD P_V_aS P_V_aR P_V_aO P_ne_f1_aD P_ne_f1_aS P_ne_f1_aR P_ne_f1_aO P_ne_aD_aS P_ne_aD_aR P_ne_aD_aO P_ne_aS_aR P_ne_aS_aO P_ne_aR_aO P_G_f1 P_G_aD P_G_aS P_G_aR P_G_aO (hn) (hvv) (Fl.i2d_fin _) (fun _ q => own_WF_fresh hWf hvv q)) hZ (hw _ (List.mem_of_getElem? (i := 48) rfl)) (hw _ (List.mem_of_getElem? (i := 2) rfl)) (by decide) (by decide)) q189a q189c (g := (mkF m 28 #[.val (.ref f1), .val (.int (Int32.ofNat n)), .val (.int p1), .val (.ref aT), .val (.int (p1 &&& (3 : Int32))), .val (.int (Int32.ofNat vv)), .unset] [(.double (FP.i2d (p1 >>> ((4 : Int32) &&& 31)))), (.int (Int32.ofNat vv)), (.ref f1)])) rfl (by rw [hml]; rfl) (Steps.refl _) (argsL := [(.int (Int32.ofNat vv)), (.double (FP.i2d (p1 >>> ((4 : Int32) &&& 31))))]) (rest := []) (lenOf pd__28ID_29Z rfl) rfl (by show 2 * 0 + _ ≤ _; exact Nat.le_of_eq rfl) (hb hby d5_28) (fun _ _ => ⟨rfl, e0, (by decide : 0 + 0 ≤ _), (by decide : 0 + 0 ≤ _)⟩)
    dsimp only [Pt.U, Pt.locs, Pt.cells, Pt.slots] at X189 l189 y189 z189 st189 hQ189
    subst l189 y189 z189
    obtain ⟨dist2_189, rch2_189, rc2_189, opn2_189, oc2_189, r_189, rfl, N189q, K189, x189_0, x189_1, x189_2, x189_3, x189_4, x189_5, x189_6, x189_7, x189_8, x189_9, x189_10, x189_11⟩ := hQ189
    have N189 := Fr.app N0 N189q
    have z190 : n0 ≤ T189.heap.size := Nat.le_trans Z0 K189.1
    have k191 : Keep h0 T189.heap [f1, aD, aS, aR, aO, aT] := (Keep.refl h0 [f1, aD, aS, aR, aO, aT]).trans K189 (own_wmc (Or.inl (List.mem_of_getElem? (i := 0) rfl)) (own_wmc (Or.inl (List.mem_of_getElem? (i := 1) rfl)) (own_wmc (Or.inl (List.mem_of_getElem? (i := 3) rfl)) (own_wmc (Or.inl (List.mem_of_getElem? (i := 4) rfl)) own_wm0))))
    have hW2 := own_WF_reach hWf hvv (Fl.i2d_fin _) x189_11
    have f192 : Arv Z T189.heap aT kT .int (2 : Int32) [(.int b0), (.int (Int32.ofNat oc))] (.int (0 : Int32)) := (P_V_aT.keep K189 (own_nmc (Ne.symm P_ne_f1_aT) (own_nmc (Ne.symm P_ne_aD_aT) (own_nmc (Ne.symm P_ne_aR_aT) (own_nmc (Ne.symm P_ne_aO_aT) own_nm0)))))
    obtain ⟨cl193, Ar193, Q193, S193, M193, H193, G193⟩ := id f192
    have in194 : ¬ ((0 : Int32) < 0 ∨ cl193.slots.size ≤ ((0 : Int32)).toNatClampNeg) := inb_of S193 ⟨by decide, by decide⟩
    have at195 : cl193.slots[((0 : Int32)).toNatClampNeg]? = some (.int b0) := H193 0 (by rw [S193]; decide)
    have pre196 : ∀ t_, Steps p.tables e below (T189.setTop (mkF m 44 #[.val (.ref f1), .val (.int (Int32.ofNat n)), .val (.int p1), .val (.ref aT), .val (.int (p1 &&& (3 : Int32))), .val (.int (Int32.ofNat vv)), .val (.int (own_bit vv))] [(.int (b0 &&& (own_bit vv)))])) t_ → Steps p.tables e below (s₁.setTop (entryFrame m #[(.ref f1), (.int (Int32.ofNat n)), (.int p1), (.ref aT)] 7)) t_ := fun t_ kt => pre101 t_ (by
        show Steps p.tables e below (s₁.setTop (mkF m 8 #[.val (.ref f1), .val (.int (Int32.ofNat n)), .val (.int p1), .val (.ref aT), .val (.int (p1 &&& (3 : Int32))), .unset, .unset] [(.int (1 : Int32)), (.int (p1 &&& (3 : Int32)))])) _
        refine XS.icmpNo X0.here hx rfl (hb hby d5_8) rfl (flt (hc8_102 : ¬ ((1 : Int32) < (p1 &&& (3 : Int32))))).2.2.1 ?_
        show Steps p.tables e below (s₁.setTop (mkF m 11 #[.val (.ref f1), .val (.int (Int32.ofNat n)), .val (.int p1), .val (.ref aT), .val (.int (p1 &&& (3 : Int32))), .unset, .unset] [])) _
        refine XS.iloadN X0.here hx rfl (hb hby d5_11) rfl ?_
        show Steps p.tables e below (s₁.setTop (mkF m 12 #[.val (.ref f1), .val (.int (Int32.ofNat n)), .val (.int p1), .val (.ref aT), .val (.int (p1 &&& (3 : Int32))), .unset, .unset] [(.int p1)])) _
        refine XS.iconst X0.here hx rfl (hb hby d5_12) ?_
        show Steps p.tables e below (s₁.setTop (mkF m 13 #[.val (.ref f1), .val (.int (Int32.ofNat n)), .val (.int p1), .val (.ref aT), .val (.int (p1 &&& (3 : Int32))), .unset, .unset] [(.int (2 : Int32)), (.int p1)])) _
        refine XS.iushr X0.here hx rfl (hb hby d5_13) rfl ?_
        show Steps p.tables e below (s₁.setTop (mkF m 14 #[.val (.ref f1), .val (.int (Int32.ofNat n)), .val (.int p1), .val (.ref aT), .val (.int (p1 &&& (3 : Int32))), .unset, .unset] [(.int ((p1.toUInt32 >>> ((2 : Int32) &&& 31).toUInt32).toInt32))])) _
        refine X0.ldcInt hx hown (mvT hZ (hw _ (List.mem_of_getElem? (i := 43) rfl))) (g := (mkF m 14 #[.val (.ref f1), .val (.int (Int32.ofNat n)), .val (.int p1), .val (.ref aT), .val (.int (p1 &&& (3 : Int32))), .unset, .unset] [(.int ((p1.toUInt32 >>> ((2 : Int32) &&& 31).toUInt32).toInt32))])) rfl (hb hby d5_14) _ ?_
        show Steps p.tables e below (s₁.setTop (mkF m 16 #[.val (.ref f1), .val (.int (Int32.ofNat n)), .val (.int p1), .val (.ref aT), .val (.int (p1 &&& (3 : Int32))), .unset, .unset] [(.int (2147483647 : Int32)), (.int ((p1.toUInt32 >>> ((2 : Int32) &&& 31).toUInt32).toInt32))])) _
        refine XS.iand X0.here hx rfl (hb hby d5_16) rfl ?_
        show Steps p.tables e below (s₁.setTop (mkF m 17 #[.val (.ref f1), .val (.int (Int32.ofNat n)), .val (.int p1), .val (.ref aT), .val (.int (p1 &&& (3 : Int32))), .unset, .unset] [(.int (((p1.toUInt32 >>> ((2 : Int32) &&& 31).toUInt32).toInt32) &&& (2147483647 : Int32)))])) _
        refine XS.iloadN X0.here hx rfl (hb hby d5_17) rfl ?_
        show Steps p.tables e below (s₁.setTop (mkF m 18 #[.val (.ref f1), .val (.int (Int32.ofNat n)), .val (.int p1), .val (.ref aT), .val (.int (p1 &&& (3 : Int32))), .unset, .unset] [(.int (Int32.ofNat n)), (.int (((p1.toUInt32 >>> ((2 : Int32) &&& 31).toUInt32).toInt32) &&& (2147483647 : Int32)))])) _
        refine iremM X0 hx rfl (hb hby d5_18) rfl (own_nz h1 hn) ?_
        show Steps p.tables e below (s₁.setTop (mkF m 19 #[.val (.ref f1), .val (.int (Int32.ofNat n)), .val (.int p1), .val (.ref aT), .val (.int (p1 &&& (3 : Int32))), .unset, .unset] [(.int ((((p1.toUInt32 >>> ((2 : Int32) &&& 31).toUInt32).toInt32) &&& (2147483647 : Int32)) % (Int32.ofNat n)))])) _
        rw [evv]
        show Steps p.tables e below (s₁.setTop (mkF m 19 #[.val (.ref f1), .val (.int (Int32.ofNat n)), .val (.int p1), .val (.ref aT), .val (.int (p1 &&& (3 : Int32))), .unset, .unset] [(.int (Int32.ofNat vv))])) _
        refine XS.istore X0.here hx rfl (hb hby d5_19) rfl (l' := #[.val (.ref f1), .val (.int (Int32.ofNat n)), .val (.int p1), .val (.ref aT), .val (.int (p1 &&& (3 : Int32))), .val (.int (Int32.ofNat vv)), .unset]) rfl ?_
        show Steps p.tables e below (s₁.setTop (mkF m 21 #[.val (.ref f1), .val (.int (Int32.ofNat n)), .val (.int p1), .val (.ref aT), .val (.int (p1 &&& (3 : Int32))), .val (.int (Int32.ofNat vv)), .unset] [])) _
        refine XS.aloadN X0.here hx rfl (hb hby d5_21) rfl rfl ?_
        show Steps p.tables e below (s₁.setTop (mkF m 22 #[.val (.ref f1), .val (.int (Int32.ofNat n)), .val (.int p1), .val (.ref aT), .val (.int (p1 &&& (3 : Int32))), .val (.int (Int32.ofNat vv)), .unset] [(.ref f1)])) _
        refine XS.iload X0.here hx rfl (hb hby d5_22) rfl ?_
        show Steps p.tables e below (s₁.setTop (mkF m 24 #[.val (.ref f1), .val (.int (Int32.ofNat n)), .val (.int p1), .val (.ref aT), .val (.int (p1 &&& (3 : Int32))), .val (.int (Int32.ofNat vv)), .unset] [(.int (Int32.ofNat vv)), (.ref f1)])) _
        refine XS.iloadN X0.here hx rfl (hb hby d5_24) rfl ?_
        show Steps p.tables e below (s₁.setTop (mkF m 25 #[.val (.ref f1), .val (.int (Int32.ofNat n)), .val (.int p1), .val (.ref aT), .val (.int (p1 &&& (3 : Int32))), .val (.int (Int32.ofNat vv)), .unset] [(.int p1), (.int (Int32.ofNat vv)), (.ref f1)])) _
        refine XS.iconst X0.here hx rfl (hb hby d5_25) ?_
        show Steps p.tables e below (s₁.setTop (mkF m 26 #[.val (.ref f1), .val (.int (Int32.ofNat n)), .val (.int p1), .val (.ref aT), .val (.int (p1 &&& (3 : Int32))), .val (.int (Int32.ofNat vv)), .unset] [(.int (4 : Int32)), (.int p1), (.int (Int32.ofNat vv)), (.ref f1)])) _
        refine XS.ishr X0.here hx rfl (hb hby d5_26) rfl ?_
        show Steps p.tables e below (s₁.setTop (mkF m 27 #[.val (.ref f1), .val (.int (Int32.ofNat n)), .val (.int p1), .val (.ref aT), .val (.int (p1 &&& (3 : Int32))), .val (.int (Int32.ofNat vv)), .unset] [(.int (p1 >>> ((4 : Int32) &&& 31))), (.int (Int32.ofNat vv)), (.ref f1)])) _
        refine XS.i2dS X0.here hx rfl (hb hby d5_27) rfl (v := (FP.i2d (p1 >>> ((4 : Int32) &&& 31)))) rfl ?_
        show Steps p.tables e below (s₁.setTop (mkF m 28 #[.val (.ref f1), .val (.int (Int32.ofNat n)), .val (.int p1), .val (.ref aT), .val (.int (p1 &&& (3 : Int32))), .val (.int (Int32.ofNat vv)), .unset] [(.double (FP.i2d (p1 >>> ((4 : Int32) &&& 31)))), (.int (Int32.ofNat vv)), (.ref f1)])) _
        refine st189.trans ?_
        show Steps p.tables e below (T189.setTop (mkF m 31 #[.val (.ref f1), .val (.int (Int32.ofNat n)), .val (.int p1), .val (.ref aT), .val (.int (p1 &&& (3 : Int32))), .val (.int (Int32.ofNat vv)), .unset] [(.int r_189)])) _
        refine XS.pop X189.here hx rfl (hb hby d5_31) rfl rfl ?_
        show Steps p.tables e below (T189.setTop (mkF m 32 #[.val (.ref f1), .val (.int (Int32.ofNat n)), .val (.int p1), .val (.ref aT), .val (.int (p1 &&& (3 : Int32))), .val (.int (Int32.ofNat vv)), .unset] [])) _
        refine XS.iconst X189.here hx rfl (hb hby d5_32) ?_
        show Steps p.tables e below (T189.setTop (mkF m 33 #[.val (.ref f1), .val (.int (Int32.ofNat n)), .val (.int p1), .val (.ref aT), .val (.int (p1 &&& (3 : Int32))), .val (.int (Int32.ofNat vv)), .unset] [(.int (1 : Int32))])) _
        refine XS.iload X189.here hx rfl (hb hby d5_33) rfl ?_
        show Steps p.tables e below (T189.setTop (mkF m 35 #[.val (.ref f1), .val (.int (Int32.ofNat n)), .val (.int p1), .val (.ref aT), .val (.int (p1 &&& (3 : Int32))), .val (.int (Int32.ofNat vv)), .unset] [(.int (Int32.ofNat vv)), (.int (1 : Int32))])) _
        refine XS.ishl X189.here hx rfl (hb hby d5_35) rfl ?_
        show Steps p.tables e below (T189.setTop (mkF m 36 #[.val (.ref f1), .val (.int (Int32.ofNat n)), .val (.int p1), .val (.ref aT), .val (.int (p1 &&& (3 : Int32))), .val (.int (Int32.ofNat vv)), .unset] [(.int ((1 : Int32) <<< ((Int32.ofNat vv) &&& 31)))])) _
        refine XS.istore X189.here hx rfl (hb hby d5_36) rfl (l' := #[.val (.ref f1), .val (.int (Int32.ofNat n)), .val (.int p1), .val (.ref aT), .val (.int (p1 &&& (3 : Int32))), .val (.int (Int32.ofNat vv)), .val (.int (own_bit vv))]) rfl ?_
        show Steps p.tables e below (T189.setTop (mkF m 38 #[.val (.ref f1), .val (.int (Int32.ofNat n)), .val (.int p1), .val (.ref aT), .val (.int (p1 &&& (3 : Int32))), .val (.int (Int32.ofNat vv)), .val (.int (own_bit vv))] [])) _
        refine XS.aloadN X189.here hx rfl (hb hby d5_38) rfl rfl ?_
        show Steps p.tables e below (T189.setTop (mkF m 39 #[.val (.ref f1), .val (.int (Int32.ofNat n)), .val (.int p1), .val (.ref aT), .val (.int (p1 &&& (3 : Int32))), .val (.int (Int32.ofNat vv)), .val (.int (own_bit vv))] [(.ref aT)])) _
        refine XS.iconst X189.here hx rfl (hb hby d5_39) ?_
        show Steps p.tables e below (T189.setTop (mkF m 40 #[.val (.ref f1), .val (.int (Int32.ofNat n)), .val (.int p1), .val (.ref aT), .val (.int (p1 &&& (3 : Int32))), .val (.int (Int32.ofNat vv)), .val (.int (own_bit vv))] [(.int (0 : Int32)), (.ref aT)])) _
        refine X189.iaload hx (j := (0 : Int32)) (v := (.int b0)) Ar193.1 (State.isArrayOf_alike hZ.alike Ar193.2.1) Ar193.2.2 in194 at195 (g := (mkF m 40 #[.val (.ref f1), .val (.int (Int32.ofNat n)), .val (.int p1), .val (.ref aT), .val (.int (p1 &&& (3 : Int32))), .val (.int (Int32.ofNat vv)), .val (.int (own_bit vv))] [(.int (0 : Int32)), (.ref aT)])) rfl rfl (hb hby d5_40) _ ?_
        show Steps p.tables e below (T189.setTop (mkF m 41 #[.val (.ref f1), .val (.int (Int32.ofNat n)), .val (.int p1), .val (.ref aT), .val (.int (p1 &&& (3 : Int32))), .val (.int (Int32.ofNat vv)), .val (.int (own_bit vv))] [(.int b0)])) _
        refine XS.iload X189.here hx rfl (hb hby d5_41) rfl ?_
        show Steps p.tables e below (T189.setTop (mkF m 43 #[.val (.ref f1), .val (.int (Int32.ofNat n)), .val (.int p1), .val (.ref aT), .val (.int (p1 &&& (3 : Int32))), .val (.int (Int32.ofNat vv)), .val (.int (own_bit vv))] [(.int (own_bit vv)), (.int b0)])) _
        refine XS.iand X189.here hx rfl (hb hby d5_43) rfl ?_
        exact kt)
    by_cases hbt : (b0 &&& (own_bit vv)) = (0 : Int32)
    · skip
      have hi : dist vv = own_inf := (hB vv hvv).mp hbt
      have hst : st vv = 0 := Classical.byContradiction fun q => hWf.2.2.2.2.2.1 vv hvv q hi
      obtain ⟨hd2, hoc⟩ : dist2_189 = own_up dist vv (FP.i2d (p1 >>> ((4 : Int32) &&& 31))) ∧ oc2_189 = oc + 1 := by
        rcases x189_11 with ⟨q, -⟩ | ⟨-, -, q, -, -, -, q2⟩ | ⟨-, q, -⟩ | ⟨-, q, -⟩
        · exact absurd hst q
        · exact ⟨q, q2⟩
        · exact absurd hi q
        · exact absurd hi q
      have hB2 : own_bits n (b0 ||| own_bit vv) dist2_189 := by rw [hd2]; exact own_bits_new hn hvv (own_finne (Fl.i2d_fin _)) hB
      obtain ⟨cl197, Ar197, Q197, S197, M197, H197, G197⟩ := id f192
      have in198 : ¬ ((0 : Int32) < 0 ∨ cl197.slots.size ≤ ((0 : Int32)).toNatClampNeg) := inb_of S197 ⟨by decide, by decide⟩
      have at199 : cl197.slots[((0 : Int32)).toNatClampNeg]? = some (.int b0) := H197 0 (by rw [S197]; decide)
      obtain ⟨cl200, Ar200, Q200, S200, M200, H200, G200⟩ := id f192
      have in201 : ¬ ((0 : Int32) < 0 ∨ cl200.slots.size ≤ ((0 : Int32)).toNatClampNeg) := inb_of S200 ⟨by decide, by decide⟩
      obtain ⟨T202, h202, X202, e202, W202, st202⟩ := stI X189 hx hZ rfl Ar200 (j := (0 : Int32)) in201 (g := (mkF m 55 #[.val (.ref f1), .val (.int (Int32.ofNat n)), .val (.int p1), .val (.ref aT), .val (.int (p1 &&& (3 : Int32))), .val (.int (Int32.ofNat vv)), .val (.int (own_bit vv))] [(.int (b0 ||| (own_bit vv))), (.int (0 : Int32)), (.ref aT)])) rfl rfl (hb hby d5_55)
      have z203 : n0 ≤ h202.size := Nat.le_trans z190 (Keep.of_wr W202).1
      have k204 : Keep h0 h202 [f1, aD, aS, aR, aO, aT] := k191.wr W202 (Or.inl (List.mem_of_getElem? (i := 5) rfl))
      have V202 : Arv Z h202 aT kT .int (2 : Int32) [(.int (b0 ||| (own_bit vv))), (.int (Int32.ofNat oc))] (.int (0 : Int32)) := Arv.set Ar200 Q200 S200 M200 H200 G200 rfl W202 0 rfl (Nat.le_of_ble_eq_true rfl)
      have N202 : Fr n0 _ := Fr.snoc X202 N189 P_G_aT
      obtain ⟨cl205, Ar205, Q205, S205, M205, H205, G205⟩ := id V202
      have in206 : ¬ ((1 : Int32) < 0 ∨ cl205.slots.size ≤ ((1 : Int32)).toNatClampNeg) := inb_of S205 ⟨by decide, by decide⟩
      have at207 : cl205.slots[((1 : Int32)).toNatClampNeg]? = some (.int (Int32.ofNat oc)) := H205 1 (by rw [S205]; decide)
      obtain ⟨cl208, Ar208, Q208, S208, M208, H208, G208⟩ := id V202
      have in209 : ¬ ((1 : Int32) < 0 ∨ cl208.slots.size ≤ ((1 : Int32)).toNatClampNeg) := inb_of S208 ⟨by decide, by decide⟩
      obtain ⟨T210, h210, X210, e210, W210, st210⟩ := stI X202 hx hZ e202 Ar208 (j := (1 : Int32)) in209 (g := (mkF m 63 #[.val (.ref f1), .val (.int (Int32.ofNat n)), .val (.int p1), .val (.ref aT), .val (.int (p1 &&& (3 : Int32))), .val (.int (Int32.ofNat vv)), .val (.int (own_bit vv))] [(.int (Int32.ofNat (oc + 1))), (.int (1 : Int32)), (.ref aT)])) rfl rfl (hb hby d5_63)
      have z211 : n0 ≤ h210.size := Nat.le_trans z203 (Keep.of_wr W210).1
      have k212 : Keep h0 h210 [f1, aD, aS, aR, aO, aT] := k204.wr W210 (Or.inl (List.mem_of_getElem? (i := 5) rfl))
      have V210 : Arv Z h210 aT kT .int (2 : Int32) [(.int (b0 ||| (own_bit vv))), (.int (Int32.ofNat (oc + 1)))] (.int (0 : Int32)) := Arv.set Ar208 Q208 S208 M208 H208 G208 rfl W210 1 rfl (Nat.le_of_ble_eq_true rfl)
      have N210 : Fr n0 _ := Fr.snoc X210 N202 P_G_aT
      have r213 : Arv Z h210 aT kT .int (2 : Int32) [(.int (b0 ||| own_bit vv)), (.int (Int32.ofNat oc2_189))] (.int (0 : Int32)) := (show Arv Z h210 aT kT .int (2 : Int32) [(.int (b0 ||| own_bit vv)), (.int (Int32.ofNat oc2_189))] (.int (0 : Int32)) from hoc ▸ V210)
      have f214 : Fld Z h210 f1 "com/example/slotwright/slotwright/exchange/Frontier" "openCount" "I" (.int (Int32.ofNat oc2_189)) := ((x189_6.other W202 (Or.inl P_ne_f1_aT)).other W210 (Or.inl P_ne_f1_aT))
      have f216 : Exa Z h210 f1 "com/example/slotwright/slotwright/exchange/Frontier" := ((x189_0.wr W202).wr W210)
      obtain ⟨cq215, kq215, q215a, q215b, q215c⟩ := isOf hZ e210 f216
      obtain ⟨_, _, ⟨T215, L215, kk215, nn215⟩, -, X215, ⟨Lc215, hQ215, l215, y215, z215⟩, st215⟩ := X210.virtualBack hx (y := (⟨"com/example/slotwright/slotwright/exchange/Frontier", "isEmpty", "()Z"⟩ : MethodName)) (z := (⟨"com/example/slotwright/slotwright/exchange/Frontier", "isEmpty", "()Z"⟩ : MethodName)) hown (mvT hZ (hw _ (List.mem_of_getElem? (i := 25) rfl))) (mvT hZ (hw _ (List.mem_of_getElem? (i := 26) rfl))) (notFace_of_selects (args := #[]) (mvT hZ (hw _ (List.mem_of_getElem? (i := 28) rfl)))) (mvT hZ (hw _ (List.mem_of_getElem? (i := 28) rfl))) (mvT hZ (hw _ (List.mem_of_getElem? (i := 27) rfl))) (by decide) (backOf (W := 0) (rmFisEmpty l Z a0 hw [] f1 (Int32.ofNat oc2_189) h210 n0 z211 f214) hZ (hw _ (List.mem_of_getElem? (i := 29) rfl)) (hw _ (List.mem_of_getElem? (i := 2) rfl)) (by decide) (by decide)) q215a q215c (g := (mkF m 108 #[.val (.ref f1), .val (.int (Int32.ofNat n)), .val (.int p1), .val (.ref aT), .val (.int (p1 &&& (3 : Int32))), .val (.int (Int32.ofNat vv)), .val (.int (own_bit vv))] [(.ref f1)])) rfl (by rw [hml]; rfl) (Steps.refl _) (argsL := []) (rest := []) (lenOf pd__28_29Z rfl) rfl (by show 2 * 0 + _ ≤ _; exact Nat.le_of_eq rfl) (hb hby d5_108) (fun _ _ => ⟨rfl, e210, (by decide : 0 + 0 ≤ _), (by decide : 0 + 0 ≤ _)⟩)
      dsimp only [Pt.U, Pt.locs, Pt.cells, Pt.slots] at X215 l215 y215 z215 st215 hQ215
      subst l215 y215 z215
      obtain ⟨r_215, rfl, N215q, e215, x215_0, x215_1⟩ := hQ215
      have N215 := Fr.app N210 N215q
      obtain ⟨cl217, Ar217, Q217, S217, M217, H217, G217⟩ := id r213
      have in218 : ¬ ((1 : Int32) < 0 ∨ cl217.slots.size ≤ ((1 : Int32)).toNatClampNeg) := inb_of S217 ⟨by decide, by decide⟩
      have at219 : cl217.slots[((1 : Int32)).toNatClampNeg]? = some (.int (Int32.ofNat oc2_189)) := H217 1 (by rw [S217]; decide)
      have pre220 : ∀ t_, Steps p.tables e below (T215.setTop (mkF m 114 #[.val (.ref f1), .val (.int (Int32.ofNat n)), .val (.int p1), .val (.ref aT), .val (.int (p1 &&& (3 : Int32))), .val (.int (Int32.ofNat vv)), .val (.int (own_bit vv))] [(.int (Int32.ofNat oc2_189)), (.int r_215)])) t_ → Steps p.tables e below (s₁.setTop (entryFrame m #[(.ref f1), (.int (Int32.ofNat n)), (.int p1), (.ref aT)] 7)) t_ := fun t_ kt => pre196 t_ (by
          show Steps p.tables e below (T189.setTop (mkF m 44 #[.val (.ref f1), .val (.int (Int32.ofNat n)), .val (.int p1), .val (.ref aT), .val (.int (p1 &&& (3 : Int32))), .val (.int (Int32.ofNat vv)), .val (.int (own_bit vv))] [(.int (b0 &&& (own_bit vv)))])) _
          refine XS.ifNo X189.here hx rfl (hb hby d5_44) rfl ((if0 _ _).trans (teq (hbt : (b0 &&& (own_bit vv)) = (0 : Int32))).2) ?_
          show Steps p.tables e below (T189.setTop (mkF m 47 #[.val (.ref f1), .val (.int (Int32.ofNat n)), .val (.int p1), .val (.ref aT), .val (.int (p1 &&& (3 : Int32))), .val (.int (Int32.ofNat vv)), .val (.int (own_bit vv))] [])) _
          refine XS.aloadN X189.here hx rfl (hb hby d5_47) rfl rfl ?_
          show Steps p.tables e below (T189.setTop (mkF m 48 #[.val (.ref f1), .val (.int (Int32.ofNat n)), .val (.int p1), .val (.ref aT), .val (.int (p1 &&& (3 : Int32))), .val (.int (Int32.ofNat vv)), .val (.int (own_bit vv))] [(.ref aT)])) _
          refine XS.iconst X189.here hx rfl (hb hby d5_48) ?_
          show Steps p.tables e below (T189.setTop (mkF m 49 #[.val (.ref f1), .val (.int (Int32.ofNat n)), .val (.int p1), .val (.ref aT), .val (.int (p1 &&& (3 : Int32))), .val (.int (Int32.ofNat vv)), .val (.int (own_bit vv))] [(.int (0 : Int32)), (.ref aT)])) _
          refine XS.aloadN X189.here hx rfl (hb hby d5_49) rfl rfl ?_
          show Steps p.tables e below (T189.setTop (mkF m 50 #[.val (.ref f1), .val (.int (Int32.ofNat n)), .val (.int p1), .val (.ref aT), .val (.int (p1 &&& (3 : Int32))), .val (.int (Int32.ofNat vv)), .val (.int (own_bit vv))] [(.ref aT), (.int (0 : Int32)), (.ref aT)])) _
          refine XS.iconst X189.here hx rfl (hb hby d5_50) ?_
          show Steps p.tables e below (T189.setTop (mkF m 51 #[.val (.ref f1), .val (.int (Int32.ofNat n)), .val (.int p1), .val (.ref aT), .val (.int (p1 &&& (3 : Int32))), .val (.int (Int32.ofNat vv)), .val (.int (own_bit vv))] [(.int (0 : Int32)), (.ref aT), (.int (0 : Int32)), (.ref aT)])) _
          refine X189.iaload hx (j := (0 : Int32)) (v := (.int b0)) Ar197.1 (State.isArrayOf_alike hZ.alike Ar197.2.1) Ar197.2.2 in198 at199 (g := (mkF m 51 #[.val (.ref f1), .val (.int (Int32.ofNat n)), .val (.int p1), .val (.ref aT), .val (.int (p1 &&& (3 : Int32))), .val (.int (Int32.ofNat vv)), .val (.int (own_bit vv))] [(.int (0 : Int32)), (.ref aT), (.int (0 : Int32)), (.ref aT)])) rfl rfl (hb hby d5_51) _ ?_
          show Steps p.tables e below (T189.setTop (mkF m 52 #[.val (.ref f1), .val (.int (Int32.ofNat n)), .val (.int p1), .val (.ref aT), .val (.int (p1 &&& (3 : Int32))), .val (.int (Int32.ofNat vv)), .val (.int (own_bit vv))] [(.int b0), (.int (0 : Int32)), (.ref aT)])) _
          refine XS.iload X189.here hx rfl (hb hby d5_52) rfl ?_
          show Steps p.tables e below (T189.setTop (mkF m 54 #[.val (.ref f1), .val (.int (Int32.ofNat n)), .val (.int p1), .val (.ref aT), .val (.int (p1 &&& (3 : Int32))), .val (.int (Int32.ofNat vv)), .val (.int (own_bit vv))] [(.int (own_bit vv)), (.int b0), (.int (0 : Int32)), (.ref aT)])) _
          refine XS.ior X189.here hx rfl (hb hby d5_54) rfl ?_
          show Steps p.tables e below (T189.setTop (mkF m 55 #[.val (.ref f1), .val (.int (Int32.ofNat n)), .val (.int p1), .val (.ref aT), .val (.int (p1 &&& (3 : Int32))), .val (.int (Int32.ofNat vv)), .val (.int (own_bit vv))] [(.int (b0 ||| (own_bit vv))), (.int (0 : Int32)), (.ref aT)])) _
          refine st202 _ ?_
          show Steps p.tables e below (T202.setTop (mkF m 56 #[.val (.ref f1), .val (.int (Int32.ofNat n)), .val (.int p1), .val (.ref aT), .val (.int (p1 &&& (3 : Int32))), .val (.int (Int32.ofNat vv)), .val (.int (own_bit vv))] [])) _
          refine XS.aloadN X202.here hx rfl (hb hby d5_56) rfl rfl ?_
          show Steps p.tables e below (T202.setTop (mkF m 57 #[.val (.ref f1), .val (.int (Int32.ofNat n)), .val (.int p1), .val (.ref aT), .val (.int (p1 &&& (3 : Int32))), .val (.int (Int32.ofNat vv)), .val (.int (own_bit vv))] [(.ref aT)])) _
          refine XS.iconst X202.here hx rfl (hb hby d5_57) ?_
          show Steps p.tables e below (T202.setTop (mkF m 58 #[.val (.ref f1), .val (.int (Int32.ofNat n)), .val (.int p1), .val (.ref aT), .val (.int (p1 &&& (3 : Int32))), .val (.int (Int32.ofNat vv)), .val (.int (own_bit vv))] [(.int (1 : Int32)), (.ref aT)])) _
          refine XS.aloadN X202.here hx rfl (hb hby d5_58) rfl rfl ?_
          show Steps p.tables e below (T202.setTop (mkF m 59 #[.val (.ref f1), .val (.int (Int32.ofNat n)), .val (.int p1), .val (.ref aT), .val (.int (p1 &&& (3 : Int32))), .val (.int (Int32.ofNat vv)), .val (.int (own_bit vv))] [(.ref aT), (.int (1 : Int32)), (.ref aT)])) _
          refine XS.iconst X202.here hx rfl (hb hby d5_59) ?_
          show Steps p.tables e below (T202.setTop (mkF m 60 #[.val (.ref f1), .val (.int (Int32.ofNat n)), .val (.int p1), .val (.ref aT), .val (.int (p1 &&& (3 : Int32))), .val (.int (Int32.ofNat vv)), .val (.int (own_bit vv))] [(.int (1 : Int32)), (.ref aT), (.int (1 : Int32)), (.ref aT)])) _
          refine X202.iaload hx (j := (1 : Int32)) (v := (.int (Int32.ofNat oc))) (by rw [e202]; exact Ar205.1) (State.isArrayOf_alike hZ.alike Ar205.2.1) Ar205.2.2 in206 at207 (g := (mkF m 60 #[.val (.ref f1), .val (.int (Int32.ofNat n)), .val (.int p1), .val (.ref aT), .val (.int (p1 &&& (3 : Int32))), .val (.int (Int32.ofNat vv)), .val (.int (own_bit vv))] [(.int (1 : Int32)), (.ref aT), (.int (1 : Int32)), (.ref aT)])) rfl rfl (hb hby d5_60) _ ?_
          show Steps p.tables e below (T202.setTop (mkF m 61 #[.val (.ref f1), .val (.int (Int32.ofNat n)), .val (.int p1), .val (.ref aT), .val (.int (p1 &&& (3 : Int32))), .val (.int (Int32.ofNat vv)), .val (.int (own_bit vv))] [(.int (Int32.ofNat oc)), (.int (1 : Int32)), (.ref aT)])) _
          refine XS.iconst X202.here hx rfl (hb hby d5_61) ?_
          show Steps p.tables e below (T202.setTop (mkF m 62 #[.val (.ref f1), .val (.int (Int32.ofNat n)), .val (.int p1), .val (.ref aT), .val (.int (p1 &&& (3 : Int32))), .val (.int (Int32.ofNat vv)), .val (.int (own_bit vv))] [(.int (1 : Int32)), (.int (Int32.ofNat oc)), (.int (1 : Int32)), (.ref aT)])) _
          refine XS.iadd X202.here hx rfl (hb hby d5_62) rfl ?_
          show Steps p.tables e below (T202.setTop (mkF m 63 #[.val (.ref f1), .val (.int (Int32.ofNat n)), .val (.int p1), .val (.ref aT), .val (.int (p1 &&& (3 : Int32))), .val (.int (Int32.ofNat vv)), .val (.int (own_bit vv))] [(.int ((Int32.ofNat oc) + (1 : Int32))), (.int (1 : Int32)), (.ref aT)])) _
          rw [one32 oc]
          show Steps p.tables e below (T202.setTop (mkF m 63 #[.val (.ref f1), .val (.int (Int32.ofNat n)), .val (.int p1), .val (.ref aT), .val (.int (p1 &&& (3 : Int32))), .val (.int (Int32.ofNat vv)), .val (.int (own_bit vv))] [(.int (Int32.ofNat (oc + 1))), (.int (1 : Int32)), (.ref aT)])) _
          refine st210 _ ?_
          show Steps p.tables e below (T210.setTop (mkF m 64 #[.val (.ref f1), .val (.int (Int32.ofNat n)), .val (.int p1), .val (.ref aT), .val (.int (p1 &&& (3 : Int32))), .val (.int (Int32.ofNat vv)), .val (.int (own_bit vv))] [])) _
          refine XS.goto X210.here hx rfl (pc0 := 64) (pc' := 107) rfl (hb hby d5_64) (by decide) (by decide) ?_
          show Steps p.tables e below (T210.setTop (mkF m 107 #[.val (.ref f1), .val (.int (Int32.ofNat n)), .val (.int p1), .val (.ref aT), .val (.int (p1 &&& (3 : Int32))), .val (.int (Int32.ofNat vv)), .val (.int (own_bit vv))] [])) _
          refine XS.aloadN X210.here hx rfl (hb hby d5_107) rfl rfl ?_
          show Steps p.tables e below (T210.setTop (mkF m 108 #[.val (.ref f1), .val (.int (Int32.ofNat n)), .val (.int p1), .val (.ref aT), .val (.int (p1 &&& (3 : Int32))), .val (.int (Int32.ofNat vv)), .val (.int (own_bit vv))] [(.ref f1)])) _
          refine st215.trans ?_
          show Steps p.tables e below (T215.setTop (mkF m 111 #[.val (.ref f1), .val (.int (Int32.ofNat n)), .val (.int p1), .val (.ref aT), .val (.int (p1 &&& (3 : Int32))), .val (.int (Int32.ofNat vv)), .val (.int (own_bit vv))] [(.int r_215)])) _
          refine XS.aloadN X215.here hx rfl (hb hby d5_111) rfl rfl ?_
          show Steps p.tables e below (T215.setTop (mkF m 112 #[.val (.ref f1), .val (.int (Int32.ofNat n)), .val (.int p1), .val (.ref aT), .val (.int (p1 &&& (3 : Int32))), .val (.int (Int32.ofNat vv)), .val (.int (own_bit vv))] [(.ref aT), (.int r_215)])) _
          refine XS.iconst X215.here hx rfl (hb hby d5_112) ?_
          show Steps p.tables e below (T215.setTop (mkF m 113 #[.val (.ref f1), .val (.int (Int32.ofNat n)), .val (.int p1), .val (.ref aT), .val (.int (p1 &&& (3 : Int32))), .val (.int (Int32.ofNat vv)), .val (.int (own_bit vv))] [(.int (1 : Int32)), (.ref aT), (.int r_215)])) _
          refine X215.iaload hx (j := (1 : Int32)) (v := (.int (Int32.ofNat oc2_189))) (by rw [e215]; exact Ar217.1) (State.isArrayOf_alike hZ.alike Ar217.2.1) Ar217.2.2 in218 at219 (g := (mkF m 113 #[.val (.ref f1), .val (.int (Int32.ofNat n)), .val (.int p1), .val (.ref aT), .val (.int (p1 &&& (3 : Int32))), .val (.int (Int32.ofNat vv)), .val (.int (own_bit vv))] [(.int (1 : Int32)), (.ref aT), (.int r_215)])) rfl rfl (hb hby d5_113) _ ?_
          exact kt)
      by_cases hz : (Int32.ofNat oc2_189) = (0 : Int32)
      · skip
        have pre221 : ∀ t_, Steps p.tables e below (T215.setTop (mkF m 117 #[.val (.ref f1), .val (.int (Int32.ofNat n)), .val (.int p1), .val (.ref aT), .val (.int (p1 &&& (3 : Int32))), .val (.int (Int32.ofNat vv)), .val (.int (own_bit vv))] [(.int r_215)])) t_ → Steps p.tables e below (s₁.setTop (entryFrame m #[(.ref f1), (.int (Int32.ofNat n)), (.int p1), (.ref aT)] 7)) t_ := fun t_ kt => pre220 t_ (by
            show Steps p.tables e below (T215.setTop (mkF m 114 #[.val (.ref f1), .val (.int (Int32.ofNat n)), .val (.int p1), .val (.ref aT), .val (.int (p1 &&& (3 : Int32))), .val (.int (Int32.ofNat vv)), .val (.int (own_bit vv))] [(.int (Int32.ofNat oc2_189)), (.int r_215)])) _
            refine XS.ifNo X215.here hx rfl (hb hby d5_114) rfl ((if0 _ _).trans (teq (hz : (Int32.ofNat oc2_189) = (0 : Int32))).2) ?_
            exact kt)
        obtain rfl : r_215 = (1 : Int32) := x215_0 hz
        have pre222 : ∀ t_, Steps p.tables e below (T215.setTop (mkF m 130 #[.val (.ref f1), .val (.int (Int32.ofNat n)), .val (.int p1), .val (.ref aT), .val (.int (p1 &&& (3 : Int32))), .val (.int (Int32.ofNat vv)), .val (.int (own_bit vv))] [(.int (1 : Int32))])) t_ → Steps p.tables e below (s₁.setTop (entryFrame m #[(.ref f1), (.int (Int32.ofNat n)), (.int p1), (.ref aT)] 7)) t_ := fun t_ kt => pre221 t_ (by
            show Steps p.tables e below (T215.setTop (mkF m 117 #[.val (.ref f1), .val (.int (Int32.ofNat n)), .val (.int p1), .val (.ref aT), .val (.int (p1 &&& (3 : Int32))), .val (.int (Int32.ofNat vv)), .val (.int (own_bit vv))] [(.int (1 : Int32))])) _
            refine XS.iconst X215.here hx rfl (hb hby d5_117) ?_
            show Steps p.tables e below (T215.setTop (mkF m 118 #[.val (.ref f1), .val (.int (Int32.ofNat n)), .val (.int p1), .val (.ref aT), .val (.int (p1 &&& (3 : Int32))), .val (.int (Int32.ofNat vv)), .val (.int (own_bit vv))] [(.int (1 : Int32)), (.int (1 : Int32))])) _
            refine XS.goto X215.here hx rfl (pc0 := 118) (pc' := 122) rfl (hb hby d5_118) (by decide) (by decide) ?_
            show Steps p.tables e below (T215.setTop (mkF m 122 #[.val (.ref f1), .val (.int (Int32.ofNat n)), .val (.int p1), .val (.ref aT), .val (.int (p1 &&& (3 : Int32))), .val (.int (Int32.ofNat vv)), .val (.int (own_bit vv))] [(.int (1 : Int32)), (.int (1 : Int32))])) _
            refine XS.icmpNo X215.here hx rfl (hb hby d5_122) rfl (teq ((by decide) : (1 : Int32) = (1 : Int32))).2 ?_
            show Steps p.tables e below (T215.setTop (mkF m 125 #[.val (.ref f1), .val (.int (Int32.ofNat n)), .val (.int p1), .val (.ref aT), .val (.int (p1 &&& (3 : Int32))), .val (.int (Int32.ofNat vv)), .val (.int (own_bit vv))] [])) _
            refine XS.iconst X215.here hx rfl (hb hby d5_125) ?_
            show Steps p.tables e below (T215.setTop (mkF m 126 #[.val (.ref f1), .val (.int (Int32.ofNat n)), .val (.int p1), .val (.ref aT), .val (.int (p1 &&& (3 : Int32))), .val (.int (Int32.ofNat vv)), .val (.int (own_bit vv))] [(.int (1 : Int32))])) _
            refine XS.goto X215.here hx rfl (pc0 := 126) (pc' := 130) rfl (hb hby d5_126) (by decide) (by decide) ?_
            exact kt)
        have f223 : Fld Z h210 f1 "com/example/slotwright/slotwright/exchange/Frontier" "distance" "[D" (.ref aD) := ((x189_1.other W202 (Or.inl P_ne_f1_aT)).other W210 (Or.inl P_ne_f1_aT))
        have f224 : Fld Z h210 f1 "com/example/slotwright/slotwright/exchange/Frontier" "settled" "[Z" (.ref aS) := ((x189_2.other W202 (Or.inl P_ne_f1_aT)).other W210 (Or.inl P_ne_f1_aT))
        have f225 : Fld Z h210 f1 "com/example/slotwright/slotwright/exchange/Frontier" "reached" "[I" (.ref aR) := ((x189_3.other W202 (Or.inl P_ne_f1_aT)).other W210 (Or.inl P_ne_f1_aT))
        have f226 : Fld Z h210 f1 "com/example/slotwright/slotwright/exchange/Frontier" "open" "[I" (.ref aO) := ((x189_4.other W202 (Or.inl P_ne_f1_aT)).other W210 (Or.inl P_ne_f1_aT))
        have f227 : Fld Z h210 f1 "com/example/slotwright/slotwright/exchange/Frontier" "reachedCount" "I" (.int (Int32.ofNat rc2_189)) := ((x189_5.other W202 (Or.inl P_ne_f1_aT)).other W210 (Or.inl P_ne_f1_aT))
        have f228 : Arv Z h210 aD kD .double (Int32.ofNat n) (own_LD dist2_189 n) (.double (0 : UInt64)) := ((x189_7.other W202 P_ne_aD_aT).other W210 P_ne_aD_aT)
        have f229 : Arv Z h210 aS kS .boolean (Int32.ofNat n) (own_LZ st n) (.int (0 : Int32)) := ((x189_8.other W202 P_ne_aS_aT).other W210 P_ne_aS_aT)
        have f230 : Arv Z h210 aR kR .int (Int32.ofNat n) (own_LN rch2_189 n) (.int (0 : Int32)) := ((x189_9.other W202 P_ne_aR_aT).other W210 P_ne_aR_aT)
        have f231 : Arv Z h210 aO kO .int (Int32.ofNat n) (own_LN opn2_189 n) (.int (0 : Int32)) := ((x189_10.other W202 P_ne_aO_aT).other W210 P_ne_aO_aT)
        obtain ⟨fs, hr, hrun, hended, hW, hsame⟩ := X215.leave (v := some (.int (1 : Int32))) (fun h => by rw [Bd.returns] at h; cases h)
        refine ⟨_, _, pre222 _ ?_, hrun, hended, _, _, rfl, ?_, ⟨_, rfl⟩, hW, hsame.mono (by decide) (by decide)⟩
        · show Steps p.tables e below (T215.setTop (mkF m 130 #[.val (.ref f1), .val (.int (Int32.ofNat n)), .val (.int p1), .val (.ref aT), .val (.int (p1 &&& (3 : Int32))), .val (.int (Int32.ofNat vv)), .val (.int (own_bit vv))] [(.int (1 : Int32))])) _
          exact retN X215 hx (t := .boolean) Bd.returns (by simp) (hb hby d5_130) hr
        · show Qstep Z f1 p1 aT aD aS aR aO kD kS kR kO n dist st rch rc opn oc b0 kT h0 n0 _ T215.heap _
          rw [e215]
          exact ⟨dist2_189, st, rch2_189, rc2_189, opn2_189, oc2_189, (b0 ||| own_bit vv), rfl, N215, k212, f216, f223, f224, f225, f226, f227, f214, f228, f229, f230, f231, r213, hW2, hB2⟩
      · skip
        have pre232 : ∀ t_, Steps p.tables e below (T215.setTop (mkF m 121 #[.val (.ref f1), .val (.int (Int32.ofNat n)), .val (.int p1), .val (.ref aT), .val (.int (p1 &&& (3 : Int32))), .val (.int (Int32.ofNat vv)), .val (.int (own_bit vv))] [(.int r_215)])) t_ → Steps p.tables e below (s₁.setTop (entryFrame m #[(.ref f1), (.int (Int32.ofNat n)), (.int p1), (.ref aT)] 7)) t_ := fun t_ kt => pre220 t_ (by
            show Steps p.tables e below (T215.setTop (mkF m 114 #[.val (.ref f1), .val (.int (Int32.ofNat n)), .val (.int p1), .val (.ref aT), .val (.int (p1 &&& (3 : Int32))), .val (.int (Int32.ofNat vv)), .val (.int (own_bit vv))] [(.int (Int32.ofNat oc2_189)), (.int r_215)])) _
            refine XS.ifYes X215.here hx rfl (pc0 := 114) (pc' := 121) rfl (hb hby d5_114) rfl ((if0 _ _).trans (feq (hz : ¬ ((Int32.ofNat oc2_189) = (0 : Int32)))).2) (by decide) (by decide) ?_
            exact kt)
        obtain rfl : r_215 = (0 : Int32) := x215_1 hz
        have pre233 : ∀ t_, Steps p.tables e below (T215.setTop (mkF m 130 #[.val (.ref f1), .val (.int (Int32.ofNat n)), .val (.int p1), .val (.ref aT), .val (.int (p1 &&& (3 : Int32))), .val (.int (Int32.ofNat vv)), .val (.int (own_bit vv))] [(.int (1 : Int32))])) t_ → Steps p.tables e below (s₁.setTop (entryFrame m #[(.ref f1), (.int (Int32.ofNat n)), (.int p1), (.ref aT)] 7)) t_ := fun t_ kt => pre232 t_ (by
            show Steps p.tables e below (T215.setTop (mkF m 121 #[.val (.ref f1), .val (.int (Int32.ofNat n)), .val (.int p1), .val (.ref aT), .val (.int (p1 &&& (3 : Int32))), .val (.int (Int32.ofNat vv)), .val (.int (own_bit vv))] [(.int (0 : Int32))])) _
            refine XS.iconst X215.here hx rfl (hb hby d5_121) ?_
            show Steps p.tables e below (T215.setTop (mkF m 122 #[.val (.ref f1), .val (.int (Int32.ofNat n)), .val (.int p1), .val (.ref aT), .val (.int (p1 &&& (3 : Int32))), .val (.int (Int32.ofNat vv)), .val (.int (own_bit vv))] [(.int (0 : Int32)), (.int (0 : Int32))])) _
            refine XS.icmpNo X215.here hx rfl (hb hby d5_122) rfl (teq ((by decide) : (0 : Int32) = (0 : Int32))).2 ?_
            show Steps p.tables e below (T215.setTop (mkF m 125 #[.val (.ref f1), .val (.int (Int32.ofNat n)), .val (.int p1), .val (.ref aT), .val (.int (p1 &&& (3 : Int32))), .val (.int (Int32.ofNat vv)), .val (.int (own_bit vv))] [])) _
            refine XS.iconst X215.here hx rfl (hb hby d5_125) ?_
            show Steps p.tables e below (T215.setTop (mkF m 126 #[.val (.ref f1), .val (.int (Int32.ofNat n)), .val (.int p1), .val (.ref aT), .val (.int (p1 &&& (3 : Int32))), .val (.int (Int32.ofNat vv)), .val (.int (own_bit vv))] [(.int (1 : Int32))])) _
            refine XS.goto X215.here hx rfl (pc0 := 126) (pc' := 130) rfl (hb hby d5_126) (by decide) (by decide) ?_
            exact kt)
        have f234 : Fld Z h210 f1 "com/example/slotwright/slotwright/exchange/Frontier" "distance" "[D" (.ref aD) := ((x189_1.other W202 (Or.inl P_ne_f1_aT)).other W210 (Or.inl P_ne_f1_aT))
        have f235 : Fld Z h210 f1 "com/example/slotwright/slotwright/exchange/Frontier" "settled" "[Z" (.ref aS) := ((x189_2.other W202 (Or.inl P_ne_f1_aT)).other W210 (Or.inl P_ne_f1_aT))
        have f236 : Fld Z h210 f1 "com/example/slotwright/slotwright/exchange/Frontier" "reached" "[I" (.ref aR) := ((x189_3.other W202 (Or.inl P_ne_f1_aT)).other W210 (Or.inl P_ne_f1_aT))
        have f237 : Fld Z h210 f1 "com/example/slotwright/slotwright/exchange/Frontier" "open" "[I" (.ref aO) := ((x189_4.other W202 (Or.inl P_ne_f1_aT)).other W210 (Or.inl P_ne_f1_aT))
        have f238 : Fld Z h210 f1 "com/example/slotwright/slotwright/exchange/Frontier" "reachedCount" "I" (.int (Int32.ofNat rc2_189)) := ((x189_5.other W202 (Or.inl P_ne_f1_aT)).other W210 (Or.inl P_ne_f1_aT))
        have f239 : Arv Z h210 aD kD .double (Int32.ofNat n) (own_LD dist2_189 n) (.double (0 : UInt64)) := ((x189_7.other W202 P_ne_aD_aT).other W210 P_ne_aD_aT)
        have f240 : Arv Z h210 aS kS .boolean (Int32.ofNat n) (own_LZ st n) (.int (0 : Int32)) := ((x189_8.other W202 P_ne_aS_aT).other W210 P_ne_aS_aT)
        have f241 : Arv Z h210 aR kR .int (Int32.ofNat n) (own_LN rch2_189 n) (.int (0 : Int32)) := ((x189_9.other W202 P_ne_aR_aT).other W210 P_ne_aR_aT)
        have f242 : Arv Z h210 aO kO .int (Int32.ofNat n) (own_LN opn2_189 n) (.int (0 : Int32)) := ((x189_10.other W202 P_ne_aO_aT).other W210 P_ne_aO_aT)
        obtain ⟨fs, hr, hrun, hended, hW, hsame⟩ := X215.leave (v := some (.int (1 : Int32))) (fun h => by rw [Bd.returns] at h; cases h)
        refine ⟨_, _, pre233 _ ?_, hrun, hended, _, _, rfl, ?_, ⟨_, rfl⟩, hW, hsame.mono (by decide) (by decide)⟩
        · show Steps p.tables e below (T215.setTop (mkF m 130 #[.val (.ref f1), .val (.int (Int32.ofNat n)), .val (.int p1), .val (.ref aT), .val (.int (p1 &&& (3 : Int32))), .val (.int (Int32.ofNat vv)), .val (.int (own_bit vv))] [(.int (1 : Int32))])) _
          exact retN X215 hx (t := .boolean) Bd.returns (by simp) (hb hby d5_130) hr
        · show Qstep Z f1 p1 aT aD aS aR aO kD kS kR kO n dist st rch rc opn oc b0 kT h0 n0 _ T215.heap _
          rw [e215]
          exact ⟨dist2_189, st, rch2_189, rc2_189, opn2_189, oc2_189, (b0 ||| own_bit vv), rfl, N215, k212, f216, f234, f235, f236, f237, f238, f214, f239, f240, f241, f242, r213, hW2, hB2⟩
    · skip
      have hi : dist vv ≠ own_inf := fun q => hbt ((hB vv hvv).mpr q)
      have hoc : oc2_189 = oc := by
        rcases x189_11 with ⟨-, -, -, -, -, q⟩ | ⟨-, q, -⟩ | ⟨-, -, -, -, -, -, -, q⟩ | ⟨-, -, -, -, -, -, -, q⟩
        · exact q
        · exact absurd q hi
        · exact q
        · exact q
      have hB2 : own_bits n b0 dist2_189 := own_bits_old (own_finne (Fl.i2d_fin _)) hi hB (by
        rcases x189_11 with ⟨-, q, -⟩ | ⟨-, q, -⟩ | ⟨-, -, -, q, -⟩ | ⟨-, -, -, q, -⟩
        · exact Or.inl q
        · exact absurd q hi
        · exact Or.inr q
        · exact Or.inl q)
      have r243 : Arv Z T189.heap aT kT .int (2 : Int32) [(.int b0), (.int (Int32.ofNat oc2_189))] (.int (0 : Int32)) := (show Arv Z T189.heap aT kT .int (2 : Int32) [(.int b0), (.int (Int32.ofNat oc2_189))] (.int (0 : Int32)) from hoc ▸ f192)
      obtain ⟨cq244, kq244, q244a, q244b, q244c⟩ := isOf hZ rfl x189_0
      obtain ⟨_, _, ⟨T244, L244, kk244, nn244⟩, -, X244, ⟨Lc244, hQ244, l244, y244, z244⟩, st244⟩ := X189.virtualBack hx (y := (⟨"com/example/slotwright/slotwright/exchange/Frontier", "isEmpty", "()Z"⟩ : MethodName)) (z := (⟨"com/example/slotwright/slotwright/exchange/Frontier", "isEmpty", "()Z"⟩ : MethodName)) hown (mvT hZ (hw _ (List.mem_of_getElem? (i := 25) rfl))) (mvT hZ (hw _ (List.mem_of_getElem? (i := 26) rfl))) (notFace_of_selects (args := #[]) (mvT hZ (hw _ (List.mem_of_getElem? (i := 28) rfl)))) (mvT hZ (hw _ (List.mem_of_getElem? (i := 28) rfl))) (mvT hZ (hw _ (List.mem_of_getElem? (i := 27) rfl))) (by decide) (backOf (W := 0) (rmFisEmpty l Z a0 hw [] f1 (Int32.ofNat oc2_189) T189.heap n0 z190 x189_6) hZ (hw _ (List.mem_of_getElem? (i := 29) rfl)) (hw _ (List.mem_of_getElem? (i := 2) rfl)) (by decide) (by decide)) q244a q244c (g := (mkF m 108 #[.val (.ref f1), .val (.int (Int32.ofNat n)), .val (.int p1), .val (.ref aT), .val (.int (p1 &&& (3 : Int32))), .val (.int (Int32.ofNat vv)), .val (.int (own_bit vv))] [(.ref f1)])) rfl (by rw [hml]; rfl) (Steps.refl _) (argsL := []) (rest := []) (lenOf pd__28_29Z rfl) rfl (by show 2 * 0 + _ ≤ _; exact Nat.le_of_eq rfl) (hb hby d5_108) (fun _ _ => ⟨rfl, rfl, (by decide : 0 + 0 ≤ _), (by decide : 0 + 0 ≤ _)⟩)
      dsimp only [Pt.U, Pt.locs, Pt.cells, Pt.slots] at X244 l244 y244 z244 st244 hQ244
      subst l244 y244 z244
      obtain ⟨r_244, rfl, N244q, e244, x244_0, x244_1⟩ := hQ244
      have N244 := Fr.app N189 N244q
      obtain ⟨cl245, Ar245, Q245, S245, M245, H245, G245⟩ := id r243
      have in246 : ¬ ((1 : Int32) < 0 ∨ cl245.slots.size ≤ ((1 : Int32)).toNatClampNeg) := inb_of S245 ⟨by decide, by decide⟩
      have at247 : cl245.slots[((1 : Int32)).toNatClampNeg]? = some (.int (Int32.ofNat oc2_189)) := H245 1 (by rw [S245]; decide)
      have pre248 : ∀ t_, Steps p.tables e below (T244.setTop (mkF m 114 #[.val (.ref f1), .val (.int (Int32.ofNat n)), .val (.int p1), .val (.ref aT), .val (.int (p1 &&& (3 : Int32))), .val (.int (Int32.ofNat vv)), .val (.int (own_bit vv))] [(.int (Int32.ofNat oc2_189)), (.int r_244)])) t_ → Steps p.tables e below (s₁.setTop (entryFrame m #[(.ref f1), (.int (Int32.ofNat n)), (.int p1), (.ref aT)] 7)) t_ := fun t_ kt => pre196 t_ (by
          show Steps p.tables e below (T189.setTop (mkF m 44 #[.val (.ref f1), .val (.int (Int32.ofNat n)), .val (.int p1), .val (.ref aT), .val (.int (p1 &&& (3 : Int32))), .val (.int (Int32.ofNat vv)), .val (.int (own_bit vv))] [(.int (b0 &&& (own_bit vv)))])) _
          refine XS.ifYes X189.here hx rfl (pc0 := 44) (pc' := 64) rfl (hb hby d5_44) rfl ((if0 _ _).trans (feq (hbt : ¬ ((b0 &&& (own_bit vv)) = (0 : Int32)))).2) (by decide) (by decide) ?_
          show Steps p.tables e below (T189.setTop (mkF m 64 #[.val (.ref f1), .val (.int (Int32.ofNat n)), .val (.int p1), .val (.ref aT), .val (.int (p1 &&& (3 : Int32))), .val (.int (Int32.ofNat vv)), .val (.int (own_bit vv))] [])) _
          refine XS.goto X189.here hx rfl (pc0 := 64) (pc' := 107) rfl (hb hby d5_64) (by decide) (by decide) ?_
          show Steps p.tables e below (T189.setTop (mkF m 107 #[.val (.ref f1), .val (.int (Int32.ofNat n)), .val (.int p1), .val (.ref aT), .val (.int (p1 &&& (3 : Int32))), .val (.int (Int32.ofNat vv)), .val (.int (own_bit vv))] [])) _
          refine XS.aloadN X189.here hx rfl (hb hby d5_107) rfl rfl ?_
          show Steps p.tables e below (T189.setTop (mkF m 108 #[.val (.ref f1), .val (.int (Int32.ofNat n)), .val (.int p1), .val (.ref aT), .val (.int (p1 &&& (3 : Int32))), .val (.int (Int32.ofNat vv)), .val (.int (own_bit vv))] [(.ref f1)])) _
          refine st244.trans ?_
          show Steps p.tables e below (T244.setTop (mkF m 111 #[.val (.ref f1), .val (.int (Int32.ofNat n)), .val (.int p1), .val (.ref aT), .val (.int (p1 &&& (3 : Int32))), .val (.int (Int32.ofNat vv)), .val (.int (own_bit vv))] [(.int r_244)])) _
          refine XS.aloadN X244.here hx rfl (hb hby d5_111) rfl rfl ?_
          show Steps p.tables e below (T244.setTop (mkF m 112 #[.val (.ref f1), .val (.int (Int32.ofNat n)), .val (.int p1), .val (.ref aT), .val (.int (p1 &&& (3 : Int32))), .val (.int (Int32.ofNat vv)), .val (.int (own_bit vv))] [(.ref aT), (.int r_244)])) _
          refine XS.iconst X244.here hx rfl (hb hby d5_112) ?_
          show Steps p.tables e below (T244.setTop (mkF m 113 #[.val (.ref f1), .val (.int (Int32.ofNat n)), .val (.int p1), .val (.ref aT), .val (.int (p1 &&& (3 : Int32))), .val (.int (Int32.ofNat vv)), .val (.int (own_bit vv))] [(.int (1 : Int32)), (.ref aT), (.int r_244)])) _
          refine X244.iaload hx (j := (1 : Int32)) (v := (.int (Int32.ofNat oc2_189))) (by rw [e244]; exact Ar245.1) (State.isArrayOf_alike hZ.alike Ar245.2.1) Ar245.2.2 in246 at247 (g := (mkF m 113 #[.val (.ref f1), .val (.int (Int32.ofNat n)), .val (.int p1), .val (.ref aT), .val (.int (p1 &&& (3 : Int32))), .val (.int (Int32.ofNat vv)), .val (.int (own_bit vv))] [(.int (1 : Int32)), (.ref aT), (.int r_244)])) rfl rfl (hb hby d5_113) _ ?_
          exact kt)
      by_cases hz : (Int32.ofNat oc2_189) = (0 : Int32)
      · skip
        have pre249 : ∀ t_, Steps p.tables e below (T244.setTop (mkF m 117 #[.val (.ref f1), .val (.int (Int32.ofNat n)), .val (.int p1), .val (.ref aT), .val (.int (p1 &&& (3 : Int32))), .val (.int (Int32.ofNat vv)), .val (.int (own_bit vv))] [(.int r_244)])) t_ → Steps p.tables e below (s₁.setTop (entryFrame m #[(.ref f1), (.int (Int32.ofNat n)), (.int p1), (.ref aT)] 7)) t_ := fun t_ kt => pre248 t_ (by
            show Steps p.tables e below (T244.setTop (mkF m 114 #[.val (.ref f1), .val (.int (Int32.ofNat n)), .val (.int p1), .val (.ref aT), .val (.int (p1 &&& (3 : Int32))), .val (.int (Int32.ofNat vv)), .val (.int (own_bit vv))] [(.int (Int32.ofNat oc2_189)), (.int r_244)])) _
            refine XS.ifNo X244.here hx rfl (hb hby d5_114) rfl ((if0 _ _).trans (teq (hz : (Int32.ofNat oc2_189) = (0 : Int32))).2) ?_
            exact kt)
        obtain rfl : r_244 = (1 : Int32) := x244_0 hz
        have pre250 : ∀ t_, Steps p.tables e below (T244.setTop (mkF m 130 #[.val (.ref f1), .val (.int (Int32.ofNat n)), .val (.int p1), .val (.ref aT), .val (.int (p1 &&& (3 : Int32))), .val (.int (Int32.ofNat vv)), .val (.int (own_bit vv))] [(.int (1 : Int32))])) t_ → Steps p.tables e below (s₁.setTop (entryFrame m #[(.ref f1), (.int (Int32.ofNat n)), (.int p1), (.ref aT)] 7)) t_ := fun t_ kt => pre249 t_ (by
            show Steps p.tables e below (T244.setTop (mkF m 117 #[.val (.ref f1), .val (.int (Int32.ofNat n)), .val (.int p1), .val (.ref aT), .val (.int (p1 &&& (3 : Int32))), .val (.int (Int32.ofNat vv)), .val (.int (own_bit vv))] [(.int (1 : Int32))])) _
            refine XS.iconst X244.here hx rfl (hb hby d5_117) ?_
            show Steps p.tables e below (T244.setTop (mkF m 118 #[.val (.ref f1), .val (.int (Int32.ofNat n)), .val (.int p1), .val (.ref aT), .val (.int (p1 &&& (3 : Int32))), .val (.int (Int32.ofNat vv)), .val (.int (own_bit vv))] [(.int (1 : Int32)), (.int (1 : Int32))])) _
            refine XS.goto X244.here hx rfl (pc0 := 118) (pc' := 122) rfl (hb hby d5_118) (by decide) (by decide) ?_
            show Steps p.tables e below (T244.setTop (mkF m 122 #[.val (.ref f1), .val (.int (Int32.ofNat n)), .val (.int p1), .val (.ref aT), .val (.int (p1 &&& (3 : Int32))), .val (.int (Int32.ofNat vv)), .val (.int (own_bit vv))] [(.int (1 : Int32)), (.int (1 : Int32))])) _
            refine XS.icmpNo X244.here hx rfl (hb hby d5_122) rfl (teq ((by decide) : (1 : Int32) = (1 : Int32))).2 ?_
            show Steps p.tables e below (T244.setTop (mkF m 125 #[.val (.ref f1), .val (.int (Int32.ofNat n)), .val (.int p1), .val (.ref aT), .val (.int (p1 &&& (3 : Int32))), .val (.int (Int32.ofNat vv)), .val (.int (own_bit vv))] [])) _
            refine XS.iconst X244.here hx rfl (hb hby d5_125) ?_
            show Steps p.tables e below (T244.setTop (mkF m 126 #[.val (.ref f1), .val (.int (Int32.ofNat n)), .val (.int p1), .val (.ref aT), .val (.int (p1 &&& (3 : Int32))), .val (.int (Int32.ofNat vv)), .val (.int (own_bit vv))] [(.int (1 : Int32))])) _
            refine XS.goto X244.here hx rfl (pc0 := 126) (pc' := 130) rfl (hb hby d5_126) (by decide) (by decide) ?_
            exact kt)
        obtain ⟨fs, hr, hrun, hended, hW, hsame⟩ := X244.leave (v := some (.int (1 : Int32))) (fun h => by rw [Bd.returns] at h; cases h)
        refine ⟨_, _, pre250 _ ?_, hrun, hended, _, _, rfl, ?_, ⟨_, rfl⟩, hW, hsame.mono (by decide) (by decide)⟩
        · show Steps p.tables e below (T244.setTop (mkF m 130 #[.val (.ref f1), .val (.int (Int32.ofNat n)), .val (.int p1), .val (.ref aT), .val (.int (p1 &&& (3 : Int32))), .val (.int (Int32.ofNat vv)), .val (.int (own_bit vv))] [(.int (1 : Int32))])) _
          exact retN X244 hx (t := .boolean) Bd.returns (by simp) (hb hby d5_130) hr
        · show Qstep Z f1 p1 aT aD aS aR aO kD kS kR kO n dist st rch rc opn oc b0 kT h0 n0 _ T244.heap _
          rw [e244]
          exact ⟨dist2_189, st, rch2_189, rc2_189, opn2_189, oc2_189, b0, rfl, N244, k191, x189_0, x189_1, x189_2, x189_3, x189_4, x189_5, x189_6, x189_7, x189_8, x189_9, x189_10, r243, hW2, hB2⟩
      · skip
        have pre251 : ∀ t_, Steps p.tables e below (T244.setTop (mkF m 121 #[.val (.ref f1), .val (.int (Int32.ofNat n)), .val (.int p1), .val (.ref aT), .val (.int (p1 &&& (3 : Int32))), .val (.int (Int32.ofNat vv)), .val (.int (own_bit vv))] [(.int r_244)])) t_ → Steps p.tables e below (s₁.setTop (entryFrame m #[(.ref f1), (.int (Int32.ofNat n)), (.int p1), (.ref aT)] 7)) t_ := fun t_ kt => pre248 t_ (by
            show Steps p.tables e below (T244.setTop (mkF m 114 #[.val (.ref f1), .val (.int (Int32.ofNat n)), .val (.int p1), .val (.ref aT), .val (.int (p1 &&& (3 : Int32))), .val (.int (Int32.ofNat vv)), .val (.int (own_bit vv))] [(.int (Int32.ofNat oc2_189)), (.int r_244)])) _
            refine XS.ifYes X244.here hx rfl (pc0 := 114) (pc' := 121) rfl (hb hby d5_114) rfl ((if0 _ _).trans (feq (hz : ¬ ((Int32.ofNat oc2_189) = (0 : Int32)))).2) (by decide) (by decide) ?_
            exact kt)
        obtain rfl : r_244 = (0 : Int32) := x244_1 hz
        have pre252 : ∀ t_, Steps p.tables e below (T244.setTop (mkF m 130 #[.val (.ref f1), .val (.int (Int32.ofNat n)), .val (.int p1), .val (.ref aT), .val (.int (p1 &&& (3 : Int32))), .val (.int (Int32.ofNat vv)), .val (.int (own_bit vv))] [(.int (1 : Int32))])) t_ → Steps p.tables e below (s₁.setTop (entryFrame m #[(.ref f1), (.int (Int32.ofNat n)), (.int p1), (.ref aT)] 7)) t_ := fun t_ kt => pre251 t_ (by
            show Steps p.tables e below (T244.setTop (mkF m 121 #[.val (.ref f1), .val (.int (Int32.ofNat n)), .val (.int p1), .val (.ref aT), .val (.int (p1 &&& (3 : Int32))), .val (.int (Int32.ofNat vv)), .val (.int (own_bit vv))] [(.int (0 : Int32))])) _
            refine XS.iconst X244.here hx rfl (hb hby d5_121) ?_
            show Steps p.tables e below (T244.setTop (mkF m 122 #[.val (.ref f1), .val (.int (Int32.ofNat n)), .val (.int p1), .val (.ref aT), .val (.int (p1 &&& (3 : Int32))), .val (.int (Int32.ofNat vv)), .val (.int (own_bit vv))] [(.int (0 : Int32)), (.int (0 : Int32))])) _
            refine XS.icmpNo X244.here hx rfl (hb hby d5_122) rfl (teq ((by decide) : (0 : Int32) = (0 : Int32))).2 ?_
            show Steps p.tables e below (T244.setTop (mkF m 125 #[.val (.ref f1), .val (.int (Int32.ofNat n)), .val (.int p1), .val (.ref aT), .val (.int (p1 &&& (3 : Int32))), .val (.int (Int32.ofNat vv)), .val (.int (own_bit vv))] [])) _
            refine XS.iconst X244.here hx rfl (hb hby d5_125) ?_
            show Steps p.tables e below (T244.setTop (mkF m 126 #[.val (.ref f1), .val (.int (Int32.ofNat n)), .val (.int p1), .val (.ref aT), .val (.int (p1 &&& (3 : Int32))), .val (.int (Int32.ofNat vv)), .val (.int (own_bit vv))] [(.int (1 : Int32))])) _
            refine XS.goto X244.here hx rfl (pc0 := 126) (pc' := 130) rfl (hb hby d5_126) (by decide) (by decide) ?_
            exact kt)
        obtain ⟨fs, hr, hrun, hended, hW, hsame⟩ := X244.leave (v := some (.int (1 : Int32))) (fun h => by rw [Bd.returns] at h; cases h)
        refine ⟨_, _, pre252 _ ?_, hrun, hended, _, _, rfl, ?_, ⟨_, rfl⟩, hW, hsame.mono (by decide) (by decide)⟩
        · show Steps p.tables e below (T244.setTop (mkF m 130 #[.val (.ref f1), .val (.int (Int32.ofNat n)), .val (.int p1), .val (.ref aT), .val (.int (p1 &&& (3 : Int32))), .val (.int (Int32.ofNat vv)), .val (.int (own_bit vv))] [(.int (1 : Int32))])) _
          exact retN X244 hx (t := .boolean) Bd.returns (by simp) (hb hby d5_130) hr
        · show Qstep Z f1 p1 aT aD aS aR aO kD kS kR kO n dist st rch rc opn oc b0 kT h0 n0 _ T244.heap _
          rw [e244]
          exact ⟨dist2_189, st, rch2_189, rc2_189, opn2_189, oc2_189, b0, rfl, N244, k191, x189_0, x189_1, x189_2, x189_3, x189_4, x189_5, x189_6, x189_7, x189_8, x189_9, x189_10, r243, hW2, hB2⟩
theorem ef_0 (m : MethodId) (p1 : Int32) (p2 : Int32) (p3 : Int32) (p4 : Int32) (p5 : Int32) : entryFrame m #[(.int p1), (.int p2), (.int p3), (.int p4), (.int p5)] maxLocals = mkF m 0 #[.val (.int p1), .val (.int p2), .val (.int p3), .val (.int p4), .val (.int p5), .unset, .unset, .unset, .unset] [] := by first | (simp [entryFrame, mkF, argsToLocals, Value.category, maxLocals]; done) | rfl
theorem pd__28I_29V : parseMethodDescriptor "(I)V" = some ⟨[.int], none⟩ := by decide +kernel
theorem pd__28Lcom_2fexample_2fslotwright_2fslotwright_2fexchange_2fFrontier_3bII_5bI_29Z : parseMethodDescriptor "(Lcom/example/slotwright/slotwright/exchange/Frontier;II[I)Z" = some ⟨[(.object "com/example/slotwright/slotwright/exchange/Frontier"), .int, .int, (.array .int)], some .boolean⟩ := by decide +kernel
def Q0 (Z : State) (p1 : Int32) (p2 : Int32) (p3 : Int32) (p4 : Int32) (p5 : Int32) (h0 : Heap) (n0 : Nat) (v : Option Value) (h : Heap) (L : List Loc) : Prop := v = some (.int (1 : Int32)) ∧ Fr n0 L
set_option maxRecDepth 65536 in
set_option maxHeartbeats 40000000 in
theorem rm0 (l : Launch) (Z : State) (a0 : Array Value) (hw : ∀ d ∈ tables_1, d.before a0 Z = true) (ws : List Jvm.Cond) (p1 : Int32) (p2 : Int32) (p3 : Int32) (p4 : Int32) (p5 : Int32) (h0 : Heap) (n0 : Nat) (Z0 : n0 ≤ h0.size) :
    MetFree l x (head1 (Jvm.Cond.code x code maxLocals ret :: ws) room_1) (fun a U => a = #[(.int p1), (.int p2), (.int p3), (.int p4), (.int p5)] ∧ Z.Warmed39 U.vm ∧ U.heap = h0) (fun _ _ _ _ _ => True) (fun _ U o U' => ∃ v L, o = .returned v ∧ Q0 Z p1 p2 p3 p4 p5 h0 n0 v U'.heap L ∧ FrameEnd U o U' L 24 128) := by
  refine MetFree.of_bodySF (plainFor_of_name pn_com_example_slotwright_slotwright_exchange_FrontierIsEmptyPinLaw) hisR ?_
  intro p e s m args below meth c s₁ Bd hml0 hP hK
  obtain ⟨rfl, hZ, hh⟩ := hP
  have hx := Bd.exec
  have hby := Bd.bytes
  have hml : c.maxLocals = 9 := hml0
  have hown : s.vm.findClass "com/example/slotwright/slotwright/exchange/FrontierIsEmptyPinLaw" = some m.cls := findClass_of_methodNamed Bd.named
  have hnm := (name_of_methodNamed Bd.named Bd.method).1
  have X0 : Stand p l e room_1 s m #[(.int p1), (.int p2), (.int p3), (.int p4), (.int p5)] below meth c s₁ [] 0 0 := Stand.of_body Bd
  have e0 : s₁.heap = h0 := by rw [← hh, Bd.state]; rfl
  have N0 := Fr.nil n0
  have pre0 : ∀ t_, Steps p.tables e below (s₁.setTop (mkF m 0 #[.val (.int p1), .val (.int p2), .val (.int p3), .val (.int p4), .val (.int p5), .unset, .unset, .unset, .unset] [])) t_ → Steps p.tables e below (s₁.setTop (entryFrame m #[(.int p1), (.int p2), (.int p3), (.int p4), (.int p5)] maxLocals)) t_ := fun t_ k => castTop (ef_0 m p1 p2 p3 p4 p5) k
  obtain ⟨n, h1, hn, en⟩ := own_n4 p1
  obtain ⟨T101, h101, X101, e101, E101, A101, D101, -, st101⟩ := newO X0 hx hZ hown (hw _ (List.mem_of_getElem? (i := 0) rfl)) (hw _ (List.mem_of_getElem? (i := 1) rfl)) (hw _ (List.mem_of_getElem? (i := 2) rfl)) e0 (g := (mkF m 7 #[.val (.int p1), .val (.int p2), .val (.int p3), .val (.int p4), .val (.int p5), .val (.int (Int32.ofNat n)), .unset, .unset, .unset] [])) rfl (hb hby at_7) (by decide) (by decide)
  obtain ⟨b101, g101⟩ : ∃ z, z = h0.size := ⟨_, rfl⟩
  rw [← g101] at A101 D101 st101
  have g_b101 : n0 ≤ b101 := Nat.le_trans Z0 (Nat.le_of_eq g101.symm)
  have z102 : n0 ≤ h101.size := Nat.le_trans Z0 E101.1
  have F101_11 : Fld Z h101 b101 "com/example/slotwright/slotwright/exchange/Frontier" "distance" "[D" .null := D101 (Or.inr (hw _ (List.mem_of_getElem? (i := 11) rfl))) (ty := (.array .double)) (by decide)
  have F101_19 : Fld Z h101 b101 "com/example/slotwright/slotwright/exchange/Frontier" "settled" "[Z" .null := D101 (Or.inr (hw _ (List.mem_of_getElem? (i := 19) rfl))) (ty := (.array .boolean)) (by decide)
  have F101_22 : Fld Z h101 b101 "com/example/slotwright/slotwright/exchange/Frontier" "reached" "[I" .null := D101 (Or.inr (hw _ (List.mem_of_getElem? (i := 22) rfl))) (ty := (.array .int)) (by decide)
  have F101_24 : Fld Z h101 b101 "com/example/slotwright/slotwright/exchange/Frontier" "open" "[I" .null := D101 (Or.inr (hw _ (List.mem_of_getElem? (i := 24) rfl))) (ty := (.array .int)) (by decide)
  have F101_31 : Fld Z h101 b101 "com/example/slotwright/slotwright/exchange/Frontier" "openCount" "I" (.int (0 : Int32)) := D101 (Or.inl (hw _ (List.mem_of_getElem? (i := 31) rfl))) (ty := .int) (by decide)
  have F101_42 : Fld Z h101 b101 "com/example/slotwright/slotwright/exchange/Frontier" "reachedCount" "I" (.int (0 : Int32)) := D101 (Or.inl (hw _ (List.mem_of_getElem? (i := 42) rfl))) (ty := .int) (by decide)
  obtain ⟨_, _, ⟨T103, L103, kk103, nn103⟩, -, X103, ⟨Lc103, hQ103, l103, y103, z103⟩, st103⟩ := X101.specialBack hx (y := (⟨"com/example/slotwright/slotwright/exchange/Frontier", "<init>", "(I)V"⟩ : MethodName)) rfl hown (mvT hZ (hw _ (List.mem_of_getElem? (i := 3) rfl))) (mvT hZ (hw _ (List.mem_of_getElem? (i := 4) rfl))) (mvT hZ (hw _ (List.mem_of_getElem? (i := 5) rfl))) (by decide) (backOf (W := 1) (rmFinit l Z a0 hw [] b101 n h101 n0 z102 A101 g_b101 (hn) F101_11 F101_19 F101_22 F101_24 F101_42 F101_31) hZ (hw _ (List.mem_of_getElem? (i := 5) rfl)) (hw _ (List.mem_of_getElem? (i := 2) rfl)) (by decide) (by decide)) (g := (mkF m 13 #[.val (.int p1), .val (.int p2), .val (.int p3), .val (.int p4), .val (.int p5), .val (.int (Int32.ofNat n)), .unset, .unset, .unset] [(.int (Int32.ofNat n)), (.ref b101), (.ref b101)])) rfl (by rw [hml]; rfl) (Steps.refl _) (a := b101) (argsL := [(.int (Int32.ofNat n))]) (rest := [(.ref b101)]) (lenOf pd__28I_29V rfl) rfl (by show 2 * 0 + _ ≤ _; exact Nat.le_of_eq rfl) (hb hby at_13) (fun _ _ => ⟨rfl, e101, (by decide : 1 + 4 ≤ _), (by decide : 6 + 16 ≤ _)⟩)
  dsimp only [Pt.U, Pt.locs, Pt.cells, Pt.slots] at X103 l103 y103 z103 st103 hQ103
  subst l103 y103 z103
  obtain ⟨aD_103, aS_103, aR_103, aO_103, kD_103, kS_103, kR_103, kO_103, rfl, N103q, K103, x103_0, x103_1, x103_2, x103_3, x103_4, x103_5, x103_6, x103_7, x103_8, x103_9, x103_10, x103_11, x103_12, x103_13, x103_14, x103_15, x103_16, x103_17, x103_18, x103_19, x103_20⟩ := hQ103
  have N103 := Fr.app N0 N103q
  have ne104 : b101 ≠ aD_103 := Nat.ne_of_lt (Nat.lt_of_lt_of_le A101.lt x103_11)
  have g_aD_103 : n0 ≤ aD_103 := Nat.le_trans z102 x103_11
  have ne105 : b101 ≠ aS_103 := Nat.ne_of_lt (Nat.lt_of_lt_of_le A101.lt x103_12)
  have g_aS_103 : n0 ≤ aS_103 := Nat.le_trans z102 x103_12
  have ne106 : b101 ≠ aR_103 := Nat.ne_of_lt (Nat.lt_of_lt_of_le A101.lt x103_13)
  have g_aR_103 : n0 ≤ aR_103 := Nat.le_trans z102 x103_13
  have ne107 : b101 ≠ aO_103 := Nat.ne_of_lt (Nat.lt_of_lt_of_le A101.lt x103_14)
  have g_aO_103 : n0 ≤ aO_103 := Nat.le_trans z102 x103_14
  have z108 : n0 ≤ T103.heap.size := Nat.le_trans z102 K103.1
  obtain ⟨T109, h109, k109, X109, e109, E109, A109, st109⟩ := newP X103 hx hZ (hw _ (List.mem_of_getElem? (i := 20) rfl)) rfl (g := (mkF m 19 #[.val (.int p1), .val (.int p2), .val (.int p3), .val (.int p4), .val (.int p5), .val (.int (Int32.ofNat n)), .val (.ref b101), .unset, .unset] [(.int (2 : Int32))])) rfl (hb hby at_19) rfl (by decide) (cap := 2) (by decide) (by decide) (by decide) (by decide)
  obtain ⟨b109, g109⟩ : ∃ z, z = T103.heap.size := ⟨_, rfl⟩
  rw [← g109] at A109 st109
  have ne110 : b101 ≠ b109 := Nat.ne_of_lt (Nat.lt_of_lt_of_le x103_0.lt (Nat.le_of_eq g109.symm))
  have ne111 : aD_103 ≠ b109 := Nat.ne_of_lt (Nat.lt_of_lt_of_le x103_7.lt (Nat.le_of_eq g109.symm))
  have ne112 : aS_103 ≠ b109 := Nat.ne_of_lt (Nat.lt_of_lt_of_le x103_8.lt (Nat.le_of_eq g109.symm))
  have ne113 : aR_103 ≠ b109 := Nat.ne_of_lt (Nat.lt_of_lt_of_le x103_9.lt (Nat.le_of_eq g109.symm))
  have ne114 : aO_103 ≠ b109 := Nat.ne_of_lt (Nat.lt_of_lt_of_le x103_10.lt (Nat.le_of_eq g109.symm))
  have g_b109 : n0 ≤ b109 := Nat.le_trans z108 (Nat.le_of_eq g109.symm)
  have z115 : n0 ≤ h109.size := Nat.le_trans z108 E109.1
  have V109 : Arv Z h109 b109 k109 .int (2 : Int32) [(.int (0 : Int32)), (.int (0 : Int32))] (.int (0 : Int32)) := (Arv.new A109 (by decide)).pad (pad_rep [] (.int (0 : Int32)) 2)
  have f116 : Fld Z h109 b101 "com/example/slotwright/slotwright/exchange/Frontier" "openCount" "I" (.int (Int32.ofNat 0)) := (x103_6.ext E109)
  have f118 : Exa Z h109 b101 "com/example/slotwright/slotwright/exchange/Frontier" := (x103_0.ext E109)
  obtain ⟨cq117, kq117, q117a, q117b, q117c⟩ := isOf hZ e109 f118
  obtain ⟨_, _, ⟨T117, L117, kk117, nn117⟩, -, X117, ⟨Lc117, hQ117, l117, y117, z117⟩, st117⟩ := X109.virtualBack hx (y := (⟨"com/example/slotwright/slotwright/exchange/Frontier", "isEmpty", "()Z"⟩ : MethodName)) (z := (⟨"com/example/slotwright/slotwright/exchange/Frontier", "isEmpty", "()Z"⟩ : MethodName)) hown (mvT hZ (hw _ (List.mem_of_getElem? (i := 25) rfl))) (mvT hZ (hw _ (List.mem_of_getElem? (i := 26) rfl))) (notFace_of_selects (args := #[]) (mvT hZ (hw _ (List.mem_of_getElem? (i := 28) rfl)))) (mvT hZ (hw _ (List.mem_of_getElem? (i := 28) rfl))) (mvT hZ (hw _ (List.mem_of_getElem? (i := 27) rfl))) (by decide) (backOf (W := 0) (rmFisEmpty l Z a0 hw [] b101 (Int32.ofNat 0) h109 n0 z115 f116) hZ (hw _ (List.mem_of_getElem? (i := 29) rfl)) (hw _ (List.mem_of_getElem? (i := 2) rfl)) (by decide) (by decide)) q117a q117c (g := (mkF m 25 #[.val (.int p1), .val (.int p2), .val (.int p3), .val (.int p4), .val (.int p5), .val (.int (Int32.ofNat n)), .val (.ref b101), .val (.ref b109), .unset] [(.ref b101)])) rfl (by rw [hml]; rfl) (Steps.refl _) (argsL := []) (rest := []) (lenOf pd__28_29Z rfl) rfl (by show 2 * 0 + _ ≤ _; exact Nat.le_of_eq rfl) (hb hby at_25) (fun _ _ => ⟨rfl, e109, (by decide : 6 + 0 ≤ _), (by decide : 24 + 0 ≤ _)⟩)
  dsimp only [Pt.U, Pt.locs, Pt.cells, Pt.slots] at X117 l117 y117 z117 st117 hQ117
  subst l117 y117 z117
  obtain ⟨r_117, rfl, N117q, e117, x117_0, x117_1⟩ := hQ117
  have N117 := Fr.app N103 N117q
  obtain rfl : r_117 = (1 : Int32) := x117_0 rfl
  have f119 : Fld Z h109 b101 "com/example/slotwright/slotwright/exchange/Frontier" "distance" "[D" (.ref aD_103) := (x103_1.ext E109)
  have f120 : Fld Z h109 b101 "com/example/slotwright/slotwright/exchange/Frontier" "settled" "[Z" (.ref aS_103) := (x103_2.ext E109)
  have f121 : Fld Z h109 b101 "com/example/slotwright/slotwright/exchange/Frontier" "reached" "[I" (.ref aR_103) := (x103_3.ext E109)
  have f122 : Fld Z h109 b101 "com/example/slotwright/slotwright/exchange/Frontier" "open" "[I" (.ref aO_103) := (x103_4.ext E109)
  have f123 : Fld Z h109 b101 "com/example/slotwright/slotwright/exchange/Frontier" "reachedCount" "I" (.int (Int32.ofNat 0)) := (x103_5.ext E109)
  have f124 : Arv Z h109 aD_103 kD_103 .double (Int32.ofNat n) (own_LD (fun _ => own_inf) n) (.double (0 : UInt64)) := (x103_7.ext E109)
  have f125 : Arv Z h109 aS_103 kS_103 .boolean (Int32.ofNat n) (own_LZ (fun _ => 0) n) (.int (0 : Int32)) := (x103_8.ext E109)
  have f126 : Arv Z h109 aR_103 kR_103 .int (Int32.ofNat n) (own_LN (fun _ => 0) n) (.int (0 : Int32)) := (x103_9.ext E109)
  have f127 : Arv Z h109 aO_103 kO_103 .int (Int32.ofNat n) (own_LN (fun _ => 0) n) (.int (0 : Int32)) := (x103_10.ext E109)
  obtain ⟨_, _, ⟨T128, L128, kk128, nn128⟩, -, X128, ⟨Lc128, hQ128, l128, y128, z128⟩, st128⟩ := Jvm.LawKit.callS X117 hx (y := (⟨"com/example/slotwright/slotwright/exchange/FrontierIsEmptyPinLaw", "step", "(Lcom/example/slotwright/slotwright/exchange/Frontier;II[I)Z"⟩ : MethodName)) hown (mvT hZ (hw _ (List.mem_of_getElem? (i := 32) rfl))) (mvT hZ (hw _ (List.mem_of_getElem? (i := 33) rfl))) (mvT hZ (hw _ (List.mem_of_getElem? (i := 34) rfl))) (mvT hZ (hw _ (List.mem_of_getElem? (i := 35) rfl))) (by decide) (backOf (W := 0) (rmstep l Z a0 hw [] b101 p2 b109 aD_103 aS_103 aR_103 aO_103 kD_103 kS_103 kR_103 kO_103 n (fun _ => own_inf) (fun _ => 0) (fun _ => 0) 0 (fun _ => 0) 0 (0 : Int32) k109 h109 n0 z115 f118 f119 f120 f121 f122 f123 f116 f124 f125 f126 f127 V109 ne104 ne105 ne106 ne107 x103_15 x103_16 x103_17 x103_18 x103_19 x103_20 ne110 ne111 ne112 ne113 ne114 g_b101 g_aD_103 g_aS_103 g_aR_103 g_aO_103 g_b109 (hn) (h1) (own_WF_start n) (own_bits_zero (fun _ _ => rfl))) hZ (hw _ (List.mem_of_getElem? (i := 35) rfl)) (hw _ (List.mem_of_getElem? (i := 34) rfl)) (by decide) (by decide)) (g := (mkF m 37 #[.val (.int p1), .val (.int p2), .val (.int p3), .val (.int p4), .val (.int p5), .val (.int (Int32.ofNat n)), .val (.ref b101), .val (.ref b109), .val (.int (1 : Int32))] [(.ref b109), (.int p2), (.int (Int32.ofNat n)), (.ref b101)])) rfl (by rw [hml]; rfl) (argsL := [(.ref b101), (.int (Int32.ofNat n)), (.int p2), (.ref b109)]) (rest := []) (lenOf pd__28Lcom_2fexample_2fslotwright_2fslotwright_2fexchange_2fFrontier_3bII_5bI_29Z rfl) rfl (by show 2 * 0 + _ ≤ _; exact Nat.le_of_eq rfl) (hb hby at_37) (fun _ _ => ⟨rfl, e117, (by decide : 6 + 0 ≤ _), (by decide : 24 + 0 ≤ _)⟩)
  dsimp only [Pt.U, Pt.locs, Pt.cells, Pt.slots] at X128 l128 y128 z128 st128 hQ128
  subst l128 y128 z128
  obtain ⟨dist2_128, st2_128, rch2_128, rc2_128, opn2_128, oc2_128, b2_128, rfl, N128q, K128, x128_0, x128_1, x128_2, x128_3, x128_4, x128_5, x128_6, x128_7, x128_8, x128_9, x128_10, x128_11, x128_12, x128_13⟩ := hQ128
  have N128 := Fr.app N117 N128q
  have z129 : n0 ≤ T128.heap.size := Nat.le_trans z115 K128.1
  obtain ⟨_, _, ⟨T130, L130, kk130, nn130⟩, -, X130, ⟨Lc130, hQ130, l130, y130, z130⟩, st130⟩ := Jvm.LawKit.callS X128 hx (y := (⟨"com/example/slotwright/slotwright/exchange/FrontierIsEmptyPinLaw", "step", "(Lcom/example/slotwright/slotwright/exchange/Frontier;II[I)Z"⟩ : MethodName)) hown (mvT hZ (hw _ (List.mem_of_getElem? (i := 32) rfl))) (mvT hZ (hw _ (List.mem_of_getElem? (i := 33) rfl))) (mvT hZ (hw _ (List.mem_of_getElem? (i := 34) rfl))) (mvT hZ (hw _ (List.mem_of_getElem? (i := 35) rfl))) (by decide) (backOf (W := 0) (rmstep l Z a0 hw [] b101 p3 b109 aD_103 aS_103 aR_103 aO_103 kD_103 kS_103 kR_103 kO_103 n dist2_128 st2_128 rch2_128 rc2_128 opn2_128 oc2_128 b2_128 k109 T128.heap n0 z129 x128_0 x128_1 x128_2 x128_3 x128_4 x128_5 x128_6 x128_7 x128_8 x128_9 x128_10 x128_11 ne104 ne105 ne106 ne107 x103_15 x103_16 x103_17 x103_18 x103_19 x103_20 ne110 ne111 ne112 ne113 ne114 g_b101 g_aD_103 g_aS_103 g_aR_103 g_aO_103 g_b109 (hn) (h1) (x128_12) (x128_13)) hZ (hw _ (List.mem_of_getElem? (i := 35) rfl)) (hw _ (List.mem_of_getElem? (i := 34) rfl)) (by decide) (by decide)) (g := (mkF m 62 #[.val (.int p1), .val (.int p2), .val (.int p3), .val (.int p4), .val (.int p5), .val (.int (Int32.ofNat n)), .val (.ref b101), .val (.ref b109), .val (.int (1 : Int32))] [(.ref b109), (.int p3), (.int (Int32.ofNat n)), (.ref b101)])) rfl (by rw [hml]; rfl) (argsL := [(.ref b101), (.int (Int32.ofNat n)), (.int p3), (.ref b109)]) (rest := []) (lenOf pd__28Lcom_2fexample_2fslotwright_2fslotwright_2fexchange_2fFrontier_3bII_5bI_29Z rfl) rfl (by show 2 * 0 + _ ≤ _; exact Nat.le_of_eq rfl) (hb hby at_62) (fun _ _ => ⟨rfl, rfl, (by decide : 6 + 0 ≤ _), (by decide : 24 + 0 ≤ _)⟩)
  dsimp only [Pt.U, Pt.locs, Pt.cells, Pt.slots] at X130 l130 y130 z130 st130 hQ130
  subst l130 y130 z130
  obtain ⟨dist2_130, st2_130, rch2_130, rc2_130, opn2_130, oc2_130, b2_130, rfl, N130q, K130, x130_0, x130_1, x130_2, x130_3, x130_4, x130_5, x130_6, x130_7, x130_8, x130_9, x130_10, x130_11, x130_12, x130_13⟩ := hQ130
  have N130 := Fr.app N128 N130q
  have z131 : n0 ≤ T130.heap.size := Nat.le_trans z129 K130.1
  obtain ⟨_, _, ⟨T132, L132, kk132, nn132⟩, -, X132, ⟨Lc132, hQ132, l132, y132, z132⟩, st132⟩ := Jvm.LawKit.callS X130 hx (y := (⟨"com/example/slotwright/slotwright/exchange/FrontierIsEmptyPinLaw", "step", "(Lcom/example/slotwright/slotwright/exchange/Frontier;II[I)Z"⟩ : MethodName)) hown (mvT hZ (hw _ (List.mem_of_getElem? (i := 32) rfl))) (mvT hZ (hw _ (List.mem_of_getElem? (i := 33) rfl))) (mvT hZ (hw _ (List.mem_of_getElem? (i := 34) rfl))) (mvT hZ (hw _ (List.mem_of_getElem? (i := 35) rfl))) (by decide) (backOf (W := 0) (rmstep l Z a0 hw [] b101 p4 b109 aD_103 aS_103 aR_103 aO_103 kD_103 kS_103 kR_103 kO_103 n dist2_130 st2_130 rch2_130 rc2_130 opn2_130 oc2_130 b2_130 k109 T130.heap n0 z131 x130_0 x130_1 x130_2 x130_3 x130_4 x130_5 x130_6 x130_7 x130_8 x130_9 x130_10 x130_11 ne104 ne105 ne106 ne107 x103_15 x103_16 x103_17 x103_18 x103_19 x103_20 ne110 ne111 ne112 ne113 ne114 g_b101 g_aD_103 g_aS_103 g_aR_103 g_aO_103 g_b109 (hn) (h1) (x130_12) (x130_13)) hZ (hw _ (List.mem_of_getElem? (i := 35) rfl)) (hw _ (List.mem_of_getElem? (i := 34) rfl)) (by decide) (by decide)) (g := (mkF m 87 #[.val (.int p1), .val (.int p2), .val (.int p3), .val (.int p4), .val (.int p5), .val (.int (Int32.ofNat n)), .val (.ref b101), .val (.ref b109), .val (.int (1 : Int32))] [(.ref b109), (.int p4), (.int (Int32.ofNat n)), (.ref b101)])) rfl (by rw [hml]; rfl) (argsL := [(.ref b101), (.int (Int32.ofNat n)), (.int p4), (.ref b109)]) (rest := []) (lenOf pd__28Lcom_2fexample_2fslotwright_2fslotwright_2fexchange_2fFrontier_3bII_5bI_29Z rfl) rfl (by show 2 * 0 + _ ≤ _; exact Nat.le_of_eq rfl) (hb hby at_87) (fun _ _ => ⟨rfl, rfl, (by decide : 6 + 0 ≤ _), (by decide : 24 + 0 ≤ _)⟩)
  dsimp only [Pt.U, Pt.locs, Pt.cells, Pt.slots] at X132 l132 y132 z132 st132 hQ132
  subst l132 y132 z132
  obtain ⟨dist2_132, st2_132, rch2_132, rc2_132, opn2_132, oc2_132, b2_132, rfl, N132q, K132, x132_0, x132_1, x132_2, x132_3, x132_4, x132_5, x132_6, x132_7, x132_8, x132_9, x132_10, x132_11, x132_12, x132_13⟩ := hQ132
  have N132 := Fr.app N130 N132q
  have z133 : n0 ≤ T132.heap.size := Nat.le_trans z131 K132.1
  obtain ⟨_, _, ⟨T134, L134, kk134, nn134⟩, -, X134, ⟨Lc134, hQ134, l134, y134, z134⟩, st134⟩ := Jvm.LawKit.callS X132 hx (y := (⟨"com/example/slotwright/slotwright/exchange/FrontierIsEmptyPinLaw", "step", "(Lcom/example/slotwright/slotwright/exchange/Frontier;II[I)Z"⟩ : MethodName)) hown (mvT hZ (hw _ (List.mem_of_getElem? (i := 32) rfl))) (mvT hZ (hw _ (List.mem_of_getElem? (i := 33) rfl))) (mvT hZ (hw _ (List.mem_of_getElem? (i := 34) rfl))) (mvT hZ (hw _ (List.mem_of_getElem? (i := 35) rfl))) (by decide) (backOf (W := 0) (rmstep l Z a0 hw [] b101 p5 b109 aD_103 aS_103 aR_103 aO_103 kD_103 kS_103 kR_103 kO_103 n dist2_132 st2_132 rch2_132 rc2_132 opn2_132 oc2_132 b2_132 k109 T132.heap n0 z133 x132_0 x132_1 x132_2 x132_3 x132_4 x132_5 x132_6 x132_7 x132_8 x132_9 x132_10 x132_11 ne104 ne105 ne106 ne107 x103_15 x103_16 x103_17 x103_18 x103_19 x103_20 ne110 ne111 ne112 ne113 ne114 g_b101 g_aD_103 g_aS_103 g_aR_103 g_aO_103 g_b109 (hn) (h1) (x132_12) (x132_13)) hZ (hw _ (List.mem_of_getElem? (i := 35) rfl)) (hw _ (List.mem_of_getElem? (i := 34) rfl)) (by decide) (by decide)) (g := (mkF m 113 #[.val (.int p1), .val (.int p2), .val (.int p3), .val (.int p4), .val (.int p5), .val (.int (Int32.ofNat n)), .val (.ref b101), .val (.ref b109), .val (.int (1 : Int32))] [(.ref b109), (.int p5), (.int (Int32.ofNat n)), (.ref b101)])) rfl (by rw [hml]; rfl) (argsL := [(.ref b101), (.int (Int32.ofNat n)), (.int p5), (.ref b109)]) (rest := []) (lenOf pd__28Lcom_2fexample_2fslotwright_2fslotwright_2fexchange_2fFrontier_3bII_5bI_29Z rfl) rfl (by show 2 * 0 + _ ≤ _; exact Nat.le_of_eq rfl) (hb hby at_113) (fun _ _ => ⟨rfl, rfl, (by decide : 6 + 0 ≤ _), (by decide : 24 + 0 ≤ _)⟩)
  dsimp only [Pt.U, Pt.locs, Pt.cells, Pt.slots] at X134 l134 y134 z134 st134 hQ134
  subst l134 y134 z134
  obtain ⟨dist2_134, st2_134, rch2_134, rc2_134, opn2_134, oc2_134, b2_134, rfl, N134q, K134, x134_0, x134_1, x134_2, x134_3, x134_4, x134_5, x134_6, x134_7, x134_8, x134_9, x134_10, x134_11, x134_12, x134_13⟩ := hQ134
  have N134 := Fr.app N132 N134q
  have z135 : n0 ≤ T134.heap.size := Nat.le_trans z133 K134.1
  have pre136 : ∀ t_, Steps p.tables e below (T134.setTop (mkF m 133 #[.val (.int p1), .val (.int p2), .val (.int p3), .val (.int p4), .val (.int p5), .val (.int (Int32.ofNat n)), .val (.ref b101), .val (.ref b109), .val (.int (1 : Int32))] [(.int (1 : Int32))])) t_ → Steps p.tables e below (s₁.setTop (entryFrame m #[(.int p1), (.int p2), (.int p3), (.int p4), (.int p5)] maxLocals)) t_ := fun t_ kt => pre0 t_ (by
      show Steps p.tables e below (s₁.setTop (mkF m 0 #[.val (.int p1), .val (.int p2), .val (.int p3), .val (.int p4), .val (.int p5), .unset, .unset, .unset, .unset] [])) _
      refine XS.iconst X0.here hx rfl (hb hby at_0) ?_
      show Steps p.tables e below (s₁.setTop (mkF m 1 #[.val (.int p1), .val (.int p2), .val (.int p3), .val (.int p4), .val (.int p5), .unset, .unset, .unset, .unset] [(.int (1 : Int32))])) _
      refine XS.iloadN X0.here hx rfl (hb hby at_1) rfl ?_
      show Steps p.tables e below (s₁.setTop (mkF m 2 #[.val (.int p1), .val (.int p2), .val (.int p3), .val (.int p4), .val (.int p5), .unset, .unset, .unset, .unset] [(.int p1), (.int (1 : Int32))])) _
      refine XS.iconst X0.here hx rfl (hb hby at_2) ?_
      show Steps p.tables e below (s₁.setTop (mkF m 3 #[.val (.int p1), .val (.int p2), .val (.int p3), .val (.int p4), .val (.int p5), .unset, .unset, .unset, .unset] [(.int (3 : Int32)), (.int p1), (.int (1 : Int32))])) _
      refine XS.iand X0.here hx rfl (hb hby at_3) rfl ?_
      show Steps p.tables e below (s₁.setTop (mkF m 4 #[.val (.int p1), .val (.int p2), .val (.int p3), .val (.int p4), .val (.int p5), .unset, .unset, .unset, .unset] [(.int (p1 &&& (3 : Int32))), (.int (1 : Int32))])) _
      refine XS.iadd X0.here hx rfl (hb hby at_4) rfl ?_
      show Steps p.tables e below (s₁.setTop (mkF m 5 #[.val (.int p1), .val (.int p2), .val (.int p3), .val (.int p4), .val (.int p5), .unset, .unset, .unset, .unset] [(.int ((1 : Int32) + (p1 &&& (3 : Int32))))])) _
      rw [en]
      show Steps p.tables e below (s₁.setTop (mkF m 5 #[.val (.int p1), .val (.int p2), .val (.int p3), .val (.int p4), .val (.int p5), .unset, .unset, .unset, .unset] [(.int (Int32.ofNat n))])) _
      refine XS.istore X0.here hx rfl (hb hby at_5) rfl (l' := #[.val (.int p1), .val (.int p2), .val (.int p3), .val (.int p4), .val (.int p5), .val (.int (Int32.ofNat n)), .unset, .unset, .unset]) rfl ?_
      show Steps p.tables e below (s₁.setTop (mkF m 7 #[.val (.int p1), .val (.int p2), .val (.int p3), .val (.int p4), .val (.int p5), .val (.int (Int32.ofNat n)), .unset, .unset, .unset] [])) _
      refine st101 _ ?_
      show Steps p.tables e below (T101.setTop (mkF m 10 #[.val (.int p1), .val (.int p2), .val (.int p3), .val (.int p4), .val (.int p5), .val (.int (Int32.ofNat n)), .unset, .unset, .unset] [(.ref b101)])) _
      refine XS.dup X101.here hx rfl (hb hby at_10) rfl rfl ?_
      show Steps p.tables e below (T101.setTop (mkF m 11 #[.val (.int p1), .val (.int p2), .val (.int p3), .val (.int p4), .val (.int p5), .val (.int (Int32.ofNat n)), .unset, .unset, .unset] [(.ref b101), (.ref b101)])) _
      refine XS.iload X101.here hx rfl (hb hby at_11) rfl ?_
      show Steps p.tables e below (T101.setTop (mkF m 13 #[.val (.int p1), .val (.int p2), .val (.int p3), .val (.int p4), .val (.int p5), .val (.int (Int32.ofNat n)), .unset, .unset, .unset] [(.int (Int32.ofNat n)), (.ref b101), (.ref b101)])) _
      refine st103.trans ?_
      show Steps p.tables e below (T103.setTop (mkF m 16 #[.val (.int p1), .val (.int p2), .val (.int p3), .val (.int p4), .val (.int p5), .val (.int (Int32.ofNat n)), .unset, .unset, .unset] [(.ref b101)])) _
      refine XS.astore X103.here hx rfl (hb hby at_16) rfl rfl (l' := #[.val (.int p1), .val (.int p2), .val (.int p3), .val (.int p4), .val (.int p5), .val (.int (Int32.ofNat n)), .val (.ref b101), .unset, .unset]) rfl ?_
      show Steps p.tables e below (T103.setTop (mkF m 18 #[.val (.int p1), .val (.int p2), .val (.int p3), .val (.int p4), .val (.int p5), .val (.int (Int32.ofNat n)), .val (.ref b101), .unset, .unset] [])) _
      refine XS.iconst X103.here hx rfl (hb hby at_18) ?_
      show Steps p.tables e below (T103.setTop (mkF m 19 #[.val (.int p1), .val (.int p2), .val (.int p3), .val (.int p4), .val (.int p5), .val (.int (Int32.ofNat n)), .val (.ref b101), .unset, .unset] [(.int (2 : Int32))])) _
      refine st109 _ ?_
      show Steps p.tables e below (T109.setTop (mkF m 21 #[.val (.int p1), .val (.int p2), .val (.int p3), .val (.int p4), .val (.int p5), .val (.int (Int32.ofNat n)), .val (.ref b101), .unset, .unset] [(.ref b109)])) _
      refine XS.astore X109.here hx rfl (hb hby at_21) rfl rfl (l' := #[.val (.int p1), .val (.int p2), .val (.int p3), .val (.int p4), .val (.int p5), .val (.int (Int32.ofNat n)), .val (.ref b101), .val (.ref b109), .unset]) rfl ?_
      show Steps p.tables e below (T109.setTop (mkF m 23 #[.val (.int p1), .val (.int p2), .val (.int p3), .val (.int p4), .val (.int p5), .val (.int (Int32.ofNat n)), .val (.ref b101), .val (.ref b109), .unset] [])) _
      refine XS.aload X109.here hx rfl (hb hby at_23) rfl rfl ?_
      show Steps p.tables e below (T109.setTop (mkF m 25 #[.val (.int p1), .val (.int p2), .val (.int p3), .val (.int p4), .val (.int p5), .val (.int (Int32.ofNat n)), .val (.ref b101), .val (.ref b109), .unset] [(.ref b101)])) _
      refine st117.trans ?_
      show Steps p.tables e below (T117.setTop (mkF m 28 #[.val (.int p1), .val (.int p2), .val (.int p3), .val (.int p4), .val (.int p5), .val (.int (Int32.ofNat n)), .val (.ref b101), .val (.ref b109), .unset] [(.int (1 : Int32))])) _
      refine XS.istore X117.here hx rfl (hb hby at_28) rfl (l' := #[.val (.int p1), .val (.int p2), .val (.int p3), .val (.int p4), .val (.int p5), .val (.int (Int32.ofNat n)), .val (.ref b101), .val (.ref b109), .val (.int (1 : Int32))]) rfl ?_
      show Steps p.tables e below (T117.setTop (mkF m 30 #[.val (.int p1), .val (.int p2), .val (.int p3), .val (.int p4), .val (.int p5), .val (.int (Int32.ofNat n)), .val (.ref b101), .val (.ref b109), .val (.int (1 : Int32))] [])) _
      refine XS.aload X117.here hx rfl (hb hby at_30) rfl rfl ?_
      show Steps p.tables e below (T117.setTop (mkF m 32 #[.val (.int p1), .val (.int p2), .val (.int p3), .val (.int p4), .val (.int p5), .val (.int (Int32.ofNat n)), .val (.ref b101), .val (.ref b109), .val (.int (1 : Int32))] [(.ref b101)])) _
      refine XS.iload X117.here hx rfl (hb hby at_32) rfl ?_
      show Steps p.tables e below (T117.setTop (mkF m 34 #[.val (.int p1), .val (.int p2), .val (.int p3), .val (.int p4), .val (.int p5), .val (.int (Int32.ofNat n)), .val (.ref b101), .val (.ref b109), .val (.int (1 : Int32))] [(.int (Int32.ofNat n)), (.ref b101)])) _
      refine XS.iloadN X117.here hx rfl (hb hby at_34) rfl ?_
      show Steps p.tables e below (T117.setTop (mkF m 35 #[.val (.int p1), .val (.int p2), .val (.int p3), .val (.int p4), .val (.int p5), .val (.int (Int32.ofNat n)), .val (.ref b101), .val (.ref b109), .val (.int (1 : Int32))] [(.int p2), (.int (Int32.ofNat n)), (.ref b101)])) _
      refine XS.aload X117.here hx rfl (hb hby at_35) rfl rfl ?_
      show Steps p.tables e below (T117.setTop (mkF m 37 #[.val (.int p1), .val (.int p2), .val (.int p3), .val (.int p4), .val (.int p5), .val (.int (Int32.ofNat n)), .val (.ref b101), .val (.ref b109), .val (.int (1 : Int32))] [(.ref b109), (.int p2), (.int (Int32.ofNat n)), (.ref b101)])) _
      refine st128 _ ?_
      show Steps p.tables e below (T128.setTop (mkF m 40 #[.val (.int p1), .val (.int p2), .val (.int p3), .val (.int p4), .val (.int p5), .val (.int (Int32.ofNat n)), .val (.ref b101), .val (.ref b109), .val (.int (1 : Int32))] [(.int (1 : Int32))])) _
      refine XS.ifNo X128.here hx rfl (hb hby at_40) rfl ((if0 _ _).trans (feq ((by decide) : ¬ ((1 : Int32) = (0 : Int32)))).1) ?_
      show Steps p.tables e below (T128.setTop (mkF m 43 #[.val (.int p1), .val (.int p2), .val (.int p3), .val (.int p4), .val (.int p5), .val (.int (Int32.ofNat n)), .val (.ref b101), .val (.ref b109), .val (.int (1 : Int32))] [])) _
      refine XS.iload X128.here hx rfl (hb hby at_43) rfl ?_
      show Steps p.tables e below (T128.setTop (mkF m 45 #[.val (.int p1), .val (.int p2), .val (.int p3), .val (.int p4), .val (.int p5), .val (.int (Int32.ofNat n)), .val (.ref b101), .val (.ref b109), .val (.int (1 : Int32))] [(.int (1 : Int32))])) _
      refine XS.ifNo X128.here hx rfl (hb hby at_45) rfl ((if0 _ _).trans (feq ((by decide) : ¬ ((1 : Int32) = (0 : Int32)))).1) ?_
      show Steps p.tables e below (T128.setTop (mkF m 48 #[.val (.int p1), .val (.int p2), .val (.int p3), .val (.int p4), .val (.int p5), .val (.int (Int32.ofNat n)), .val (.ref b101), .val (.ref b109), .val (.int (1 : Int32))] [])) _
      refine XS.iconst X128.here hx rfl (hb hby at_48) ?_
      show Steps p.tables e below (T128.setTop (mkF m 49 #[.val (.int p1), .val (.int p2), .val (.int p3), .val (.int p4), .val (.int p5), .val (.int (Int32.ofNat n)), .val (.ref b101), .val (.ref b109), .val (.int (1 : Int32))] [(.int (1 : Int32))])) _
      refine XS.goto X128.here hx rfl (pc0 := 49) (pc' := 53) rfl (hb hby at_49) (by decide) (by decide) ?_
      show Steps p.tables e below (T128.setTop (mkF m 53 #[.val (.int p1), .val (.int p2), .val (.int p3), .val (.int p4), .val (.int p5), .val (.int (Int32.ofNat n)), .val (.ref b101), .val (.ref b109), .val (.int (1 : Int32))] [(.int (1 : Int32))])) _
      refine XS.istore X128.here hx rfl (hb hby at_53) rfl (l' := #[.val (.int p1), .val (.int p2), .val (.int p3), .val (.int p4), .val (.int p5), .val (.int (Int32.ofNat n)), .val (.ref b101), .val (.ref b109), .val (.int (1 : Int32))]) rfl ?_
      show Steps p.tables e below (T128.setTop (mkF m 55 #[.val (.int p1), .val (.int p2), .val (.int p3), .val (.int p4), .val (.int p5), .val (.int (Int32.ofNat n)), .val (.ref b101), .val (.ref b109), .val (.int (1 : Int32))] [])) _
      refine XS.aload X128.here hx rfl (hb hby at_55) rfl rfl ?_
      show Steps p.tables e below (T128.setTop (mkF m 57 #[.val (.int p1), .val (.int p2), .val (.int p3), .val (.int p4), .val (.int p5), .val (.int (Int32.ofNat n)), .val (.ref b101), .val (.ref b109), .val (.int (1 : Int32))] [(.ref b101)])) _
      refine XS.iload X128.here hx rfl (hb hby at_57) rfl ?_
      show Steps p.tables e below (T128.setTop (mkF m 59 #[.val (.int p1), .val (.int p2), .val (.int p3), .val (.int p4), .val (.int p5), .val (.int (Int32.ofNat n)), .val (.ref b101), .val (.ref b109), .val (.int (1 : Int32))] [(.int (Int32.ofNat n)), (.ref b101)])) _
      refine XS.iloadN X128.here hx rfl (hb hby at_59) rfl ?_
      show Steps p.tables e below (T128.setTop (mkF m 60 #[.val (.int p1), .val (.int p2), .val (.int p3), .val (.int p4), .val (.int p5), .val (.int (Int32.ofNat n)), .val (.ref b101), .val (.ref b109), .val (.int (1 : Int32))] [(.int p3), (.int (Int32.ofNat n)), (.ref b101)])) _
      refine XS.aload X128.here hx rfl (hb hby at_60) rfl rfl ?_
      show Steps p.tables e below (T128.setTop (mkF m 62 #[.val (.int p1), .val (.int p2), .val (.int p3), .val (.int p4), .val (.int p5), .val (.int (Int32.ofNat n)), .val (.ref b101), .val (.ref b109), .val (.int (1 : Int32))] [(.ref b109), (.int p3), (.int (Int32.ofNat n)), (.ref b101)])) _
      refine st130 _ ?_
      show Steps p.tables e below (T130.setTop (mkF m 65 #[.val (.int p1), .val (.int p2), .val (.int p3), .val (.int p4), .val (.int p5), .val (.int (Int32.ofNat n)), .val (.ref b101), .val (.ref b109), .val (.int (1 : Int32))] [(.int (1 : Int32))])) _
      refine XS.ifNo X130.here hx rfl (hb hby at_65) rfl ((if0 _ _).trans (feq ((by decide) : ¬ ((1 : Int32) = (0 : Int32)))).1) ?_
      show Steps p.tables e below (T130.setTop (mkF m 68 #[.val (.int p1), .val (.int p2), .val (.int p3), .val (.int p4), .val (.int p5), .val (.int (Int32.ofNat n)), .val (.ref b101), .val (.ref b109), .val (.int (1 : Int32))] [])) _
      refine XS.iload X130.here hx rfl (hb hby at_68) rfl ?_
      show Steps p.tables e below (T130.setTop (mkF m 70 #[.val (.int p1), .val (.int p2), .val (.int p3), .val (.int p4), .val (.int p5), .val (.int (Int32.ofNat n)), .val (.ref b101), .val (.ref b109), .val (.int (1 : Int32))] [(.int (1 : Int32))])) _
      refine XS.ifNo X130.here hx rfl (hb hby at_70) rfl ((if0 _ _).trans (feq ((by decide) : ¬ ((1 : Int32) = (0 : Int32)))).1) ?_
      show Steps p.tables e below (T130.setTop (mkF m 73 #[.val (.int p1), .val (.int p2), .val (.int p3), .val (.int p4), .val (.int p5), .val (.int (Int32.ofNat n)), .val (.ref b101), .val (.ref b109), .val (.int (1 : Int32))] [])) _
      refine XS.iconst X130.here hx rfl (hb hby at_73) ?_
      show Steps p.tables e below (T130.setTop (mkF m 74 #[.val (.int p1), .val (.int p2), .val (.int p3), .val (.int p4), .val (.int p5), .val (.int (Int32.ofNat n)), .val (.ref b101), .val (.ref b109), .val (.int (1 : Int32))] [(.int (1 : Int32))])) _
      refine XS.goto X130.here hx rfl (pc0 := 74) (pc' := 78) rfl (hb hby at_74) (by decide) (by decide) ?_
      show Steps p.tables e below (T130.setTop (mkF m 78 #[.val (.int p1), .val (.int p2), .val (.int p3), .val (.int p4), .val (.int p5), .val (.int (Int32.ofNat n)), .val (.ref b101), .val (.ref b109), .val (.int (1 : Int32))] [(.int (1 : Int32))])) _
      refine XS.istore X130.here hx rfl (hb hby at_78) rfl (l' := #[.val (.int p1), .val (.int p2), .val (.int p3), .val (.int p4), .val (.int p5), .val (.int (Int32.ofNat n)), .val (.ref b101), .val (.ref b109), .val (.int (1 : Int32))]) rfl ?_
      show Steps p.tables e below (T130.setTop (mkF m 80 #[.val (.int p1), .val (.int p2), .val (.int p3), .val (.int p4), .val (.int p5), .val (.int (Int32.ofNat n)), .val (.ref b101), .val (.ref b109), .val (.int (1 : Int32))] [])) _
      refine XS.aload X130.here hx rfl (hb hby at_80) rfl rfl ?_
      show Steps p.tables e below (T130.setTop (mkF m 82 #[.val (.int p1), .val (.int p2), .val (.int p3), .val (.int p4), .val (.int p5), .val (.int (Int32.ofNat n)), .val (.ref b101), .val (.ref b109), .val (.int (1 : Int32))] [(.ref b101)])) _
      refine XS.iload X130.here hx rfl (hb hby at_82) rfl ?_
      show Steps p.tables e below (T130.setTop (mkF m 84 #[.val (.int p1), .val (.int p2), .val (.int p3), .val (.int p4), .val (.int p5), .val (.int (Int32.ofNat n)), .val (.ref b101), .val (.ref b109), .val (.int (1 : Int32))] [(.int (Int32.ofNat n)), (.ref b101)])) _
      refine XS.iloadN X130.here hx rfl (hb hby at_84) rfl ?_
      show Steps p.tables e below (T130.setTop (mkF m 85 #[.val (.int p1), .val (.int p2), .val (.int p3), .val (.int p4), .val (.int p5), .val (.int (Int32.ofNat n)), .val (.ref b101), .val (.ref b109), .val (.int (1 : Int32))] [(.int p4), (.int (Int32.ofNat n)), (.ref b101)])) _
      refine XS.aload X130.here hx rfl (hb hby at_85) rfl rfl ?_
      show Steps p.tables e below (T130.setTop (mkF m 87 #[.val (.int p1), .val (.int p2), .val (.int p3), .val (.int p4), .val (.int p5), .val (.int (Int32.ofNat n)), .val (.ref b101), .val (.ref b109), .val (.int (1 : Int32))] [(.ref b109), (.int p4), (.int (Int32.ofNat n)), (.ref b101)])) _
      refine st132 _ ?_
      show Steps p.tables e below (T132.setTop (mkF m 90 #[.val (.int p1), .val (.int p2), .val (.int p3), .val (.int p4), .val (.int p5), .val (.int (Int32.ofNat n)), .val (.ref b101), .val (.ref b109), .val (.int (1 : Int32))] [(.int (1 : Int32))])) _
      refine XS.ifNo X132.here hx rfl (hb hby at_90) rfl ((if0 _ _).trans (feq ((by decide) : ¬ ((1 : Int32) = (0 : Int32)))).1) ?_
      show Steps p.tables e below (T132.setTop (mkF m 93 #[.val (.int p1), .val (.int p2), .val (.int p3), .val (.int p4), .val (.int p5), .val (.int (Int32.ofNat n)), .val (.ref b101), .val (.ref b109), .val (.int (1 : Int32))] [])) _
      refine XS.iload X132.here hx rfl (hb hby at_93) rfl ?_
      show Steps p.tables e below (T132.setTop (mkF m 95 #[.val (.int p1), .val (.int p2), .val (.int p3), .val (.int p4), .val (.int p5), .val (.int (Int32.ofNat n)), .val (.ref b101), .val (.ref b109), .val (.int (1 : Int32))] [(.int (1 : Int32))])) _
      refine XS.ifNo X132.here hx rfl (hb hby at_95) rfl ((if0 _ _).trans (feq ((by decide) : ¬ ((1 : Int32) = (0 : Int32)))).1) ?_
      show Steps p.tables e below (T132.setTop (mkF m 98 #[.val (.int p1), .val (.int p2), .val (.int p3), .val (.int p4), .val (.int p5), .val (.int (Int32.ofNat n)), .val (.ref b101), .val (.ref b109), .val (.int (1 : Int32))] [])) _
      refine XS.iconst X132.here hx rfl (hb hby at_98) ?_
      show Steps p.tables e below (T132.setTop (mkF m 99 #[.val (.int p1), .val (.int p2), .val (.int p3), .val (.int p4), .val (.int p5), .val (.int (Int32.ofNat n)), .val (.ref b101), .val (.ref b109), .val (.int (1 : Int32))] [(.int (1 : Int32))])) _
      refine XS.goto X132.here hx rfl (pc0 := 99) (pc' := 103) rfl (hb hby at_99) (by decide) (by decide) ?_
      show Steps p.tables e below (T132.setTop (mkF m 103 #[.val (.int p1), .val (.int p2), .val (.int p3), .val (.int p4), .val (.int p5), .val (.int (Int32.ofNat n)), .val (.ref b101), .val (.ref b109), .val (.int (1 : Int32))] [(.int (1 : Int32))])) _
      refine XS.istore X132.here hx rfl (hb hby at_103) rfl (l' := #[.val (.int p1), .val (.int p2), .val (.int p3), .val (.int p4), .val (.int p5), .val (.int (Int32.ofNat n)), .val (.ref b101), .val (.ref b109), .val (.int (1 : Int32))]) rfl ?_
      show Steps p.tables e below (T132.setTop (mkF m 105 #[.val (.int p1), .val (.int p2), .val (.int p3), .val (.int p4), .val (.int p5), .val (.int (Int32.ofNat n)), .val (.ref b101), .val (.ref b109), .val (.int (1 : Int32))] [])) _
      refine XS.aload X132.here hx rfl (hb hby at_105) rfl rfl ?_
      show Steps p.tables e below (T132.setTop (mkF m 107 #[.val (.int p1), .val (.int p2), .val (.int p3), .val (.int p4), .val (.int p5), .val (.int (Int32.ofNat n)), .val (.ref b101), .val (.ref b109), .val (.int (1 : Int32))] [(.ref b101)])) _
      refine XS.iload X132.here hx rfl (hb hby at_107) rfl ?_
      show Steps p.tables e below (T132.setTop (mkF m 109 #[.val (.int p1), .val (.int p2), .val (.int p3), .val (.int p4), .val (.int p5), .val (.int (Int32.ofNat n)), .val (.ref b101), .val (.ref b109), .val (.int (1 : Int32))] [(.int (Int32.ofNat n)), (.ref b101)])) _
      refine XS.iload X132.here hx rfl (hb hby at_109) rfl ?_
      show Steps p.tables e below (T132.setTop (mkF m 111 #[.val (.int p1), .val (.int p2), .val (.int p3), .val (.int p4), .val (.int p5), .val (.int (Int32.ofNat n)), .val (.ref b101), .val (.ref b109), .val (.int (1 : Int32))] [(.int p5), (.int (Int32.ofNat n)), (.ref b101)])) _
      refine XS.aload X132.here hx rfl (hb hby at_111) rfl rfl ?_
      show Steps p.tables e below (T132.setTop (mkF m 113 #[.val (.int p1), .val (.int p2), .val (.int p3), .val (.int p4), .val (.int p5), .val (.int (Int32.ofNat n)), .val (.ref b101), .val (.ref b109), .val (.int (1 : Int32))] [(.ref b109), (.int p5), (.int (Int32.ofNat n)), (.ref b101)])) _
      refine st134 _ ?_
      show Steps p.tables e below (T134.setTop (mkF m 116 #[.val (.int p1), .val (.int p2), .val (.int p3), .val (.int p4), .val (.int p5), .val (.int (Int32.ofNat n)), .val (.ref b101), .val (.ref b109), .val (.int (1 : Int32))] [(.int (1 : Int32))])) _
      refine XS.ifNo X134.here hx rfl (hb hby at_116) rfl ((if0 _ _).trans (feq ((by decide) : ¬ ((1 : Int32) = (0 : Int32)))).1) ?_
      show Steps p.tables e below (T134.setTop (mkF m 119 #[.val (.int p1), .val (.int p2), .val (.int p3), .val (.int p4), .val (.int p5), .val (.int (Int32.ofNat n)), .val (.ref b101), .val (.ref b109), .val (.int (1 : Int32))] [])) _
      refine XS.iload X134.here hx rfl (hb hby at_119) rfl ?_
      show Steps p.tables e below (T134.setTop (mkF m 121 #[.val (.int p1), .val (.int p2), .val (.int p3), .val (.int p4), .val (.int p5), .val (.int (Int32.ofNat n)), .val (.ref b101), .val (.ref b109), .val (.int (1 : Int32))] [(.int (1 : Int32))])) _
      refine XS.ifNo X134.here hx rfl (hb hby at_121) rfl ((if0 _ _).trans (feq ((by decide) : ¬ ((1 : Int32) = (0 : Int32)))).1) ?_
      show Steps p.tables e below (T134.setTop (mkF m 124 #[.val (.int p1), .val (.int p2), .val (.int p3), .val (.int p4), .val (.int p5), .val (.int (Int32.ofNat n)), .val (.ref b101), .val (.ref b109), .val (.int (1 : Int32))] [])) _
      refine XS.iconst X134.here hx rfl (hb hby at_124) ?_
      show Steps p.tables e below (T134.setTop (mkF m 125 #[.val (.int p1), .val (.int p2), .val (.int p3), .val (.int p4), .val (.int p5), .val (.int (Int32.ofNat n)), .val (.ref b101), .val (.ref b109), .val (.int (1 : Int32))] [(.int (1 : Int32))])) _
      refine XS.goto X134.here hx rfl (pc0 := 125) (pc' := 129) rfl (hb hby at_125) (by decide) (by decide) ?_
      show Steps p.tables e below (T134.setTop (mkF m 129 #[.val (.int p1), .val (.int p2), .val (.int p3), .val (.int p4), .val (.int p5), .val (.int (Int32.ofNat n)), .val (.ref b101), .val (.ref b109), .val (.int (1 : Int32))] [(.int (1 : Int32))])) _
      refine XS.istore X134.here hx rfl (hb hby at_129) rfl (l' := #[.val (.int p1), .val (.int p2), .val (.int p3), .val (.int p4), .val (.int p5), .val (.int (Int32.ofNat n)), .val (.ref b101), .val (.ref b109), .val (.int (1 : Int32))]) rfl ?_
      show Steps p.tables e below (T134.setTop (mkF m 131 #[.val (.int p1), .val (.int p2), .val (.int p3), .val (.int p4), .val (.int p5), .val (.int (Int32.ofNat n)), .val (.ref b101), .val (.ref b109), .val (.int (1 : Int32))] [])) _
      refine XS.iload X134.here hx rfl (hb hby at_131) rfl ?_
      exact kt)
  obtain ⟨fs, hr, hrun, hended, hW, hsame⟩ := X134.leave (v := some (.int (1 : Int32))) (fun h => by rw [Bd.returns] at h; cases h)
  refine ⟨_, _, pre136 _ ?_, hrun, hended, _, _, rfl, ?_, ⟨_, rfl⟩, hW, hsame.mono (by decide) (by decide)⟩
  · show Steps p.tables e below (T134.setTop (mkF m 133 #[.val (.int p1), .val (.int p2), .val (.int p3), .val (.int p4), .val (.int p5), .val (.int (Int32.ofNat n)), .val (.ref b101), .val (.ref b109), .val (.int (1 : Int32))] [(.int (1 : Int32))])) _
    exact retN X134 hx (t := .boolean) Bd.returns (by simp) (hb hby at_133) hr
  · show Q0 Z p1 p2 p3 p4 p5 h0 n0 _ T134.heap _
    exact ⟨rfl, N134⟩
set_option maxRecDepth 65536 in
set_option maxHeartbeats 40000000 in
theorem comes_1 {Post : Tables → Env → Array Value → State → Outcome → State → Prop} (hpost : ∀ tb e args s v u, (limb_1_1.after args s (.returned v) u = true ∧ limb_1_2.after args s (.returned v) u = true ∧ True) → FrameEnd s (.returned v) u (Jvm.fieldLocs frame_1_writes args s ++ Jvm.arrayLocs frame_1_arrays args s ++ Jvm.staticLocs frame_1_statics s) 24 128 → Post tb e args s (.returned v) u) :
    ArmFor flags0 classFile x code maxLocals ret World_1 tables_1 room_1 Calls_1 rest_1 Pre_1 Post := by
  intro l hfl _ _ p e ha hc hk s m args below hf hA hF happ hP
  obtain ⟨hcalls, hrest, hpre⟩ := hP
  obtain ⟨-, -, -, hnamed, -, -, -, hat⟩ := (Spec.applies_iff hf).mp happ
  obtain ⟨hg, hn⟩ := and_e (Cond.before_iff.mp (show (Jvm.Cond.and given_1 narrow_1).before args s = true from hpre))
  obtain ⟨g1, g2⟩ := and_e hg
  obtain ⟨g3, g4⟩ := and_e g2
  obtain ⟨g5, g6⟩ := and_e g4
  obtain ⟨g7, g8⟩ := and_e g6
  obtain ⟨g9, g10⟩ := and_e g8
  obtain ⟨w0, w1, w2, w3, w4, rfl⟩ : ∃ w0 w1 w2 w3 w4 : Value, args = #[w0, w1, w2, w3, w4] := by
    have hs : args.size = 5 := by simpa [Cond.value, given_1] using g1
    obtain ⟨L⟩ := args
    match L, hs with
    | [w0, w1, w2, w3, w4], _ => exact ⟨w0, w1, w2, w3, w4, rfl⟩
  have hw := fun d (hd : d ∈ tables_1) => atoms_spec (ws := Jvm.Cond.code x code maxLocals ret :: tables_1) hat d (List.mem_cons_of_mem _ hd)
  have hfit : Fit s := fun {y c} hc i hi => by
    obtain ⟨ha, rfl⟩ := Array.getElem?_eq_some_iff.mp hc
    have q := List.all_eq_true.mp ((Array.all_eq_true_iff_forall_mem.mp hF) _ (Array.getElem_mem ha)) i (List.mem_range.mpr hi)
    simpa [Array.getElem?_eq_getElem hi] using q
  obtain ⟨i0, ei0⟩ := is_v g3
  obtain rfl : w0 = (.int i0) := Option.some.inj ei0
  obtain ⟨i1, ei1⟩ := is_v g5
  obtain rfl : w1 = (.int i1) := Option.some.inj ei1
  obtain ⟨i2, ei2⟩ := is_v g7
  obtain rfl : w2 = (.int i2) := Option.some.inj ei2
  obtain ⟨i3, ei3⟩ := is_v g9
  obtain rfl : w3 = (.int i3) := Option.some.inj ei3
  obtain ⟨i4, ei4⟩ := is_v g10
  obtain rfl : w4 = (.int i4) := Option.some.inj ei4
  obtain ⟨n, o, h1, h2, h3, _, L, rfl, ⟨rfl, N⟩, hq⟩ := rm0 l s _ hw tables_1 i0 i1 i2 i3 i4 s.heap s.heap.size (Nat.le_refl _)  p e ha hc hk s m _ below hf ((Spec.applies_iff_loose hf).mp happ).1 ⟨rfl, State.Warmed39.refl s, rfl⟩ trivial
  refine ⟨n, _, h1, h2, h3, hpost _ _ _ _ _ _ ⟨Cond.after_iff.mpr rfl, Cond.after_iff.mpr (eq_i res_at (Term.int_eval (1)) rfl), trivial⟩ ⟨hq.1, hq.2.1, (hq.2.2.sift fun y hy => Or.inr (N y hy)).mono (by decide) (by decide)⟩⟩
theorem main_1_1 : Claimed_1_1 := comes_1 fun _ _ _ _ _ _ h hF => ⟨h.1, hF⟩
theorem main_1_2 : Claimed_1_2 := comes_1 fun _ _ _ _ _ _ h hF => ⟨h.2.1, hF⟩
end Jvm.Pilot.@@N@@
namespace Jvm.Pilot.@@N@@
open Jvm Jvm.ClassFile Sem Op Lib Jvm.Free Jvm.Stand Jvm.Pilot.@@N@@.Jvm.D
/-! MADE BY PROGRAM (witnessworld.py) out of the Statement's table words and the real class files: 20 classes; the members and pool entries that the words name. The judged class is class 1, her method 1. -/
namespace start1
open Jvm.ClassFile
def u (s : String) : CpInfo := .utf8 (stringToUtf16 s)
/-- a pool by its gaps: so many unusable entries, then the entry; so many at the end -/
def gap : Nat → List CpInfo → List CpInfo
  | 0, r => r
  | n + 1, r => .unusable :: gap n r
def poolList (es : List (Nat × CpInfo)) (last : Nat) : List CpInfo := es.foldr (fun e r => gap e.1 (e.2 :: r)) (gap last [])
def pool (es : List (Nat × CpInfo)) (last : Nat) : Array CpInfo := ⟨poolList es last⟩
def fileOf (pool : Array CpInfo) (this : Nat) (attrs : Array Attribute := #[]) (ms : Array MethodInfo := #[]) (fl : Nat := 33) (sup : Nat := 0) (ifs : Array Nat := #[]) (fds : Array FieldInfo := #[]) : ClassFile where
  minorVersion := 0
  majorVersion := 65
  constantPool := pool
  accessFlags := fl
  thisClass := this
  superClass := sup
  interfaces := ifs
  fields := fds
  methods := ms
  attributes := attrs
def plain (name : String) (sup : Option ClassId) : Class where
  name := name
  kind := .ordinary
  loader := none
  accessFlags := 33
  super := sup
  interfaces := #[]
  cf := none
  fields := #[]
  methods := #[]
  instanceTypes := #[]
  staticTypes := #[]
  resolved := #[]
  callSites := []
  init := .initialized
  statics := none
  mirror := none

def pool0 : Array CpInfo := pool [(5, u "<init>"), (0, u "()V"), (1, .class_ 10), (1, u "java/lang/Object")] 113

def k0c0 : Code := { maxStack := 0, maxLocals := 1, code := object_method_1_code, exceptionTable := #[], attributes := #[] }
def k0m0 : Method := { name := "<init>", desc := "()V", sig := { parameters := [], returnType := none }, accessFlags := 1, code := some k0c0 }
/-- java/lang/Object -/
def k0 : Class := { plain "java/lang/Object" none with
  accessFlags := 33
  interfaces := #[]
  cf := some (fileOf pool0 8 #[] #[{ accessFlags := 1, nameIndex := 5, descriptorIndex := 6, attributes := #[] }] 33 0 #[] #[])
  fields := #[]
  methods := #[k0m0]
  instanceTypes := #[]
  staticTypes := #[]
  resolved := Array.replicate 124 none
  statics := none }

def pool1 : Array CpInfo := pool [(2, .class_ 4), (1, u "java/lang/Object"), (0, u "<init>"), (0, u "()V"), (0, .class_ 8), (0, u "com/example/slotwright/slotwright/exchange/Frontier"), (0, .methodref 7 10), (0, .nameAndType 5 11), (0, u "(I)V"), (0, .methodref 7 13), (0, .nameAndType 14 15), (0, u "isEmpty"), (0, u "()Z"), (0, .methodref 17 18), (0, .class_ 19), (0, .nameAndType 20 21), (0, u "com/example/slotwright/slotwright/exchange/FrontierIsEmptyPinLaw"), (0, u "step"), (0, u "(Lcom/example/slotwright/slotwright/exchange/Frontier;II[I)Z"), (0, .integer 2147483647), (0, .methodref 7 24), (0, .nameAndType 25 26), (0, u "reach"), (0, u "(ID)Z"), (0, .methodref 7 28), (0, .nameAndType 29 30), (0, u "settleNearest"), (0, u "()I"), (0, .methodref 7 32), (0, .nameAndType 33 6), (0, u "reset"), (2, u "law"), (0, u "(IIIII)Z")] 5

def k1m0 : Method := { name := "<init>", desc := "()V", sig := { parameters := [], returnType := none }, accessFlags := 1, code := none }
def k1c1 : Code := { maxStack := 4, maxLocals := 9, code := code, exceptionTable := #[], attributes := #[] }
def k1m1 : Method := { name := "law", desc := "(IIIII)Z", sig := { parameters := [.int, .int, .int, .int, .int], returnType := some .boolean }, accessFlags := 9, code := some k1c1 }
def k1c2 : Code := { maxStack := 4, maxLocals := 7, code := method_3_code, exceptionTable := #[], attributes := #[] }
def k1m2 : Method := { name := "step", desc := "(Lcom/example/slotwright/slotwright/exchange/Frontier;II[I)Z", sig := { parameters := [(.object "com/example/slotwright/slotwright/exchange/Frontier"), .int, .int, (.array .int)], returnType := some .boolean }, accessFlags := 10, code := some k1c2 }
/-- com/example/slotwright/slotwright/exchange/FrontierIsEmptyPinLaw -/
def k1 : Class := { plain "com/example/slotwright/slotwright/exchange/FrontierIsEmptyPinLaw" (some 0) with
  accessFlags := 49
  interfaces := #[]
  cf := some (fileOf pool1 17 #[] #[{ accessFlags := 1, nameIndex := 5, descriptorIndex := 6, attributes := #[] }, { accessFlags := 9, nameIndex := 36, descriptorIndex := 37, attributes := #[] }, { accessFlags := 10, nameIndex := 20, descriptorIndex := 21, attributes := #[] }] 49 2 #[] #[])
  fields := #[]
  methods := #[k1m0, k1m1, k1m2]
  instanceTypes := #[]
  staticTypes := #[]
  resolved := Array.replicate 43 none
  statics := none }

def pool2 : Array CpInfo := pool [(1, .methodref 2 3), (0, .class_ 4), (0, .nameAndType 5 6), (0, u "java/lang/Object"), (0, u "<init>"), (0, u "()V"), (0, .fieldref 8 9), (0, .class_ 10), (0, .nameAndType 11 12), (0, u "com/example/slotwright/slotwright/exchange/Frontier"), (0, u "distance"), (0, u "[D"), (0, .class_ 14), (0, u "java/lang/Double"), (0, .double 9218868437227405312), (1, .methodref 18 19), (0, .class_ 20), (0, .nameAndType 21 22), (0, u "java/util/Arrays"), (0, u "fill"), (0, u "([DD)V"), (0, .fieldref 8 24), (0, .nameAndType 25 26), (0, u "settled"), (0, u "[Z"), (0, .fieldref 8 28), (0, .nameAndType 29 30), (0, u "reached"), (0, u "[I"), (0, .fieldref 8 32), (0, .nameAndType 33 30), (0, u "open"), (0, .methodref 13 35), (0, .nameAndType 36 37), (0, u "isFinite"), (0, u "(D)Z"), (9, .fieldref 8 48), (0, .nameAndType 49 50), (0, u "reachedCount"), (0, u "I"), (0, .fieldref 8 52), (0, .nameAndType 53 50), (0, u "openCount"), (5, u "(I)V"), (2, u "reach"), (0, u "(ID)Z"), (1, u "isEmpty"), (0, u "()Z"), (0, u "settleNearest"), (0, u "()I"), (4, u "reset")] 17

def k2c0 : Code := { maxStack := 3, maxLocals := 2, code := prog_39_method_1_code, exceptionTable := #[], attributes := #[] }
def k2m0 : Method := { name := "<init>", desc := "(I)V", sig := { parameters := [.int], returnType := none }, accessFlags := 0, code := some k2c0 }
def k2c1 : Code := { maxStack := 5, maxLocals := 5, code := prog_39_method_2_code, exceptionTable := #[], attributes := #[] }
def k2m1 : Method := { name := "reach", desc := "(ID)Z", sig := { parameters := [.int, .double], returnType := some .boolean }, accessFlags := 0, code := some k2c1 }
def k2c2 : Code := { maxStack := 1, maxLocals := 1, code := prog_39_method_3_code, exceptionTable := #[], attributes := #[] }
def k2m2 : Method := { name := "isEmpty", desc := "()Z", sig := { parameters := [], returnType := some .boolean }, accessFlags := 0, code := some k2c2 }
def k2c3 : Code := { maxStack := 5, maxLocals := 3, code := prog_39_method_4_code, exceptionTable := #[], attributes := #[] }
def k2m3 : Method := { name := "settleNearest", desc := "()I", sig := { parameters := [], returnType := some .int }, accessFlags := 0, code := some k2c3 }
def k2c4 : Code := { maxStack := 4, maxLocals := 2, code := prog_39_method_9_code, exceptionTable := #[], attributes := #[] }
def k2m4 : Method := { name := "reset", desc := "()V", sig := { parameters := [], returnType := none }, accessFlags := 0, code := some k2c4 }
/-- com/example/slotwright/slotwright/exchange/Frontier -/
def k2 : Class := { plain "com/example/slotwright/slotwright/exchange/Frontier" (some 0) with
  accessFlags := 48
  interfaces := #[]
  cf := some (fileOf pool2 8 #[] #[{ accessFlags := 0, nameIndex := 5, descriptorIndex := 59, attributes := #[] }, { accessFlags := 0, nameIndex := 62, descriptorIndex := 63, attributes := #[] }, { accessFlags := 0, nameIndex := 65, descriptorIndex := 66, attributes := #[] }, { accessFlags := 0, nameIndex := 67, descriptorIndex := 68, attributes := #[] }, { accessFlags := 0, nameIndex := 73, descriptorIndex := 6, attributes := #[] }] 48 2 #[] #[{ accessFlags := 18, nameIndex := 11, descriptorIndex := 12, attributes := #[] }, { accessFlags := 18, nameIndex := 25, descriptorIndex := 26, attributes := #[] }, { accessFlags := 18, nameIndex := 29, descriptorIndex := 30, attributes := #[] }, { accessFlags := 2, nameIndex := 49, descriptorIndex := 50, attributes := #[] }, { accessFlags := 18, nameIndex := 33, descriptorIndex := 30, attributes := #[] }, { accessFlags := 2, nameIndex := 53, descriptorIndex := 50, attributes := #[] }])
  fields := #[{ name := "distance", type := (.array .double), accessFlags := 18, slot := 0, constantValue := 0 }, { name := "settled", type := (.array .boolean), accessFlags := 18, slot := 1, constantValue := 0 }, { name := "reached", type := (.array .int), accessFlags := 18, slot := 2, constantValue := 0 }, { name := "reachedCount", type := .int, accessFlags := 2, slot := 3, constantValue := 0 }, { name := "open", type := (.array .int), accessFlags := 18, slot := 4, constantValue := 0 }, { name := "openCount", type := .int, accessFlags := 2, slot := 5, constantValue := 0 }]
  methods := #[k2m0, k2m1, k2m2, k2m3, k2m4]
  instanceTypes := #[(.array .double), (.array .boolean), (.array .int), .int, (.array .int), .int]
  staticTypes := #[]
  resolved := Array.replicate 91 none
  statics := none }

def pool3 : Array CpInfo := pool [(2, .class_ 4), (1, u "java/lang/Object"), (0, u "<init>"), (0, u "()V"), (7, .class_ 16), (1, u "java/util/Arrays"), (57, .class_ 76), (1, u "java/util/Arrays$NaturalOrder"), (36, .class_ 115), (1, u "java/util/Arrays$LegacyMergeSort"), (1, u "Z"), (257, .class_ 376), (0, u "java/util/Arrays$ArrayList"), (68, u "$assertionsDisabled"), (269, u "MIN_ARRAY_SORT_GRAN"), (0, u "I"), (2, u "INSERTIONSORT_THRESHOLD"), (120, u "fill"), (13, u "([DD)V"), (120, .class_ 976), (0, u "java/util/Arrays$ArrayItr")] 52

def k3m0 : Method := { name := "<init>", desc := "()V", sig := { parameters := [], returnType := none }, accessFlags := 2, code := none }
def k3c1 : Code := { maxStack := 4, maxLocals := 5, code := jdk_65_method_113_code, exceptionTable := #[], attributes := #[] }
def k3m1 : Method := { name := "fill", desc := "([DD)V", sig := { parameters := [(.array .double), .double], returnType := none }, accessFlags := 9, code := some k3c1 }
/-- java/util/Arrays -/
def k3 : Class := { plain "java/util/Arrays" (some 0) with
  accessFlags := 49
  interfaces := #[]
  cf := some (fileOf pool3 14 #[.nestMembers #[975, 375, 113, 74]] #[{ accessFlags := 2, nameIndex := 5, descriptorIndex := 6, attributes := #[] }, { accessFlags := 9, nameIndex := 840, descriptorIndex := 854, attributes := #[] }] 49 2 #[] #[{ accessFlags := 26, nameIndex := 715, descriptorIndex := 716, attributes := #[] }, { accessFlags := 26, nameIndex := 719, descriptorIndex := 716, attributes := #[] }, { accessFlags := 4120, nameIndex := 445, descriptorIndex := 117, attributes := #[] }])
  fields := #[{ name := "MIN_ARRAY_SORT_GRAN", type := .int, accessFlags := 26, slot := 0, constantValue := 0 }, { name := "INSERTIONSORT_THRESHOLD", type := .int, accessFlags := 26, slot := 1, constantValue := 0 }, { name := "$assertionsDisabled", type := .boolean, accessFlags := 4120, slot := 2, constantValue := 0 }]
  methods := #[k3m0, k3m1]
  instanceTypes := #[]
  staticTypes := #[.int, .int, .boolean]
  resolved := Array.replicate 1029 none
  statics := none }

def pool4 : Array CpInfo := pool [(1, .class_ 2), (0, u "java/io/Serializable"), (0, .class_ 4), (0, u "java/lang/Object")] 2

/-- java/io/Serializable -/
def k4 : Class := { plain "java/io/Serializable" (some 0) with
  accessFlags := 1537
  interfaces := #[]
  cf := some (fileOf pool4 1 #[] #[] 1537 3 #[] #[])
  fields := #[]
  methods := #[]
  instanceTypes := #[]
  staticTypes := #[]
  resolved := Array.replicate 7 none
  statics := none }

def pool5 : Array CpInfo := pool [(2, .class_ 4), (1, u "java/lang/Object"), (0, u "<init>"), (0, u "()V"), (1, .class_ 10), (1, u "java/lang/Number"), (2, .class_ 14), (0, u "java/io/Serializable"), (0, u "serialVersionUID"), (0, u "J")] 20

def k5m0 : Method := { name := "<init>", desc := "()V", sig := { parameters := [], returnType := none }, accessFlags := 1, code := none }
/-- java/lang/Number -/
def k5 : Class := { plain "java/lang/Number" (some 0) with
  accessFlags := 1057
  interfaces := #[4]
  cf := some (fileOf pool5 8 #[] #[{ accessFlags := 1, nameIndex := 5, descriptorIndex := 6, attributes := #[] }] 1057 2 #[13] #[{ accessFlags := 26, nameIndex := 15, descriptorIndex := 16, attributes := #[] }])
  fields := #[{ name := "serialVersionUID", type := .long, accessFlags := 26, slot := 0, constantValue := 0 }]
  methods := #[k5m0]
  instanceTypes := #[]
  staticTypes := #[.long]
  resolved := Array.replicate 37 none
  statics := none }

def pool6 : Array CpInfo := pool [(1, .class_ 2), (0, u "java/lang/Comparable"), (0, .class_ 4), (0, u "java/lang/Object")] 7

/-- java/lang/Comparable -/
def k6 : Class := { plain "java/lang/Comparable" (some 0) with
  accessFlags := 1537
  interfaces := #[]
  cf := some (fileOf pool6 1 #[] #[] 1537 3 #[] #[])
  fields := #[]
  methods := #[]
  instanceTypes := #[]
  staticTypes := #[]
  resolved := Array.replicate 12 none
  statics := none }

def pool7 : Array CpInfo := pool [(1, .class_ 2), (0, u "java/lang/constant/Constable"), (0, .class_ 4), (0, u "java/lang/Object")] 6

/-- java/lang/constant/Constable -/
def k7 : Class := { plain "java/lang/constant/Constable" (some 0) with
  accessFlags := 1537
  interfaces := #[]
  cf := some (fileOf pool7 1 #[] #[] 1537 3 #[] #[])
  fields := #[]
  methods := #[]
  instanceTypes := #[]
  staticTypes := #[]
  resolved := Array.replicate 11 none
  statics := none }

def pool8 : Array CpInfo := pool [(1, .class_ 2), (0, u "java/lang/constant/ConstantDesc"), (0, .class_ 4), (0, u "java/lang/Object")] 32

/-- java/lang/constant/ConstantDesc -/
def k8 : Class := { plain "java/lang/constant/ConstantDesc" (some 0) with
  accessFlags := 1537
  interfaces := #[]
  cf := some (fileOf pool8 1 #[] #[] 1537 3 #[] #[])
  fields := #[]
  methods := #[]
  instanceTypes := #[]
  staticTypes := #[]
  resolved := Array.replicate 37 none
  statics := none }

def pool9 : Array CpInfo := pool [(1, .class_ 2), (0, u "java/lang/Double"), (10, u "isFinite"), (0, u "(D)Z"), (8, .class_ 25), (1, u "java/lang/Math"), (12, .methodref 23 39), (0, .nameAndType 40 41), (0, u "abs"), (0, u "(D)D"), (69, .double 9218868437227405311), (2, .class_ 116), (1, u "java/lang/Number"), (3, u "value"), (0, u "D"), (51, u "TYPE"), (0, u "Ljava/lang/Class;"), (0, .class_ 176), (0, u "java/lang/Comparable"), (0, .class_ 178), (0, u "java/lang/constant/Constable"), (0, .class_ 180), (0, u "java/lang/constant/ConstantDesc"), (0, u "POSITIVE_INFINITY"), (3, u "NEGATIVE_INFINITY"), (2, u "NaN"), (2, u "MAX_VALUE"), (0, u "MIN_NORMAL"), (0, u "MIN_VALUE"), (2, u "SIZE"), (0, u "I"), (1, u "PRECISION"), (1, u "MAX_EXPONENT"), (1, u "MIN_EXPONENT"), (1, u "BYTES"), (3, u "serialVersionUID"), (0, u "J")] 79

def k9c0 : Code := { maxStack := 4, maxLocals := 2, code := jdk_117_method_8_code, exceptionTable := #[], attributes := #[] }
def k9m0 : Method := { name := "isFinite", desc := "(D)Z", sig := { parameters := [.double], returnType := some .boolean }, accessFlags := 9, code := some k9c0 }
/-- java/lang/Double -/
def k9 : Class := { plain "java/lang/Double" (some 5) with
  accessFlags := 49
  interfaces := #[6, 7, 8]
  cf := some (fileOf pool9 1 #[] #[{ accessFlags := 9, nameIndex := 13, descriptorIndex := 14, attributes := #[] }] 49 114 #[175, 177, 179] #[{ accessFlags := 25, nameIndex := 181, descriptorIndex := 121, attributes := #[] }, { accessFlags := 25, nameIndex := 185, descriptorIndex := 121, attributes := #[] }, { accessFlags := 25, nameIndex := 188, descriptorIndex := 121, attributes := #[] }, { accessFlags := 25, nameIndex := 191, descriptorIndex := 121, attributes := #[] }, { accessFlags := 25, nameIndex := 192, descriptorIndex := 121, attributes := #[] }, { accessFlags := 25, nameIndex := 193, descriptorIndex := 121, attributes := #[] }, { accessFlags := 25, nameIndex := 196, descriptorIndex := 197, attributes := #[] }, { accessFlags := 25, nameIndex := 199, descriptorIndex := 197, attributes := #[] }, { accessFlags := 25, nameIndex := 201, descriptorIndex := 197, attributes := #[] }, { accessFlags := 25, nameIndex := 203, descriptorIndex := 197, attributes := #[] }, { accessFlags := 25, nameIndex := 205, descriptorIndex := 197, attributes := #[] }, { accessFlags := 25, nameIndex := 173, descriptorIndex := 174, attributes := #[] }, { accessFlags := 18, nameIndex := 120, descriptorIndex := 121, attributes := #[] }, { accessFlags := 26, nameIndex := 209, descriptorIndex := 210, attributes := #[] }])
  fields := #[{ name := "POSITIVE_INFINITY", type := .double, accessFlags := 25, slot := 0, constantValue := 0 }, { name := "NEGATIVE_INFINITY", type := .double, accessFlags := 25, slot := 1, constantValue := 0 }, { name := "NaN", type := .double, accessFlags := 25, slot := 2, constantValue := 0 }, { name := "MAX_VALUE", type := .double, accessFlags := 25, slot := 3, constantValue := 0 }, { name := "MIN_NORMAL", type := .double, accessFlags := 25, slot := 4, constantValue := 0 }, { name := "MIN_VALUE", type := .double, accessFlags := 25, slot := 5, constantValue := 0 }, { name := "SIZE", type := .int, accessFlags := 25, slot := 6, constantValue := 0 }, { name := "PRECISION", type := .int, accessFlags := 25, slot := 7, constantValue := 0 }, { name := "MAX_EXPONENT", type := .int, accessFlags := 25, slot := 8, constantValue := 0 }, { name := "MIN_EXPONENT", type := .int, accessFlags := 25, slot := 9, constantValue := 0 }, { name := "BYTES", type := .int, accessFlags := 25, slot := 10, constantValue := 0 }, { name := "TYPE", type := (.object "java/lang/Class"), accessFlags := 25, slot := 11, constantValue := 0 }, { name := "value", type := .double, accessFlags := 18, slot := 0, constantValue := 0 }, { name := "serialVersionUID", type := .long, accessFlags := 26, slot := 12, constantValue := 0 }]
  methods := #[k9m0]
  instanceTypes := #[.double]
  staticTypes := #[.double, .double, .double, .double, .double, .double, .int, .int, .int, .int, .int, (.object "java/lang/Class"), .long]
  resolved := Array.replicate 290 none
  statics := none }

def pool10 : Array CpInfo := pool [(1, .class_ 2), (0, u "java/lang/Math"), (1, .class_ 6), (1, u "java/lang/Object"), (0, u "<init>"), (0, u "()V"), (5, u "(D)D"), (83, .class_ 100), (1, u "java/lang/Math$RandomNumberGeneratorHolder"), (23, u "abs"), (47, u "negativeZeroFloatBits"), (0, u "J"), (2, u "negativeZeroDoubleBits"), (68, u "$assertionsDisabled"), (0, u "Z"), (91, u "twoToTheDoubleScaleDown"), (0, u "D"), (4, u "twoToTheDoubleScaleUp"), (9, u "E"), (3, u "PI"), (2, u "TAU"), (2, u "DEGREES_TO_RADIANS"), (0, u "RADIANS_TO_DEGREES")] 94

def k10m0 : Method := { name := "<init>", desc := "()V", sig := { parameters := [], returnType := none }, accessFlags := 2, code := none }
def k10c1 : Code := { maxStack := 4, maxLocals := 2, code := jdk_29_method_64_code, exceptionTable := #[], attributes := #[] }
def k10m1 : Method := { name := "abs", desc := "(D)D", sig := { parameters := [.double], returnType := some .double }, accessFlags := 9, code := some k10c1 }
/-- java/lang/Math -/
def k10 : Class := { plain "java/lang/Math" (some 0) with
  accessFlags := 49
  interfaces := #[]
  cf := some (fileOf pool10 1 #[.nestMembers #[98]] #[{ accessFlags := 2, nameIndex := 7, descriptorIndex := 8, attributes := #[] }, { accessFlags := 9, nameIndex := 124, descriptorIndex := 14, attributes := #[] }] 49 4 #[] #[{ accessFlags := 25, nameIndex := 354, descriptorIndex := 339, attributes := #[] }, { accessFlags := 25, nameIndex := 358, descriptorIndex := 339, attributes := #[] }, { accessFlags := 25, nameIndex := 361, descriptorIndex := 339, attributes := #[] }, { accessFlags := 26, nameIndex := 364, descriptorIndex := 339, attributes := #[] }, { accessFlags := 26, nameIndex := 365, descriptorIndex := 339, attributes := #[] }, { accessFlags := 26, nameIndex := 172, descriptorIndex := 173, attributes := #[] }, { accessFlags := 26, nameIndex := 176, descriptorIndex := 173, attributes := #[] }, { accessFlags := 8, nameIndex := 344, descriptorIndex := 339, attributes := #[] }, { accessFlags := 8, nameIndex := 338, descriptorIndex := 339, attributes := #[] }, { accessFlags := 4120, nameIndex := 245, descriptorIndex := 246, attributes := #[] }])
  fields := #[{ name := "E", type := .double, accessFlags := 25, slot := 0, constantValue := 0 }, { name := "PI", type := .double, accessFlags := 25, slot := 1, constantValue := 0 }, { name := "TAU", type := .double, accessFlags := 25, slot := 2, constantValue := 0 }, { name := "DEGREES_TO_RADIANS", type := .double, accessFlags := 26, slot := 3, constantValue := 0 }, { name := "RADIANS_TO_DEGREES", type := .double, accessFlags := 26, slot := 4, constantValue := 0 }, { name := "negativeZeroFloatBits", type := .long, accessFlags := 26, slot := 5, constantValue := 0 }, { name := "negativeZeroDoubleBits", type := .long, accessFlags := 26, slot := 6, constantValue := 0 }, { name := "twoToTheDoubleScaleUp", type := .double, accessFlags := 8, slot := 7, constantValue := 0 }, { name := "twoToTheDoubleScaleDown", type := .double, accessFlags := 8, slot := 8, constantValue := 0 }, { name := "$assertionsDisabled", type := .boolean, accessFlags := 4120, slot := 9, constantValue := 0 }]
  methods := #[k10m0, k10m1]
  instanceTypes := #[]
  staticTypes := #[.double, .double, .double, .double, .double, .long, .long, .double, .double, .boolean]
  resolved := Array.replicate 460 none
  statics := none }

def pool11 : Array CpInfo := pool [(1, u "java/lang/Cloneable"), (0, .class_ 1), (0, u "java/lang/Object"), (0, .class_ 3)] 3

/-- java/lang/Cloneable -/
def k11 : Class := { plain "java/lang/Cloneable" (some 0) with
  accessFlags := 1537
  interfaces := #[]
  cf := some (fileOf pool11 2 #[] #[] 1537 4 #[] #[])
  fields := #[]
  methods := #[]
  instanceTypes := #[]
  staticTypes := #[]
  resolved := Array.replicate 8 none
  statics := none }

/-- the primitive boolean -/
def k12 : Class := { plain "boolean" none with kind := .primitive 'Z', accessFlags := 0x411 }
/-- [Z -/
def k13 : Class := { plain "[Z" (some 0) with kind := .array 12 .boolean, interfaces := #[11, 4], accessFlags := 1041 }

/-- the primitive byte -/
def k14 : Class := { plain "byte" none with kind := .primitive 'B', accessFlags := 0x411 }
/-- [B -/
def k15 : Class := { plain "[B" (some 0) with kind := .array 14 .byte, interfaces := #[11, 4], accessFlags := 1041 }

/-- the primitive double -/
def k16 : Class := { plain "double" none with kind := .primitive 'D', accessFlags := 0x411 }
/-- [D -/
def k17 : Class := { plain "[D" (some 0) with kind := .array 16 .double, interfaces := #[11, 4], accessFlags := 1041 }

/-- the primitive int -/
def k18 : Class := { plain "int" none with kind := .primitive 'I', accessFlags := 0x411 }
/-- [I -/
def k19 : Class := { plain "[I" (some 0) with kind := .array 18 .int, interfaces := #[11, 4], accessFlags := 1041 }

def heap : Heap := #[]
def classes : Array Class := #[k0, k1, k2, k3, k4, k5, k6, k7, k8, k9, k10, k11, k12, k13, k14, k15, k16, k17, k18, k19]
def interned : List (Array UInt16 × Addr) := []
def slotsUsed : Nat := 0
def theMethod : MethodId := ⟨1, 1⟩
def args0 : Array Value := #[.int 5, .int 5, .int 5, .int 5, .int 5]
def aboutOver (below : List Frame) : State where
  vm := { classes := classes, interned := interned.toArray }
  heap := heap
  slotsUsed := slotsUsed
  threads := #[{ frames := .invoking theMethod args0 :: below }]
def below0 : List Frame := [.native { method := ⟨0, 0⟩, args := #[] }]
def about1 : State := aboutOver below0
def p0 : Program := .bare "" "" ""
def e0 : Env := launch0.env 0 0 0
theorem w_frames : about1.frames = Frame.invoking theMethod args0 :: below0 := rfl
set_option maxRecDepth 65536 in
theorem w_args : argsFit about1.vm theMethod args0 = true := by decide +kernel
set_option maxRecDepth 65536 in
theorem w_heap : heapFits about1 = true := by decide +kernel
set_option maxRecDepth 65536 in
theorem w_runnable : about1.curStatus? = some .runnable := by decide +kernel
set_option maxRecDepth 65536 in
theorem w_alone : about1.alone = true := by decide +kernel
set_option maxRecDepth 65536 in
theorem w_named : about1.methodNamed? x = some theMethod := by decide +kernel
set_option maxRecDepth 65536 in
theorem w_hears : about1.hears theMethod below0 = true := by decide +kernel
set_option maxRecDepth 65536 in
theorem w_ripe : about1.ripe theMethod args0 below0 = true := by decide +kernel
theorem w_running : about1.status = .running := rfl
set_option maxRecDepth 65536 in
theorem w_room : about1.hasRoom e0.platform room_1 = true :=
  launch0.hasRoom_least _ room_1 (by decide +kernel) (by decide +kernel) (by decide +kernel) (by decide +kernel) (by decide +kernel) (by decide +kernel)
theorem allAtoms_all (ts : List Jvm.Cond) (a : Array Jvm.Value) (st : Jvm.State) : (allAtoms ts).before a st = ts.all (fun c => c.before a st) := by
  induction ts with
  | nil => rfl
  | cons c t ih =>
    show (Jvm.Cond.and c (allAtoms t)).before a st = _
    rw [Jvm.Cond.before_and, ih, List.all_cons]
def words1 : List Jvm.Cond := Jvm.Cond.code x code maxLocals ret :: tables_1
/-- a 'code' word, met by the world's own term for the bytes: nothing is compared byte by byte -/
theorem code_word {y : MethodName} {bytes : ByteArray} {mx : Nat} {rt : Option FieldType} {a : Array Value} {s : State} {m : MethodId} {meth : Method} {c : Code} (h1 : s.methodNamed? y = some m) (h2 : s.vm.method? m = some meth) (h3 : meth.code = some c) (h4 : c.code = bytes)
    (h5 : (c.maxLocals == mx && c.exceptionTable.isEmpty && decide (c.maxStack ≤ mostOperands) && decide (meth.sig.returnType = rt) && !meth.locks && decide (parseMethodDescriptor y.desc = some meth.sig)) = true) : (Jvm.Cond.code y bytes mx rt).before a s = true := by
  simp only [Bool.and_eq_true, beq_iff_eq, Bool.not_eq_true', decide_eq_true_eq] at h5
  obtain ⟨⟨⟨⟨⟨g1, g2⟩, g3⟩, g4⟩, g5⟩, g6⟩ := h5
  simp [Cond.before, Cond.holds, Cond.value, h1, h2, h3, h4, g1, g2, g3, g4, g5, g6]
def isCode : Jvm.Cond → Bool
  | .code _ _ _ _ => true
  | _ => false
theorem all_split {L : List Jvm.Cond} {P : Jvm.Cond → Bool} (h1 : L.all (fun c => isCode c || P c) = true) (h2 : ∀ c ∈ L.filter isCode, P c = true) : L.all P = true := by
  refine List.all_eq_true.mpr fun c hc => ?_
  have h := List.all_eq_true.mp h1 c hc
  rcases Bool.eq_false_or_eq_true (isCode c) with hi | hi
  · exact h2 c (List.mem_filter.mpr ⟨hc, hi⟩)
  · simpa [hi] using h
set_option maxRecDepth 65536 in
theorem w_c0 : (Jvm.Cond.code x code maxLocals ret).before args0 about1 = true := code_word (m := ⟨1, 1⟩) (meth := k1m1) (c := k1c1) (by decide +kernel) rfl rfl rfl (by decide +kernel)
set_option maxRecDepth 65536 in
theorem w_c1 : (Jvm.Cond.code ({ cls := "com/example/slotwright/slotwright/exchange/Frontier", name := "<init>", desc := "(I)V" } : Jvm.MethodName) prog_39_method_1_code (2 : Nat) (Option.none : Option Jvm.ClassFile.FieldType)).before args0 about1 = true := code_word (m := ⟨2, 0⟩) (meth := k2m0) (c := k2c0) (by decide +kernel) rfl rfl rfl (by decide +kernel)
set_option maxRecDepth 65536 in
theorem w_c2 : (Jvm.Cond.code ({ cls := "java/lang/Object", name := "<init>", desc := "()V" } : Jvm.MethodName) object_method_1_code (1 : Nat) (Option.none : Option Jvm.ClassFile.FieldType)).before args0 about1 = true := code_word (m := ⟨0, 0⟩) (meth := k0m0) (c := k0c0) (by decide +kernel) rfl rfl rfl (by decide +kernel)
set_option maxRecDepth 65536 in
theorem w_c3 : (Jvm.Cond.code ({ cls := "java/util/Arrays", name := "fill", desc := "([DD)V" } : Jvm.MethodName) jdk_65_method_113_code (5 : Nat) (Option.none : Option Jvm.ClassFile.FieldType)).before args0 about1 = true := code_word (m := ⟨3, 1⟩) (meth := k3m1) (c := k3c1) (by decide +kernel) rfl rfl rfl (by decide +kernel)
set_option maxRecDepth 65536 in
theorem w_c4 : (Jvm.Cond.code ({ cls := "com/example/slotwright/slotwright/exchange/Frontier", name := "isEmpty", desc := "()Z" } : Jvm.MethodName) prog_39_method_3_code (1 : Nat) (Option.some Jvm.ClassFile.FieldType.boolean)).before args0 about1 = true := code_word (m := ⟨2, 2⟩) (meth := k2m2) (c := k2c2) (by decide +kernel) rfl rfl rfl (by decide +kernel)
set_option maxRecDepth 65536 in
theorem w_c5 : (Jvm.Cond.code ({ cls := "com/example/slotwright/slotwright/exchange/FrontierIsEmptyPinLaw", name := "step", desc := "(Lcom/example/slotwright/slotwright/exchange/Frontier;II[I)Z" } : Jvm.MethodName) method_3_code (7 : Nat) (Option.some Jvm.ClassFile.FieldType.boolean)).before args0 about1 = true := code_word (m := ⟨1, 2⟩) (meth := k1m2) (c := k1c2) (by decide +kernel) rfl rfl rfl (by decide +kernel)
set_option maxRecDepth 65536 in
theorem w_c6 : (Jvm.Cond.code ({ cls := "com/example/slotwright/slotwright/exchange/Frontier", name := "reset", desc := "()V" } : Jvm.MethodName) prog_39_method_9_code (2 : Nat) (Option.none : Option Jvm.ClassFile.FieldType)).before args0 about1 = true := code_word (m := ⟨2, 4⟩) (meth := k2m4) (c := k2c4) (by decide +kernel) rfl rfl rfl (by decide +kernel)
set_option maxRecDepth 65536 in
theorem w_c7 : (Jvm.Cond.code ({ cls := "com/example/slotwright/slotwright/exchange/Frontier", name := "reach", desc := "(ID)Z" } : Jvm.MethodName) prog_39_method_2_code (5 : Nat) (Option.some Jvm.ClassFile.FieldType.boolean)).before args0 about1 = true := code_word (m := ⟨2, 1⟩) (meth := k2m1) (c := k2c1) (by decide +kernel) rfl rfl rfl (by decide +kernel)
set_option maxRecDepth 65536 in
theorem w_c8 : (Jvm.Cond.code ({ cls := "java/lang/Double", name := "isFinite", desc := "(D)Z" } : Jvm.MethodName) jdk_117_method_8_code (2 : Nat) (Option.some Jvm.ClassFile.FieldType.boolean)).before args0 about1 = true := code_word (m := ⟨9, 0⟩) (meth := k9m0) (c := k9c0) (by decide +kernel) rfl rfl rfl (by decide +kernel)
set_option maxRecDepth 65536 in
theorem w_c9 : (Jvm.Cond.code ({ cls := "java/lang/Math", name := "abs", desc := "(D)D" } : Jvm.MethodName) jdk_29_method_64_code (2 : Nat) (Option.some Jvm.ClassFile.FieldType.double)).before args0 about1 = true := code_word (m := ⟨10, 1⟩) (meth := k10m1) (c := k10c1) (by decide +kernel) rfl rfl rfl (by decide +kernel)
set_option maxRecDepth 65536 in
theorem w_c10 : (Jvm.Cond.code ({ cls := "com/example/slotwright/slotwright/exchange/Frontier", name := "settleNearest", desc := "()I" } : Jvm.MethodName) prog_39_method_4_code (3 : Nat) (Option.some Jvm.ClassFile.FieldType.int)).before args0 about1 = true := code_word (m := ⟨2, 3⟩) (meth := k2m3) (c := k2c3) (by decide +kernel) rfl rfl rfl (by decide +kernel)
def codes1 : List Jvm.Cond := [Jvm.Cond.code x code maxLocals ret, Jvm.Cond.code ({ cls := "com/example/slotwright/slotwright/exchange/Frontier", name := "<init>", desc := "(I)V" } : Jvm.MethodName) prog_39_method_1_code (2 : Nat) (Option.none : Option Jvm.ClassFile.FieldType), Jvm.Cond.code ({ cls := "java/lang/Object", name := "<init>", desc := "()V" } : Jvm.MethodName) object_method_1_code (1 : Nat) (Option.none : Option Jvm.ClassFile.FieldType), Jvm.Cond.code ({ cls := "java/util/Arrays", name := "fill", desc := "([DD)V" } : Jvm.MethodName) jdk_65_method_113_code (5 : Nat) (Option.none : Option Jvm.ClassFile.FieldType), Jvm.Cond.code ({ cls := "com/example/slotwright/slotwright/exchange/Frontier", name := "isEmpty", desc := "()Z" } : Jvm.MethodName) prog_39_method_3_code (1 : Nat) (Option.some Jvm.ClassFile.FieldType.boolean), Jvm.Cond.code ({ cls := "com/example/slotwright/slotwright/exchange/FrontierIsEmptyPinLaw", name := "step", desc := "(Lcom/example/slotwright/slotwright/exchange/Frontier;II[I)Z" } : Jvm.MethodName) method_3_code (7 : Nat) (Option.some Jvm.ClassFile.FieldType.boolean), Jvm.Cond.code ({ cls := "com/example/slotwright/slotwright/exchange/Frontier", name := "reset", desc := "()V" } : Jvm.MethodName) prog_39_method_9_code (2 : Nat) (Option.none : Option Jvm.ClassFile.FieldType), Jvm.Cond.code ({ cls := "com/example/slotwright/slotwright/exchange/Frontier", name := "reach", desc := "(ID)Z" } : Jvm.MethodName) prog_39_method_2_code (5 : Nat) (Option.some Jvm.ClassFile.FieldType.boolean), Jvm.Cond.code ({ cls := "java/lang/Double", name := "isFinite", desc := "(D)Z" } : Jvm.MethodName) jdk_117_method_8_code (2 : Nat) (Option.some Jvm.ClassFile.FieldType.boolean), Jvm.Cond.code ({ cls := "java/lang/Math", name := "abs", desc := "(D)D" } : Jvm.MethodName) jdk_29_method_64_code (2 : Nat) (Option.some Jvm.ClassFile.FieldType.double), Jvm.Cond.code ({ cls := "com/example/slotwright/slotwright/exchange/Frontier", name := "settleNearest", desc := "()I" } : Jvm.MethodName) prog_39_method_4_code (3 : Nat) (Option.some Jvm.ClassFile.FieldType.int)]
set_option maxRecDepth 65536 in
theorem codes_eq : words1.filter isCode = codes1 := rfl
theorem w_codes : ∀ c ∈ words1.filter isCode, c.before args0 about1 = true := by
  rw [codes_eq]
  intro c hc
  simp only [codes1, List.mem_cons, List.not_mem_nil, or_false] at hc
  rcases hc with rfl | rfl | rfl | rfl | rfl | rfl | rfl | rfl | rfl | rfl | rfl
  · exact w_c0
  · exact w_c1
  · exact w_c2
  · exact w_c3
  · exact w_c4
  · exact w_c5
  · exact w_c6
  · exact w_c7
  · exact w_c8
  · exact w_c9
  · exact w_c10
set_option maxRecDepth 65536 in
theorem w_t1 : (words1.take 24).all (fun c => isCode c || c.before args0 about1) = true := by decide +kernel
set_option maxRecDepth 65536 in
theorem w_t2 : ((words1.drop 24).take 24).all (fun c => isCode c || c.before args0 about1) = true := by decide +kernel
set_option maxRecDepth 65536 in
theorem w_t3 : ((words1.drop 24).drop 24).all (fun c => isCode c || c.before args0 about1) = true := by decide +kernel
theorem w_tables : (allAtoms (Jvm.Cond.code x code maxLocals ret :: tables_1)).before args0 about1 = true := by
  rw [allAtoms_all]
  show words1.all (fun c => c.before args0 about1) = true
  refine all_split ?_ w_codes
  rw [← List.take_append_drop 24 words1, List.all_append, w_t1, ← List.take_append_drop 24 (words1.drop 24), List.all_append, w_t2, w_t3]
  rfl
set_option maxRecDepth 65536 in
theorem w_case : (Jvm.Cond.and given_1 narrow_1).before args0 about1 = true := by decide +kernel
theorem w_applies : (headSpec (Jvm.Cond.code x code maxLocals ret :: tables_1) room_1).applies x e0.platform about1 = true :=
  (Spec.applies_iff w_frames).mpr ⟨w_running, w_runnable, w_alone, w_named, w_hears, w_ripe, w_room, w_tables⟩
theorem atStart : AtStart classFile x code maxLocals ret World_1 tables_1 room_1 Calls_1 rest_1 Pre_1 launch0 p0 e0 about1 theMethod args0 below0 :=
  ⟨lists_1, trivial, launch0.admits_env _ _ _, launch0.least_env, fairChoices_fair.cas, fairChoices_fair.clock, w_frames, w_args, w_heap, w_applies, trivial, trivial, w_case⟩
end start1
theorem witness_1 : WitnessClaimed_1 := ⟨start1.p0, start1.e0, start1.about1, start1.theMethod, start1.args0, start1.below0, start1.atStart⟩
end Jvm.Pilot.@@N@@
