import JvmDerived
import JvmDerived.Pilot.@@N@@Statement
import JvmDerived.Pilot.@@N@@Code
set_option linter.unusedVariables false
set_option linter.unusedSimpArgs false
namespace Jvm.RoadKit
open Sem ClassFile Op Lib Jvm.Stand Jvm.Free Jvm.LawKit
section New
variable {p : Program} {l : Launch} {e : Env} {R : Room} {s : State} {m : MethodId} {args : Array Value} {below : List Frame} {meth : Method} {c : Code} {T : State} {locs : List Loc} {cells slots : Nat}
theorem retI (X : Stand p l e R s m args below meth c T locs cells slots) (hx : p.tables.exec = Jvm.exec) {pc : Nat} {Ls : Array Slot} {z : Int32} {rest : List Value} (hret : meth.sig.returnType = some .int) (hd : decode c.code pc = .ok (.ireturn, 1)) {fs : List Frame}
    (hl : ∀ (f : JFrame) (acts : List Action), f.method = m → f.locked = none → f.entered = [] → (doReturn e (T.setTop f) acts (some (.int z))).1 = T.setFrames fs) : Steps p.tables e below (T.setTop (mkF m pc Ls (.int z :: rest))) (T.setFrames fs) := by
  have hm' : T.vm.method? m = some meth := X.method'
  have hn : narrow .int (.int z) = .int z := rfl
  show Steps p.tables e below (T.setTop { method := m, pc := pc, locals := Ls, stack := _ :: rest, locked := none }) _
  jvm_step X.here [X.here.top, hx, hd, hm', hret, hn]
  first | (intro acts; rw [hl _ acts rfl rfl rfl]) | rw [hl _ _ rfl rfl rfl]
  exact Steps.refl _
theorem own_retJ (X : Stand p l e R s m args below meth c T locs cells slots) (hx : p.tables.exec = Jvm.exec) {pc : Nat} {Ls : Array Slot} {z : Int64} {rest : List Value} (hret : meth.sig.returnType = some .long) (hd : decode c.code pc = .ok (.lreturn, 1)) {fs : List Frame}
    (hl : ∀ (f : JFrame) (acts : List Action), f.method = m → f.locked = none → f.entered = [] → (doReturn e (T.setTop f) acts (some (.long z))).1 = T.setFrames fs) : Steps p.tables e below (T.setTop (mkF m pc Ls (.long z :: rest))) (T.setFrames fs) := by
  have hm' : T.vm.method? m = some meth := X.method'
  show Steps p.tables e below (T.setTop { method := m, pc := pc, locals := Ls, stack := _ :: rest, locked := none }) _
  jvm_step X.here [X.here.top, hx, hd, hm', hret, narrow]
  first | (intro acts; rw [hl _ acts rfl rfl rfl]) | rw [hl _ _ rfl rfl rfl]
  exact Steps.refl _
theorem own_retD (X : Stand p l e R s m args below meth c T locs cells slots) (hx : p.tables.exec = Jvm.exec) {pc : Nat} {Ls : Array Slot} {z : UInt64} {rest : List Value} (hret : meth.sig.returnType = some .double) (hd : decode c.code pc = .ok (.dreturn, 1)) {fs : List Frame}
    (hl : ∀ (f : JFrame) (acts : List Action), f.method = m → f.locked = none → f.entered = [] → (doReturn e (T.setTop f) acts (some (.double z))).1 = T.setFrames fs) : Steps p.tables e below (T.setTop (mkF m pc Ls (.double z :: rest))) (T.setFrames fs) := by
  have hm' : T.vm.method? m = some meth := X.method'
  show Steps p.tables e below (T.setTop { method := m, pc := pc, locals := Ls, stack := _ :: rest, locked := none }) _
  jvm_step X.here [X.here.top, hx, hd, hm', hret, narrow]
  first | (intro acts; rw [hl _ acts rfl rfl rfl]) | rw [hl _ _ rfl rfl rfl]
  exact Steps.refl _
theorem own_retR (X : Stand p l e R s m args below meth c T locs cells slots) (hx : p.tables.exec = Jvm.exec) {pc : Nat} {Ls : Array Slot} {z : Addr} {rest : List Value} {ty : FieldType} (hret : meth.sig.returnType = some ty) (hty : ty.isReference = true) (hd : decode c.code pc = .ok (.areturn, 1)) {fs : List Frame}
    (hl : ∀ (f : JFrame) (acts : List Action), f.method = m → f.locked = none → f.entered = [] → (doReturn e (T.setTop f) acts (some (.ref z))).1 = T.setFrames fs) : Steps p.tables e below (T.setTop (mkF m pc Ls (.ref z :: rest))) (T.setFrames fs) := by
  have hm' : T.vm.method? m = some meth := X.method'
  show Steps p.tables e below (T.setTop { method := m, pc := pc, locals := Ls, stack := _ :: rest, locked := none }) _
  jvm_step X.here [X.here.top, hx, hd, hm', hret, hty, Value.isRef]
  first | (intro acts; rw [hl _ acts rfl rfl rfl]) | rw [hl _ _ rfl rfl rfl]
  exact Steps.refl _
theorem own_nm0 {a : Addr} : a ∉ ([] : List Addr) := List.not_mem_nil
theorem own_nmc {a w : Addr} {ws : List Addr} (h : a ≠ w) (r : a ∉ ws) : a ∉ w :: ws := fun q => (List.mem_cons.mp q).elim h r
theorem own_wm0 {P : Addr → Prop} : ∀ x ∈ ([] : List Addr), P x := fun _ q => nomatch q
theorem own_wmc {P : Addr → Prop} {w : Addr} {ws : List Addr} (h : P w) (r : ∀ x ∈ ws, P x) : ∀ x ∈ w :: ws, P x := fun x q => (List.mem_cons.mp q).elim (fun z => z ▸ h) (r x)
end New
end Jvm.RoadKit
namespace Jvm.OwnFP
open Jvm.FP Jvm.Free.Fl Sem ClassFile Op
/-- the double's value in units of 2 ^ -1074 -/
def zv (x : UInt64) : Int := Core.zval Core.b64 (Core.val64 x)
def zm (x : UInt64) : Nat := Core.zmag Core.b64 (Core.val64 x)
theorem nn {x : UInt64} (h : NoNaN64 x) : Core.val64 x ≠ .nan := (Core.notNaN_iff x).mp (noNaN64_no.mp h)
theorem nnF {x : UInt64} (h : Fin64 x) : NoNaN64 x := h.noNaN
theorem cv {x y : UInt64} (hx : NoNaN64 x) (hy : NoNaN64 y) (o : CmpOp) : cmpValue (FP.dcmp x y) o = if zv x < zv y then -1 else if zv x = zv y then 0 else 1 := by
  have h : FP.dcmp x y = some (compare (zv x) (zv y)) := Core.dcmp_zval (nn hx) (nn hy)
  rw [h, Core.compare_ite]
  by_cases h1 : zv x < zv y
  · rw [if_pos h1, if_pos h1]; cases o <;> rfl
  · rw [if_neg h1, if_neg h1]
    by_cases h2 : zv x = zv y
    · rw [if_pos h2, if_pos h2]; cases o <;> rfl
    · rw [if_neg h2, if_neg h2]; cases o <;> rfl
theorem cv_lt {x y : UInt64} (hx : NoNaN64 x) (hy : NoNaN64 y) (h : zv x < zv y) (o : CmpOp) : cmpValue (FP.dcmp x y) o = -1 := by rw [cv hx hy, if_pos h]
theorem cv_eq {x y : UInt64} (hx : NoNaN64 x) (hy : NoNaN64 y) (h : zv x = zv y) (o : CmpOp) : cmpValue (FP.dcmp x y) o = 0 := by rw [cv hx hy, if_neg (by omega), if_pos h]
theorem cv_gt {x y : UInt64} (hx : NoNaN64 x) (hy : NoNaN64 y) (h : zv y < zv x) (o : CmpOp) : cmpValue (FP.dcmp x y) o = 1 := by rw [cv hx hy, if_neg (by omega), if_neg (by omega)]
theorem cv_ge {x y : UInt64} (hx : NoNaN64 x) (hy : NoNaN64 y) (h : zv y ≤ zv x) (o : CmpOp) : ¬ cmpValue (FP.dcmp x y) o < 0 := by
  rw [cv hx hy, if_neg (by omega)]; split <;> decide
theorem cv_le {x y : UInt64} (hx : NoNaN64 x) (hy : NoNaN64 y) (h : zv x ≤ zv y) (o : CmpOp) : ¬ 0 < cmpValue (FP.dcmp x y) o := by
  rw [cv hx hy]; split
  · decide
  · rw [if_pos (by omega)]; decide
theorem sh {x : UInt64} (h : Fin64 x) : ∃ s c q, Core.val64 x = .fin s c q := fin64_core.mp h
theorem zv_dint {i : Int} {x : UInt64} (h : Core.DInt i x) : zv x = i * (Core.one64 : Int) := Core.DInt_zval h
theorem zv_zero : zv 0 = 0 := Core.zval64_zero
theorem fin_zero : Fin64 0 := by unfold Fin64; decide
theorem fin_one : Fin64 4607182418800017408 := by unfold Fin64; decide
theorem one_pos : (0 : Int) < (Core.one64 : Int) := by have := Core.one64_pos; omega
theorem zv_sgn (x : UInt64) : zv x = Core.signed (Core.sgn (Core.val64 x)) (zm x) := rfl
theorem zm_abs (x : UInt64) : (zv x).natAbs = zm x := by rw [zv_sgn, Core.natAbs_signed]
theorem add_le {x y v : UInt64} (hx : Fin64 x) (hy : Fin64 y) (hv : NoNaN64 v) (h : zv x + zv y ≤ zv v) : zv (FP.dadd x y) ≤ zv v := by
  show Core.zval Core.b64 (Core.val64 (Core.dadd x y)) ≤ _
  rw [Core.val64_dadd]
  exact Core.sum_le Core.good_b64 (sh hx) (sh hy) (Core.val64_fits x) (Core.val64_fits y) (Core.val64_fits v) (nn hv) h
theorem add_ge {x y v : UInt64} (hx : Fin64 x) (hy : Fin64 y) (hv : NoNaN64 v) (h : zv v ≤ zv x + zv y) : zv v ≤ zv (FP.dadd x y) := by
  show _ ≤ Core.zval Core.b64 (Core.val64 (Core.dadd x y))
  rw [Core.val64_dadd]
  exact Core.sum_ge Core.good_b64 (sh hx) (sh hy) (Core.val64_fits x) (Core.val64_fits y) (Core.val64_fits v) (nn hv) h
theorem shn {x : UInt64} (h : Fin64 x) : ∃ s c q, Core.negate (Core.val64 x) = .fin s c q := by
  obtain ⟨s, c, q, e⟩ := sh h; exact ⟨!s, c, q, by rw [e]; rfl⟩
theorem sub_le {x y v : UInt64} (hx : Fin64 x) (hy : Fin64 y) (hv : NoNaN64 v) (h : zv x - zv y ≤ zv v) : zv (FP.dsub x y) ≤ zv v := by
  show Core.zval Core.b64 (Core.val64 (Core.dsub x y)) ≤ _
  rw [Core.val64_dsub]
  exact Core.sum_le Core.good_b64 (sh hx) (shn hy) (Core.val64_fits x) (Core.negate_fits (Core.val64_fits y)) (Core.val64_fits v) (nn hv) (by rw [Core.zval_negate]; exact h)
theorem sub_ge {x y v : UInt64} (hx : Fin64 x) (hy : Fin64 y) (hv : NoNaN64 v) (h : zv v ≤ zv x - zv y) : zv v ≤ zv (FP.dsub x y) := by
  show _ ≤ Core.zval Core.b64 (Core.val64 (Core.dsub x y))
  rw [Core.val64_dsub]
  exact Core.sum_ge Core.good_b64 (sh hx) (shn hy) (Core.val64_fits x) (Core.negate_fits (Core.val64_fits y)) (Core.val64_fits v) (nn hv) (by rw [Core.zval_negate]; exact h)
/-- no NaN and no greater than something finite: finite -/
theorem fin_of {x v : UInt64} (hx : NoNaN64 x) (hv : Fin64 v) (h : zm x ≤ zm v) : Fin64 x := by
  refine fin64_core.mpr ?_
  have h1 : Core.zmag Core.b64 (Core.val64 v) < _ := (fin64_core.mp hv).zval_lt
  have h2 := nn hx
  unfold zm at h
  cases e : Core.val64 x with
  | nan => exact absurd e h2
  | inf s => rw [e] at h; exact absurd (Nat.lt_of_le_of_lt h h1) (Nat.lt_irrefl _)
  | fin s c q => exact ⟨s, c, q, e⟩
/-- 2 ^ -k in those units -/
def U (k : Nat) : Int := ((2 ^ (1074 - k) : Nat) : Int)
theorem U_pos (k : Nat) : 0 < U k := by unfold U; have := Nat.two_pow_pos (1074 - k); omega
theorem U_zero : U 0 = (Core.one64 : Int) := rfl
theorem U_add {k j : Nat} (h : k + j ≤ 1074) : U k = ((2 ^ j : Nat) : Int) * U (k + j) := by
  unfold U
  rw [← Int.natCast_mul, ← Nat.pow_add, show j + (1074 - (k + j)) = 1074 - k by omega]
/-- x is i / 2 ^ k, exactly -/
def Is (x : UInt64) (i : Int) (k : Nat) : Prop := Fin64 x ∧ zv x = i * U k
theorem signed_abs (i : Int) : Core.signed (decide (i < 0)) i.natAbs = i := by
  unfold Core.signed
  by_cases h : i < 0
  · simp [h]; omega
  · simp [h]; omega
theorem repr (i : Int) (k : Nat) (hk : k ≤ 1074) (hi : i.natAbs < 2 ^ 53) : ∃ v : UInt64, Is v i k := by
  obtain ⟨c', q', h1, h2⟩ := Core.round_exact Core.good_b64 (decide (i < 0)) (c := i.natAbs) (q := -(k : Int)) hi (by rw [Core.qmin_b64]; omega) (by show _ ≤ (971 : Int); omega)
  have hf : Core.fits Core.b64 (.fin (decide (i < 0)) c' q') := h1 ▸ Core.round_fits Core.good_b64 _
  have hv := Core.val64_of64 hf
  refine ⟨Core.of64 (.fin (decide (i < 0)) c' q'), fin64_core.mpr ⟨_, _, _, hv⟩, ?_⟩
  unfold zv Core.zval
  rw [hv]
  show Core.signed (decide (i < 0)) (Core.inUnits c' q' Core.b64.qmin) = _
  rw [h2]
  unfold Core.inUnits
  rw [Core.signed_mul, signed_abs, Core.qmin_b64]
  unfold U
  rw [show (-(k : Int) - -1074).toNat = 1074 - k by omega]
theorem is_dint {i : Int} {x : UInt64} (h : Core.DInt i x) (hf : Fin64 x) : Is x i 0 := ⟨hf, by rw [zv_dint h, U_zero]⟩
theorem is_i2d (v : Int32) : Is (FP.i2d v) v.toInt 0 := is_dint (Core.i2d_int v) (i2d_fin v)
theorem is_l2d {v : Int64} (h : v.toInt.natAbs ≤ 2 ^ 53) : Is (FP.l2d v) v.toInt 0 := is_dint (Core.l2d_int h) (l2d_fin v)
theorem is_zero (k : Nat) : Is 0 0 k := ⟨fin_zero, by rw [zv_zero, Int.zero_mul]⟩
theorem is_one : Is 4607182418800017408 1 0 := is_dint Core.dint_one fin_one
theorem Is.nn {x : UInt64} {i : Int} {k : Nat} (h : Is x i k) : NoNaN64 x := h.1.noNaN
theorem Is.up {x : UInt64} {i : Int} {k : Nat} (h : Is x i k) (j : Nat) (hj : k + j ≤ 1074) : Is x (i * ((2 ^ j : Nat) : Int)) (k + j) := ⟨h.1, by rw [h.2, U_add hj, Int.mul_assoc]⟩
theorem is_val {x v : UInt64} {i : Int} {k : Nat} (hn : NoNaN64 x) (hv : Is v i k) (h : zv x = zv v) : Is x i k := ⟨fin_of hn hv.1 (by rw [← zm_abs, ← zm_abs, h]; exact Nat.le_refl _), h.trans hv.2⟩
theorem Is.add {x y : UInt64} {i j : Int} {k : Nat} (hx : Is x i k) (hy : Is y j k) (hk : k ≤ 1074) (h : (i + j).natAbs < 2 ^ 53) : Is (FP.dadd x y) (i + j) k := by
  obtain ⟨v, hv⟩ := repr (i + j) k hk h
  have e : zv x + zv y = zv v := by rw [hx.2, hy.2, hv.2, Int.add_mul]
  exact is_val (dadd_out hx.nn hy.1) hv (Int.le_antisymm (add_le hx.1 hy.1 hv.nn (by omega)) (add_ge hx.1 hy.1 hv.nn (by omega)))
theorem Is.sub {x y : UInt64} {i j : Int} {k : Nat} (hx : Is x i k) (hy : Is y j k) (hk : k ≤ 1074) (h : (i - j).natAbs < 2 ^ 53) : Is (FP.dsub x y) (i - j) k := by
  obtain ⟨v, hv⟩ := repr (i - j) k hk h
  have e : zv x - zv y = zv v := by rw [hx.2, hy.2, hv.2, Int.sub_mul]
  exact is_val (dsub_out hx.nn hy.1) hv (Int.le_antisymm (sub_le hx.1 hy.1 hv.nn (by omega)) (sub_ge hx.1 hy.1 hv.nn (by omega)))
theorem Is.lt_iff {x y : UInt64} {i j : Int} {k : Nat} (hx : Is x i k) (hy : Is y j k) : zv x < zv y ↔ i < j := by
  rw [hx.2, hy.2]; exact Int.mul_lt_mul_right (U_pos k)
theorem Is.eq_iff {x y : UInt64} {i j : Int} {k : Nat} (hx : Is x i k) (hy : Is y j k) : zv x = zv y ↔ i = j := by
  rw [hx.2, hy.2]; exact ⟨fun h => Int.eq_of_mul_eq_mul_right (Int.ne_of_gt (U_pos k)) h, fun h => by rw [h]⟩
theorem Is.cmp {x y : UInt64} {i j : Int} {k : Nat} (hx : Is x i k) (hy : Is y j k) (o : CmpOp) : cmpValue (FP.dcmp x y) o = if i < j then -1 else if i = j then 0 else 1 := by
  rw [cv hx.nn hy.nn]
  simp only [hx.lt_iff hy, hx.eq_iff hy]
/-- a quotient: her magnitude lies on the same side of any double as the true one; her sign is the signs' product -/
theorem div_shape {x y : UInt64} (hx : Fin64 x) (hy : Fin64 y) (hz : zm y ≠ 0) : ∃ (s t : Bool) (c d : Nat) (q r : Int), Core.val64 x = .fin s c q ∧ Core.val64 y = .fin t d r ∧ 0 < d ∧ Core.val64 (FP.ddiv x y) = Core.roundRatio Core.b64 (s != t) c d (q - r) := by
  obtain ⟨s, c, q, e1⟩ := sh hx
  obtain ⟨t, d, r, e2⟩ := sh hy
  have hd : d ≠ 0 := fun h => hz (by unfold zm; rw [e2]; show Core.inUnits d r _ = 0; rw [h]; simp [Core.inUnits])
  refine ⟨s, t, c, d, q, r, e1, e2, by omega, ?_⟩
  have := Core.val64_ddiv x y
  rw [e1, e2] at this
  show Core.val64 (Core.ddiv x y) = _
  rw [this]
  simp [Core.quotient, hd]
theorem units2 (c : Nat) (q r : Int) (hq : -1074 ≤ q) (hr : -1074 ≤ r) : Core.inUnits c (q - r) (-1074 - (r + 1074)) = Core.inUnits c q (-1074) * Core.one64 := by
  unfold Core.inUnits Core.one64
  rw [Nat.mul_assoc, ← Nat.pow_add]
  congr 2
  omega
theorem div_le {x y v : UInt64} (hx : Fin64 x) (hy : Fin64 y) (hz : zm y ≠ 0) (hv : NoNaN64 v) (h : zm x * Core.one64 ≤ zm v * zm y) : zm (FP.ddiv x y) ≤ zm v := by
  obtain ⟨s, t, c, d, q, r, e1, e2, hd, e3⟩ := div_shape hx hy hz
  have f1 := Core.val64_fits x; have f2 := Core.val64_fits y
  rw [e1] at f1; rw [e2] at f2
  have q1 := f1.2.1; have r1 := f2.2.1
  rw [Core.qmin_b64] at q1 r1
  unfold zm at h ⊢
  rw [e3]
  rw [e1, e2] at h
  refine Core.zmag_roundRatio_le Core.good_b64 hd (Core.val64_fits v) (nn hv) (e0 := -1074 - (r + 1074)) (by rw [Core.qmin_b64]; omega) (by omega) ?_
  rw [units2 c q r q1 r1, Core.qmin_b64, show (-1074 - (-1074 - (r + 1074))).toNat = (r + 1074).toNat by omega]
  change Core.inUnits c q Core.b64.qmin * _ ≤ _ * Core.inUnits d r Core.b64.qmin at h
  rw [Core.qmin_b64] at h
  refine Nat.le_trans h (Nat.le_of_eq ?_)
  unfold Core.inUnits
  rw [show (r - -1074).toNat = (r + 1074).toNat by omega]
  ac_rfl
theorem div_ge {x y v : UInt64} (hx : Fin64 x) (hy : Fin64 y) (hz : zm y ≠ 0) (h : zm v * zm y ≤ zm x * Core.one64) : zm v ≤ zm (FP.ddiv x y) := by
  obtain ⟨s, t, c, d, q, r, e1, e2, hd, e3⟩ := div_shape hx hy hz
  have f1 := Core.val64_fits x; have f2 := Core.val64_fits y
  rw [e1] at f1; rw [e2] at f2
  have q1 := f1.2.1; have r1 := f2.2.1
  rw [Core.qmin_b64] at q1 r1
  unfold zm at h ⊢
  rw [e3]
  rw [e1, e2] at h
  refine Core.zmag_roundRatio_ge Core.good_b64 hd (Core.val64_fits v) (e0 := -1074 - (r + 1074)) (by rw [Core.qmin_b64]; omega) (by omega) ?_
  rw [units2 c q r q1 r1, Core.qmin_b64, show (-1074 - (-1074 - (r + 1074))).toNat = (r + 1074).toNat by omega]
  change _ * Core.inUnits d r Core.b64.qmin ≤ Core.inUnits c q Core.b64.qmin * _ at h
  rw [Core.qmin_b64] at h
  refine Nat.le_trans (Nat.le_of_eq ?_) h
  unfold Core.inUnits
  rw [show (r - -1074).toNat = (r + 1074).toNat by omega]
  ac_rfl
theorem div_sgn {x y : UInt64} (hx : Fin64 x) (hy : Fin64 y) (hz : zm y ≠ 0) : Core.sgn (Core.val64 (FP.ddiv x y)) = (Core.sgn (Core.val64 x) != Core.sgn (Core.val64 y)) := by
  obtain ⟨s, t, c, d, q, r, e1, e2, hd, e3⟩ := div_shape hx hy hz
  rw [e3, Core.sgn_roundRatio, e1, e2]; rfl
theorem nz_of {y : UInt64} (hy : Fin64 y) (hz : zm y ≠ 0) : Nz64 y := by
  refine nz64_core.mpr fun ⟨s, q, e⟩ => hz ?_
  unfold zm; rw [e]; simp [Core.zmag, Core.inUnits]
theorem div_nn {x y : UInt64} (hx : Fin64 x) (hy : Fin64 y) (hz : zm y ≠ 0) : NoNaN64 (FP.ddiv x y) := ddiv_out hx.noNaN hy (nz_of hy hz)
theorem sgn_pos {x : UInt64} (h : 0 < zv x) : Core.sgn (Core.val64 x) = false := by
  rw [zv_sgn] at h
  cases e : Core.sgn (Core.val64 x)
  · rfl
  · rw [e] at h; simp [Core.signed] at h; omega
theorem zv_of_pos {x : UInt64} (h : Core.sgn (Core.val64 x) = false) : zv x = (zm x : Int) := by rw [zv_sgn, h]; rfl
theorem Is.zm {x : UInt64} {i : Int} {k : Nat} (h : Is x i k) : (OwnFP.zm x : Int) = (i.natAbs : Int) * U k := by
  rw [← zm_abs, h.2, Int.natAbs_mul, Int.natCast_mul, Int.natAbs_of_nonneg (Int.le_of_lt (U_pos k))]
/-- i / 2 ^ j is exact -/
theorem Is.div2 {x y : UInt64} {i : Int} {j : Nat} (hx : Is x i 0) (hy : Is y ((2 ^ j : Nat) : Int) 0) (hj : j ≤ 1074) (hi : i.natAbs < 2 ^ 53) : Is (FP.ddiv x y) i j := by
  obtain ⟨v, hv⟩ := repr i j hj hi
  have p2 := Nat.two_pow_pos j
  have hyz : (OwnFP.zm y : Int) = ((2 ^ j : Nat) : Int) * U 0 := by rw [hy.zm]; simp
  have hz : OwnFP.zm y ≠ 0 := fun h => by
    rw [h] at hyz
    have := Int.mul_pos (Int.natCast_pos.mpr p2) (U_pos 0)
    omega
  have e : OwnFP.zm x * Core.one64 = OwnFP.zm v * OwnFP.zm y := by
    have : ((OwnFP.zm x * Core.one64 : Nat) : Int) = ((OwnFP.zm v * OwnFP.zm y : Nat) : Int) := by
      rw [Int.natCast_mul, Int.natCast_mul, hx.zm, hv.zm, hyz, ← U_zero, U_add (k := 0) (j := j) (by omega), Nat.zero_add]
      ac_rfl
    exact Int.ofNat.inj this
  have em : OwnFP.zm (FP.ddiv x y) = OwnFP.zm v := Nat.le_antisymm (div_le hx.1 hy.1 hz hv.nn (Nat.le_of_eq e)) (div_ge hx.1 hy.1 hz (Nat.le_of_eq e.symm))
  have sy : Core.sgn (Core.val64 y) = false := sgn_pos (by rw [hy.2]; exact Int.mul_pos (Int.natCast_pos.mpr p2) (U_pos 0))
  refine ⟨fin_of (div_nn hx.1 hy.1 hz) hv.1 (Nat.le_of_eq em), ?_⟩
  rw [zv_sgn, div_sgn hx.1 hy.1 hz, sy, em]
  by_cases h0 : i = 0
  · have : OwnFP.zm v = 0 := by have := hv.zm; rw [h0] at this; simp at this; exact this
    rw [this, h0]; simp [Core.signed_zero]
  · have ex : Core.signed (Core.sgn (Core.val64 x)) (OwnFP.zm x) = i * U 0 := hx.2
    have hz2 := hv.zm
    have hzx := hx.zm
    have u0 := U_pos 0; have uj := U_pos j
    cases e : Core.sgn (Core.val64 x)
    · rw [e] at ex
      have : 0 < i := by
        have h1 : (0 : Int) ≤ i * U 0 := by rw [← ex]; simp [Core.signed]
        have h2 : 0 ≤ i := Int.not_lt.mp fun q => by have := Int.mul_neg_of_neg_of_pos q u0; omega
        omega
      show ((OwnFP.zm v : Nat) : Int) = _
      rw [hz2, show ((i.natAbs : Nat) : Int) = i by omega]
    · rw [e] at ex
      have : i < 0 := by
        have h1 : i * U 0 ≤ 0 := by rw [← ex]; simp [Core.signed]
        have h2 : i ≤ 0 := Int.not_lt.mp fun q => by have := Int.mul_pos q u0; omega
        omega
      show -((OwnFP.zm v : Nat) : Int) = _
      rw [hz2, show ((i.natAbs : Nat) : Int) = -i by omega, Int.neg_mul, Int.neg_neg]
theorem abs_le_max {x : UInt64} (h : Fin64 x) : ¬ (0 : Int32) < cmpValue (FP.dcmp (x &&& 0x7fffffffffffffff) (9218868437227405311 : UInt64)) .g := by
  rcases (Core.le_max (noNaN64_no.mp h.noNaN)).mpr (fin64_core.mp h) with q | q
  · rw [show FP.dcmp (x &&& 0x7fffffffffffffff) (9218868437227405311 : UInt64) = some .lt from q]; decide
  · rw [show FP.dcmp (x &&& 0x7fffffffffffffff) (9218868437227405311 : UInt64) = some .eq from q]; decide
/-- equal numbers over one divisor: equal numbers -/
theorem div_congr {x x' y : UInt64} (hx : Fin64 x) (hx' : Fin64 x') (h : zv x = zv x') (hy : Fin64 y) (hz : OwnFP.zm y ≠ 0) : zv (FP.ddiv x y) = zv (FP.ddiv x' y) := by
  by_cases h0 : zv x' = 0
  · have e1 : OwnFP.zm x = 0 := by rw [← zm_abs, h, h0]; rfl
    have e2 : OwnFP.zm x' = 0 := by rw [← zm_abs, h0]; rfl
    have z0 : OwnFP.zm 0 = 0 := by rw [← zm_abs, zv_zero]; rfl
    have d1 := div_le (v := 0) hx hy hz fin_zero.noNaN (by rw [e1]; simp)
    have d2 := div_le (v := 0) hx' hy hz fin_zero.noNaN (by rw [e2]; simp)
    rw [z0] at d1 d2
    rw [zv_sgn, zv_sgn, Nat.le_zero.mp d1, Nat.le_zero.mp d2, Core.signed_zero, Core.signed_zero]
  · have : x = x' := by
      refine Core.eq_bits (fun hz' => h0 hz'.zval) ?_
      have q : Core.dcmp x x' = some (compare (zv x) (zv x')) := Core.dcmp_zval (nn hx.noNaN) (nn hx'.noNaN)
      rw [q, h, Core.compare_self_int]
    rw [this]
end Jvm.OwnFP
namespace Jvm.OwnArr
open Sem ClassFile Op Lib Jvm.Stand Jvm.Free Jvm.LawKit Jvm.RoadKit
theorem lt32 {i n : Nat} (h : i < n) (hn : n ≤ 100000) : Int32.ofNat i < Int32.ofNat n := by
  rw [Int32.lt_iff_toInt_lt, Int32.toInt_ofNat_of_lt (by omega), Int32.toInt_ofNat_of_lt (by omega)]
  omega
theorem nlt32 {i n : Nat} (h : n ≤ i) (hn : i ≤ 100000) : ¬ Int32.ofNat i < Int32.ofNat n := by
  rw [Int32.lt_iff_toInt_lt, Int32.toInt_ofNat_of_lt (by omega), Int32.toInt_ofNat_of_lt (by omega)]
  omega
theorem lt32_iff {i n : Nat} (hi : i ≤ 100000) (hn : n ≤ 100000) : Int32.ofNat i < Int32.ofNat n ↔ i < n := by
  rw [Int32.lt_iff_toInt_lt, Int32.toInt_ofNat_of_lt (by omega), Int32.toInt_ofNat_of_lt (by omega)]
  omega
theorem eq32_iff {i n : Nat} (hi : i ≤ 100000) (hn : n ≤ 100000) : Int32.ofNat i = Int32.ofNat n ↔ i = n := by
  rw [← Int32.toInt_inj, Int32.toInt_ofNat_of_lt (by omega), Int32.toInt_ofNat_of_lt (by omega)]
  omega
theorem nn32 {n : Nat} (hn : n ≤ 100000) : ¬ Int32.ofNat n < 0 := by
  rw [Int32.lt_iff_toInt_lt, Int32.toInt_ofNat_of_lt (by omega), show (0 : Int32).toInt = 0 from rfl]
  omega
theorem n32 {n : Nat} (hn : n ≤ 100000) : (Int32.ofNat n).toNatClampNeg = n := by
  rw [Int32.toNatClampNeg, Int32.toInt_ofNat_of_lt (by omega)]; rfl
theorem one32 (i : Nat) : Int32.ofNat i + (1 : Int32) = Int32.ofNat (i + 1) := (Int32.ofNat_add i 1).symm
/-- an int from 0 on is the Nat of its value -/
theorem of_int {x : Int32} (h : 0 ≤ x.toInt) : x = Int32.ofNat x.toInt.toNat := by
  apply Int32.toInt_inj.mp
  have := x.toInt_lt
  rw [Int32.toInt_ofNat_of_lt (by omega)]
  omega
def vals (f : Nat → Value) (n : Nat) : List Value := (List.range n).map f
theorem vals_len (f : Nat → Value) (n : Nat) : (vals f n).length = n := by simp [vals]
theorem vals_at (f : Nat → Value) {n j : Nat} (h : j < n) (d : Value) : (vals f n).getD j d = f j := by simp [vals, List.getD_eq_getElem?_getD, h]
theorem vals_congr {f g : Nat → Value} {n : Nat} (h : ∀ j, j < n → f j = g j) : vals f n = vals g n := by
  simp only [vals]
  exact List.map_congr_left fun j hj => h j (List.mem_range.mp hj)
theorem vals_set (f : Nat → Value) {n i : Nat} (v : Value) : (vals f n).set i v = vals (fun j => if j = i then v else f j) n := by
  apply List.ext_getElem
  · simp [vals]
  · intro k h1 h2
    simp only [vals, List.getElem_set, List.getElem_map, List.getElem_range]
    by_cases q : i = k
    · rw [if_pos q, if_pos q.symm]
    · rw [if_neg q, if_neg fun z => q z.symm]
theorem vals_const (v : Value) (n : Nat) : vals (fun _ => v) n = List.replicate n v := by
  simp [vals, List.map_const']
end Jvm.OwnArr
namespace Jvm.Pilot.@@N@@
open Jvm Jvm.ClassFile Sem Op Lib Jvm.Free Jvm.Stand Jvm.LawKit Jvm.RoadKit Bundle Jvm.Pilot.@@N@@.Jvm.D
open Jvm.Free.Fl (NoNaN64 Fin64 Nz64)
open Jvm.OwnArr
def own_inf : UInt64 := 9218868437227405312
def own_up {α : Type} (f : Nat → α) (v : Nat) (x : α) : Nat → α := fun j => if j = v then x else f j
def own_LD (f : Nat → UInt64) (n : Nat) : List Value := vals (fun j => .double (f j)) n
def own_LZ (f : Nat → Int32) (n : Nat) : List Value := vals (fun j => .int (f j)) n
def own_LN (f : Nat → Nat) (n : Nat) : List Value := vals (fun j => .int (Int32.ofNat (f j))) n
theorem own_LD_set (f : Nat → UInt64) (n v : Nat) (x : UInt64) : (own_LD f n).set v (.double x) = own_LD (own_up f v x) n := by
  unfold own_LD; rw [vals_set]; refine vals_congr fun j _ => ?_
  unfold own_up; by_cases q : j = v
  · rw [if_pos q, if_pos q]
  · rw [if_neg q, if_neg q]
theorem own_LZ_set (f : Nat → Int32) (n v : Nat) (x : Int32) : (own_LZ f n).set v (.int x) = own_LZ (own_up f v x) n := by
  unfold own_LZ; rw [vals_set]; refine vals_congr fun j _ => ?_
  unfold own_up; by_cases q : j = v
  · rw [if_pos q, if_pos q]
  · rw [if_neg q, if_neg q]
theorem own_LN_set (f : Nat → Nat) (n v : Nat) (x : Nat) : (own_LN f n).set v (.int (Int32.ofNat x)) = own_LN (own_up f v x) n := by
  unfold own_LN; rw [vals_set]; refine vals_congr fun j _ => ?_
  unfold own_up; by_cases q : j = v
  · rw [if_pos q, if_pos q]
  · rw [if_neg q, if_neg q]
theorem own_LD_at (f : Nat → UInt64) {n j : Nat} (h : j < n) (d : Value) : (own_LD f n).getD j d = .double (f j) := vals_at _ h d
theorem own_LZ_at (f : Nat → Int32) {n j : Nat} (h : j < n) (d : Value) : (own_LZ f n).getD j d = .int (f j) := vals_at _ h d
theorem own_LN_at (f : Nat → Nat) {n j : Nat} (h : j < n) (d : Value) : (own_LN f n).getD j d = .int (Int32.ofNat (f j)) := vals_at _ h d
theorem own_LD_len (f : Nat → UInt64) (n : Nat) : (own_LD f n).length = n := vals_len _ _
theorem own_LZ_len (f : Nat → Int32) (n : Nat) : (own_LZ f n).length = n := vals_len _ _
theorem own_LN_len (f : Nat → Nat) (n : Nat) : (own_LN f n).length = n := vals_len _ _
theorem own_padv (d : Value) (n i : Nat) : (vals (fun _ => d) n).getD i d = ([] : List Value).getD i d := by
  by_cases h : i < n
  · rw [vals_at _ h]; simp
  · simp [vals, List.getD_eq_getElem?_getD, h]
theorem own_infnn : NoNaN64 own_inf := by unfold NoNaN64 own_inf; decide
theorem own_infz : ¬ FP.Core.DZero own_inf := by rw [FP.Core.zero_bits2]; decide
theorem own_infeq {x : UInt64} (h : cmpValue (FP.dcmp x own_inf) .l = 0) : x = own_inf := by
  refine FP.Core.eq_bits own_infz ?_
  show FP.dcmp x own_inf = some .eq
  rw [cmpV_l] at h
  cases q : FP.dcmp x own_inf with
  | none => rw [q] at h; exact absurd h (by decide)
  | some o => rw [q] at h; cases o <;> first | rfl | exact absurd h (by decide)
theorem own_infne {x : UInt64} (h : ¬ cmpValue (FP.dcmp x own_inf) .l = 0) : x ≠ own_inf := fun q => h (by rw [q]; exact dcmpV_self own_infnn .l)
/-- how many j below n meet P -/
def own_cnt (P : Nat → Prop) [DecidablePred P] : Nat → Nat
  | 0 => 0
  | n + 1 => own_cnt P n + if P n then 1 else 0
theorem own_cnt_le (P : Nat → Prop) [DecidablePred P] (n : Nat) : own_cnt P n ≤ n := by
  induction n with
  | zero => exact Nat.le_refl _
  | succ n ih => unfold own_cnt; split <;> omega
theorem own_cnt_lt (P : Nat → Prop) [DecidablePred P] {n v : Nat} (h : v < n) (hv : ¬ P v) : own_cnt P n < n := by
  induction n with
  | zero => omega
  | succ n ih =>
    unfold own_cnt
    by_cases q : v = n
    · subst q; rw [if_neg hv]; have := own_cnt_le P v; omega
    · have := ih (by omega); split <;> omega
theorem own_cnt_congr (P Q : Nat → Prop) [DecidablePred P] [DecidablePred Q] {n : Nat} (h : ∀ j, j < n → (P j ↔ Q j)) : own_cnt P n = own_cnt Q n := by
  induction n with
  | zero => rfl
  | succ n ih =>
    unfold own_cnt
    rw [ih fun j hj => h j (by omega)]
    have := h n (by omega)
    by_cases q : P n
    · rw [if_pos q, if_pos (this.mp q)]
    · rw [if_neg q, if_neg fun z => q (this.mpr z)]
theorem own_cnt_up (P Q : Nat → Prop) [DecidablePred P] [DecidablePred Q] {n v : Nat} (hv : v < n) (h1 : ¬ P v) (h2 : Q v) (h : ∀ j, j < n → j ≠ v → (P j ↔ Q j)) : own_cnt Q n = own_cnt P n + 1 := by
  induction n with
  | zero => omega
  | succ n ih =>
    unfold own_cnt
    by_cases q : v = n
    · subst q
      rw [if_neg h1, if_pos h2, own_cnt_congr P Q fun j hj => h j (by omega) (by omega)]
    · have e := ih (by omega) fun j hj hne => h j (by omega) hne
      have := h n (by omega) (by omega)
      by_cases z : P n
      · rw [if_pos z, if_pos (this.mp z)]; omega
      · rw [if_neg z, if_neg fun y => z (this.mpr y)]; omega
/-- the store is well formed -/
def own_WF (n : Nat) (dist : Nat → UInt64) (st : Nat → Int32) (rch : Nat → Nat) (rc : Nat) (opn : Nat → Nat) (oc : Nat) : Prop :=
  rc = own_cnt (fun j => dist j ≠ own_inf) n ∧ oc ≤ rc ∧ (∀ r, r < rc → rch r < n) ∧ (∀ k, k < oc → opn k < n ∧ dist (opn k) ≠ own_inf) ∧ (∀ j, j < n → dist j ≠ own_inf → ∃ r, r < rc ∧ rch r = j) ∧ (∀ j, j < n → st j ≠ 0 → dist j ≠ own_inf) ∧ (∀ j, j < n → NoNaN64 (dist j))
def own_RR (v : Nat) (d : UInt64) (dist : Nat → UInt64) (st : Nat → Int32) (rch : Nat → Nat) (rc : Nat) (opn : Nat → Nat) (oc : Nat) (dist2 : Nat → UInt64) (rch2 : Nat → Nat) (rc2 : Nat) (opn2 : Nat → Nat) (oc2 : Nat) : Prop :=
  (st v ≠ 0 ∧ dist2 = dist ∧ rch2 = rch ∧ rc2 = rc ∧ opn2 = opn ∧ oc2 = oc) ∨
  (st v = 0 ∧ dist v = own_inf ∧ dist2 = own_up dist v d ∧ rch2 = own_up rch rc v ∧ rc2 = rc + 1 ∧ opn2 = own_up opn oc v ∧ oc2 = oc + 1) ∨
  (st v = 0 ∧ dist v ≠ own_inf ∧ cmpValue (FP.dcmp d (dist v)) .g < 0 ∧ dist2 = own_up dist v d ∧ rch2 = rch ∧ rc2 = rc ∧ opn2 = opn ∧ oc2 = oc) ∨
  (st v = 0 ∧ dist v ≠ own_inf ∧ ¬ (cmpValue (FP.dcmp d (dist v)) .g < 0) ∧ dist2 = dist ∧ rch2 = rch ∧ rc2 = rc ∧ opn2 = opn ∧ oc2 = oc)
theorem own_up_eq {α : Type} (f : Nat → α) (v : Nat) (x : α) : own_up f v x v = x := if_pos rfl
theorem own_up_ne {α : Type} (f : Nat → α) {v j : Nat} (x : α) (h : j ≠ v) : own_up f v x j = f j := if_neg h
theorem own_finne {d : UInt64} (h : Fin64 d) : d ≠ own_inf := fun q => by rw [q] at h; unfold Fin64 own_inf at h; exact absurd h (by decide)
theorem own_WF_fresh {n : Nat} {dist : Nat → UInt64} {st : Nat → Int32} {rch : Nat → Nat} {rc : Nat} {opn : Nat → Nat} {oc v : Nat} (W : own_WF n dist st rch rc opn oc) (hv : v < n) (h : dist v = own_inf) : rc < n ∧ oc < n := by
  have := own_cnt_lt (fun j => dist j ≠ own_inf) hv (fun q => q h)
  have h1 := W.1; have h2 := W.2.1
  omega
theorem own_WF_reach {n : Nat} {dist : Nat → UInt64} {st : Nat → Int32} {rch : Nat → Nat} {rc : Nat} {opn : Nat → Nat} {oc v : Nat} {d : UInt64} {dist2 : Nat → UInt64} {rch2 : Nat → Nat} {rc2 : Nat} {opn2 : Nat → Nat} {oc2 : Nat} (W : own_WF n dist st rch rc opn oc) (hv : v < n) (hd : Fin64 d) (h : own_RR v d dist st rch rc opn oc dist2 rch2 rc2 opn2 oc2) : own_WF n dist2 st rch2 rc2 opn2 oc2 := by
  obtain ⟨w1, w2, w3, w4, w5, w6, w7⟩ := W
  have hdi := own_finne hd
  rcases h with ⟨-, e1, e2, e3, e4, e5⟩ | ⟨h0, hi, e1, e2, e3, e4, e5⟩ | ⟨h0, hi, -, e1, e2, e3, e4, e5⟩ | ⟨-, -, -, e1, e2, e3, e4, e5⟩ <;> rw [e1, e2, e3, e4, e5]
  · exact ⟨w1, w2, w3, w4, w5, w6, w7⟩
  · refine ⟨?_, by omega, ?_, ?_, ?_, ?_, ?_⟩
    · rw [w1]
      exact (own_cnt_up (fun j => dist j ≠ own_inf) (fun j => own_up dist v d j ≠ own_inf) hv (fun q => q hi) (by rw [own_up_eq]; exact hdi) fun j _ hne => by rw [own_up_ne _ _ hne]).symm
    · intro r hr
      by_cases q : r = rc
      · rw [q, own_up_eq]; exact hv
      · rw [own_up_ne _ _ q]; exact w3 r (by omega)
    · intro k hk
      by_cases q : k = oc
      · rw [q, own_up_eq, own_up_eq]; exact ⟨hv, hdi⟩
      · rw [own_up_ne _ _ q]
        obtain ⟨a1, a2⟩ := w4 k (by omega)
        refine ⟨a1, ?_⟩
        by_cases z : opn k = v
        · rw [z, own_up_eq]; exact hdi
        · rw [own_up_ne _ _ z]; exact a2
    · intro j hj hne
      by_cases q : j = v
      · exact ⟨rc, by omega, by rw [own_up_eq, q]⟩
      · rw [own_up_ne _ _ q] at hne
        obtain ⟨r, hr, e⟩ := w5 j hj hne
        exact ⟨r, by omega, by rw [own_up_ne _ _ (by omega)]; exact e⟩
    · intro j hj hs
      by_cases q : j = v
      · rw [q] at hs; exact absurd h0 hs
      · rw [own_up_ne _ _ q]; exact w6 j hj hs
    · intro j hj
      by_cases q : j = v
      · rw [q, own_up_eq]; exact hd.noNaN
      · rw [own_up_ne _ _ q]; exact w7 j hj
  · refine ⟨?_, w2, w3, ?_, ?_, ?_, ?_⟩
    · rw [w1]
      refine own_cnt_congr (fun j => dist j ≠ own_inf) (fun j => own_up dist v d j ≠ own_inf) fun j _ => ?_
      by_cases q : j = v
      · rw [q, own_up_eq]; exact ⟨fun _ => hdi, fun _ => hi⟩
      · rw [own_up_ne _ _ q]
    · intro k hk
      obtain ⟨a1, a2⟩ := w4 k hk
      refine ⟨a1, ?_⟩
      by_cases z : opn k = v
      · rw [z, own_up_eq]; exact hdi
      · rw [own_up_ne _ _ z]; exact a2
    · intro j hj hne
      by_cases q : j = v
      · exact w5 j hj (q ▸ hi)
      · rw [own_up_ne _ _ q] at hne; exact w5 j hj hne
    · intro j hj hs
      by_cases q : j = v
      · rw [q, own_up_eq]; exact hdi
      · rw [own_up_ne _ _ q]; exact w6 j hj hs
    · intro j hj
      by_cases q : j = v
      · rw [q, own_up_eq]; exact hd.noNaN
      · rw [own_up_ne _ _ q]; exact w7 j hj
  · exact ⟨w1, w2, w3, w4, w5, w6, w7⟩
theorem own_WF_start (n : Nat) : own_WF n (fun _ => own_inf) (fun _ => 0) (fun _ => 0) 0 (fun _ => 0) 0 := by
  refine ⟨?_, Nat.le_refl _, fun r h => by omega, fun k h => by omega, fun j _ h => absurd rfl h, fun j _ h => absurd rfl h, fun _ _ => own_infnn⟩
  induction n with
  | zero => rfl
  | succ n ih => unfold own_cnt; rw [← ih]; simp
/-- settleNearest: near lies in the first oc of the open ones, and none of them is nearer -/
def own_near (dist : Nat → UInt64) (opn : Nat → Nat) (k near : Nat) : Prop := near < k ∧ ∀ j, j < k → ¬ (cmpValue (FP.dcmp (dist (opn j)) (dist (opn near))) .g < 0)
theorem own_near_zv {x y : UInt64} (hx : NoNaN64 x) (hy : NoNaN64 y) : cmpValue (FP.dcmp x y) .g < 0 ↔ OwnFP.zv x < OwnFP.zv y := by
  rw [OwnFP.cv hx hy]
  by_cases h : OwnFP.zv x < OwnFP.zv y
  · rw [if_pos h]; exact ⟨fun _ => h, fun _ => by decide⟩
  · rw [if_neg h]
    refine ⟨fun q => ?_, fun q => absurd q h⟩
    split at q <;> exact absurd q (by decide)
theorem own_WF_settle {n : Nat} {dist : Nat → UInt64} {st : Nat → Int32} {rch : Nat → Nat} {rc : Nat} {opn : Nat → Nat} {oc near : Nat} (W : own_WF n dist st rch rc opn oc) (h : near < oc) : own_WF n dist (own_up st (opn near) 1) rch rc (own_up opn near (opn (oc - 1))) (oc - 1) := by
  obtain ⟨w1, w2, w3, w4, w5, w6, w7⟩ := W
  refine ⟨w1, by omega, w3, ?_, w5, ?_, w7⟩
  · intro k hk
    by_cases q : k = near
    · rw [q, own_up_eq]; exact w4 _ (by omega)
    · rw [own_up_ne _ _ q]; exact w4 k (by omega)
  · intro j hj hs
    by_cases q : j = opn near
    · rw [q]; exact (w4 near h).2
    · rw [own_up_ne _ _ q] at hs; exact w6 j hj hs
/-- reset: what is reached is cleared -/
def own_clr {α : Type} (x : α) (rch : Nat → Nat) : Nat → (Nat → α) → (Nat → α)
  | 0, f => f
  | i + 1, f => own_up (own_clr x rch i f) (rch i) x
theorem own_clr_hit {α : Type} (x : α) (rch : Nat → Nat) (f : Nat → α) {i r : Nat} (h : r < i) : own_clr x rch i f (rch r) = x := by
  induction i with
  | zero => omega
  | succ i ih =>
    unfold own_clr
    by_cases q : rch r = rch i
    · rw [q, own_up_eq]
    · rw [own_up_ne _ _ q]; exact ih (by
        have : r ≠ i := fun z => q (by rw [z])
        omega)
theorem own_clr_miss {α : Type} (x : α) (rch : Nat → Nat) (f : Nat → α) {i j : Nat} (h : f j = x) : own_clr x rch i f j = x := by
  induction i with
  | zero => exact h
  | succ i ih =>
    unfold own_clr
    by_cases q : j = rch i
    · rw [q, own_up_eq]
    · rw [own_up_ne _ _ q]; exact ih
theorem own_WF_resetD {n : Nat} {dist : Nat → UInt64} {st : Nat → Int32} {rch : Nat → Nat} {rc : Nat} {opn : Nat → Nat} {oc : Nat} (W : own_WF n dist st rch rc opn oc) : ∀ j, j < n → own_clr own_inf rch rc dist j = own_inf := by
  obtain ⟨w1, w2, w3, w4, w5, w6, w7⟩ := W
  intro j hj
  by_cases q : dist j = own_inf
  · exact own_clr_miss _ _ _ q
  · obtain ⟨r, hr, rfl⟩ := w5 j hj q
    exact own_clr_hit _ _ _ hr
theorem own_WF_resetZ {n : Nat} {dist : Nat → UInt64} {st : Nat → Int32} {rch : Nat → Nat} {rc : Nat} {opn : Nat → Nat} {oc : Nat} (W : own_WF n dist st rch rc opn oc) : ∀ j, j < n → own_clr 0 rch rc st j = 0 := by
  obtain ⟨w1, w2, w3, w4, w5, w6, w7⟩ := W
  intro j hj
  by_cases q : st j = 0
  · exact own_clr_miss _ _ _ q
  · obtain ⟨r, hr, rfl⟩ := w5 j hj (w6 j hj q)
    exact own_clr_hit _ _ _ hr
theorem own_LD_congr {f g : Nat → UInt64} {n : Nat} (h : ∀ j, j < n → f j = g j) : own_LD f n = own_LD g n := vals_congr fun j hj => by rw [h j hj]
theorem own_LZ_congr {f g : Nat → Int32} {n : Nat} (h : ∀ j, j < n → f j = g j) : own_LZ f n = own_LZ g n := vals_congr fun j hj => by rw [h j hj]
theorem ef_isfin (m : MethodId) (d1 : UInt64) : entryFrame m #[(.double d1)] 2 = mkF m 0 #[.val (.double d1), .second] [] := by first | (simp [entryFrame, mkF, argsToLocals, Value.category]; done) | rfl
theorem d5_0 : decode jdk_117_method_8_code 0 = .ok (.dload_n 0, 1) := by decide +kernel
theorem d5_1 : decode jdk_117_method_8_code 1 = .ok (.invokestatic 38, 3) := by decide +kernel
theorem pd__28D_29D : parseMethodDescriptor "(D)D" = some ⟨[.double], some .double⟩ := by decide +kernel
theorem d5_4 : decode jdk_117_method_8_code 4 = .ok (.ldc2_w 111, 3) := by decide +kernel
theorem d5_7 : decode jdk_117_method_8_code 7 = .ok (.dcmp .g, 1) := by decide +kernel
theorem d5_8 : decode jdk_117_method_8_code 8 = .ok (.ifCond .gt 7, 3) := by decide +kernel
theorem d5_11 : decode jdk_117_method_8_code 11 = .ok (.iconst 1, 1) := by decide +kernel
theorem d5_12 : decode jdk_117_method_8_code 12 = .ok (.goto 4, 3) := by decide +kernel
theorem d5_16 : decode jdk_117_method_8_code 16 = .ok (.ireturn, 1) := by decide +kernel
theorem pn_java_lang_Double : plainName "java/lang/Double" = true := by first | (simp [plainName, overriddenIn]; done) | decide +kernel
def Qisfin (Z : State) (d1 : UInt64) (h0 : Heap) (n0 : Nat) (v : Option Value) (h : Heap) (L : List Loc) : Prop := v = some (.int (1 : Int32)) ∧ Fr n0 L ∧ h = h0
set_option maxRecDepth 65536 in
set_option maxHeartbeats 40000000 in
theorem rmisfin (l : Launch) (Z : State) (a0 : Array Value) (hw : ∀ d ∈ tables_1, d.before a0 Z = true) (ws : List Jvm.Cond) (d1 : UInt64) (h0 : Heap) (n0 : Nat) (Z0 : n0 ≤ h0.size) (hfin : Fin64 d1) :
    MetFree l (⟨"java/lang/Double", "isFinite", "(D)Z"⟩ : MethodName) (head1 (Jvm.Cond.code (⟨"java/lang/Double", "isFinite", "(D)Z"⟩ : MethodName) jdk_117_method_8_code 2 (some .boolean) :: ws) ({ frames := 1, cells := 0, slots := 0, locals := 13 } : Room)) (fun a U => a = #[(.double d1)] ∧ Z.Warmed39 U.vm ∧ U.heap = h0) (fun _ _ _ _ _ => True) (fun _ U o U' => ∃ v L, o = .returned v ∧ Qisfin Z d1 h0 n0 v U'.heap L ∧ FrameEnd U o U' L ({ frames := 1, cells := 0, slots := 0, locals := 13 } : Room).cells ({ frames := 1, cells := 0, slots := 0, locals := 13 } : Room).slots) := by
  refine MetFree.of_bodySF (plainFor_of_name pn_java_lang_Double) hisR ?_
  intro p e s m args below meth c s₁ Bd hml0 hP hK
  obtain ⟨rfl, hZ, hh⟩ := hP
  have hx := Bd.exec
  have hby := Bd.bytes
  have hml : c.maxLocals = 2 := hml0
  have hown : s.vm.findClass "java/lang/Double" = some m.cls := findClass_of_methodNamed Bd.named
  have hnm := (name_of_methodNamed Bd.named Bd.method).1
  have X0 : Stand p l e ({ frames := 1, cells := 0, slots := 0, locals := 13 } : Room) s m #[(.double d1)] below meth c s₁ [] 0 0 := Stand.of_body Bd
  have e0 : s₁.heap = h0 := by rw [← hh, Bd.state]; rfl
  have N0 := Fr.nil n0
  have pre0 : ∀ t_, Steps p.tables e below (s₁.setTop (mkF m 0 #[.val (.double d1), .second] [])) t_ → Steps p.tables e below (s₁.setTop (entryFrame m #[(.double d1)] 2)) t_ := fun t_ k => castTop (ef_isfin m d1) k
  obtain ⟨T101, X101, e101, st101⟩ := natS X0 hx hZ hown (hw _ (List.mem_of_getElem? (i := 36) rfl)) (hw _ (List.mem_of_getElem? (i := 37) rfl)) (hw _ (List.mem_of_getElem? (i := 38) rfl)) (hw _ (List.mem_of_getElem? (i := 39) rfl)) (by decide) e0 (W := 0) (F := fun a' => a' = #[(.double d1)] ∧ NoNaN64 d1) (val' := (.double (d1 &&& 0x7fffffffffffffff))) (fun hc => Jvm.Free.Fl.Abs.absD_pays d1 hc (by decide) (by decide)) (g := (mkF m 1 #[.val (.double d1), .second] [(.double d1)])) rfl (by rw [hml]; rfl) (argsL := [(.double d1)]) (rest := []) (lenOf pd__28D_29D rfl) rfl (by show 2 * 0 + _ ≤ _; exact Nat.le_of_eq rfl) (hb hby d5_1) (by decide) (by decide) ⟨rfl, hfin.noNaN⟩ rfl
  have pre102 : ∀ t_, Steps p.tables e below (T101.setTop (mkF m 16 #[.val (.double d1), .second] [(.int (1 : Int32))])) t_ → Steps p.tables e below (s₁.setTop (entryFrame m #[(.double d1)] 2)) t_ := fun t_ kt => pre0 t_ (by
      show Steps p.tables e below (s₁.setTop (mkF m 0 #[.val (.double d1), .second] [])) _
      refine XS.dloadN X0.here hx rfl (hb hby d5_0) rfl ?_
      show Steps p.tables e below (s₁.setTop (mkF m 1 #[.val (.double d1), .second] [(.double d1)])) _
      refine st101 _ ?_
      show Steps p.tables e below (T101.setTop (mkF m 4 #[.val (.double d1), .second] [(.double (d1 &&& 0x7fffffffffffffff))])) _
      refine X101.ldc2DoubleC hx hown (mvT hZ (hw _ (List.mem_of_getElem? (i := 40) rfl))) (g := (mkF m 4 #[.val (.double d1), .second] [(.double (d1 &&& 0x7fffffffffffffff))])) rfl (hb hby d5_4) _ ?_
      show Steps p.tables e below (T101.setTop (mkF m 7 #[.val (.double d1), .second] [(.double (9218868437227405311 : UInt64)), (.double (d1 &&& 0x7fffffffffffffff))])) _
      refine XS.dcmpS X101.here hx rfl (hb hby d5_7) rfl (v := (cmpValue (FP.dcmp (d1 &&& 0x7fffffffffffffff) (9218868437227405311 : UInt64)) .g)) rfl ?_
      show Steps p.tables e below (T101.setTop (mkF m 8 #[.val (.double d1), .second] [(.int (cmpValue (FP.dcmp (d1 &&& 0x7fffffffffffffff) (9218868437227405311 : UInt64)) .g))])) _
      refine XS.ifNo X101.here hx rfl (hb hby d5_8) rfl ((if0 _ _).trans (flt (OwnFP.abs_le_max hfin : ¬ ((0 : Int32) < (cmpValue (FP.dcmp (d1 &&& 0x7fffffffffffffff) (9218868437227405311 : UInt64)) .g)))).2.2.1) ?_
      show Steps p.tables e below (T101.setTop (mkF m 11 #[.val (.double d1), .second] [])) _
      refine XS.iconst X101.here hx rfl (hb hby d5_11) ?_
      show Steps p.tables e below (T101.setTop (mkF m 12 #[.val (.double d1), .second] [(.int (1 : Int32))])) _
      refine XS.goto X101.here hx rfl (pc0 := 12) (pc' := 16) rfl (hb hby d5_12) (by decide) (by decide) ?_
      exact kt)
  obtain ⟨fs, hr, hrun, hended, hW, hsame⟩ := X101.leave (v := some (.int (1 : Int32))) (fun h => by rw [Bd.returns] at h; cases h)
  refine ⟨_, _, pre102 _ ?_, hrun, hended, _, _, rfl, ?_, ⟨_, rfl⟩, hW, hsame.mono (by decide) (by decide)⟩
  · show Steps p.tables e below (T101.setTop (mkF m 16 #[.val (.double d1), .second] [(.int (1 : Int32))])) _
    exact retN X101 hx (t := .boolean) Bd.returns (by simp) (hb hby d5_16) hr
  · show Qisfin Z d1 h0 n0 _ T101.heap _
    rw [e101]
    exact ⟨rfl, N0, rfl⟩
def own_fl (d : UInt64) (i j : Nat) : Value := if j < i then .double d else .double 0
theorem own_fl_step (d : UInt64) (i n : Nat) : (OwnArr.vals (own_fl d i) n).set i (.double d) = OwnArr.vals (own_fl d (i + 1)) n := by
  rw [OwnArr.vals_set]
  refine OwnArr.vals_congr fun j _ => ?_
  unfold own_fl
  by_cases q : j = i
  · rw [if_pos q, if_pos (by omega)]
  · rw [if_neg q]
    by_cases z : j < i
    · rw [if_pos z, if_pos (by omega)]
    · rw [if_neg z, if_neg (by omega)]
theorem own_fl_end (d : UInt64) (n : Nat) : OwnArr.vals (own_fl d n) n = OwnArr.vals (fun _ => .double d) n := OwnArr.vals_congr fun j h => if_pos h
theorem own_fl_start (d : UInt64) (n : Nat) : OwnArr.vals (own_fl d 0) n = OwnArr.vals (fun _ => .double 0) n := OwnArr.vals_congr fun j h => if_neg (by omega)
theorem d3_6 : decode jdk_65_method_113_code 6 = .ok (.iload_n 3, 1) := by decide +kernel
theorem d3_7 : decode jdk_65_method_113_code 7 = .ok (.iload 4, 2) := by decide +kernel
theorem d3_9 : decode jdk_65_method_113_code 9 = .ok (.if_icmp .ge 13, 3) := by decide +kernel
theorem d3_12 : decode jdk_65_method_113_code 12 = .ok (.aload_n 0, 1) := by decide +kernel
theorem d3_13 : decode jdk_65_method_113_code 13 = .ok (.iload_n 3, 1) := by decide +kernel
theorem d3_14 : decode jdk_65_method_113_code 14 = .ok (.dload_n 1, 1) := by decide +kernel
theorem d3_15 : decode jdk_65_method_113_code 15 = .ok (.dastore, 1) := by decide +kernel
theorem d3_16 : decode jdk_65_method_113_code 16 = .ok (.iinc 3 1, 3) := by decide +kernel
theorem d3_19 : decode jdk_65_method_113_code 19 = .ok (.goto (-13), 3) := by decide +kernel
set_option maxRecDepth 65536 in
set_option maxHeartbeats 40000000 in
theorem own_fill_t {p : Program} {l : Launch} {e : Env} {R : Room} {s : State} {m : MethodId} {args : Array Value} {below : List Frame} {meth : Method} {c : Code} {cells slots : Nat} {Z : State} {a0 : Array Value} {n0 : Nat} {T0 : State} {locs : List Loc} {h0 : Heap} (a1 : Addr) (d1 : UInt64) (kk : ClassId) (n : Nat) (i : Nat) (X0 : Stand p l e R s m args below meth c T0 locs cells slots) (hx : p.tables.exec = Jvm.exec) (hZ : Z.Warmed39 s.vm) (hw : ∀ d ∈ tables_1, d.before a0 Z = true) (hby : c.code = jdk_65_method_113_code) (hml : c.maxLocals = 5) (hown : s.vm.findClass "java/util/Arrays" = some m.cls) (e0 : T0.heap = h0) (N0 : Fr n0 locs) (Z0 : n0 ≤ h0.size) (hRf : 0 ≤ R.frames) (hRl : 0 ≤ R.locals) (hRc : cells + 0 ≤ R.cells) (hRs : slots + 0 ≤ R.slots) (P_V_a1 : Arv Z h0 a1 kk .double (Int32.ofNat n) (OwnArr.vals (own_fl d1 i) n) (.double (0 : UInt64))) (P_G_a1 : n0 ≤ a1) (hn_ : n ≤ 1000) (hi_ : i < n) :
    ∃ (T' : State) (h' : Heap) (locs' : List Loc), Stand p l e R s m args below meth c T' locs' cells slots ∧ T'.heap = h' ∧ Fr n0 locs' ∧ Keep h0 h' [a1] ∧ (Arv Z h' a1 kk .double (Int32.ofNat n) (OwnArr.vals (own_fl d1 (i + 1)) n) (.double (0 : UInt64))) ∧ ∀ t_, Steps p.tables e below (T'.setTop (mkF m 6 #[.val (.ref a1), .val (.double d1), .second, .val (.int (Int32.ofNat (i + 1))), .val (.int (Int32.ofNat n))] [])) t_ → Steps p.tables e below (T0.setTop (mkF m 6 #[.val (.ref a1), .val (.double d1), .second, .val (.int (Int32.ofNat i)), .val (.int (Int32.ofNat n))] [])) t_ := by
  have pre0 : ∀ t_, Steps p.tables e below (T0.setTop (mkF m 6 #[.val (.ref a1), .val (.double d1), .second, .val (.int (Int32.ofNat i)), .val (.int (Int32.ofNat n))] [])) t_ → Steps p.tables e below (T0.setTop (mkF m 6 #[.val (.ref a1), .val (.double d1), .second, .val (.int (Int32.ofNat i)), .val (.int (Int32.ofNat n))] [])) t_ := fun _ k => k
  obtain ⟨cl101, Ar101, Q101, S101, M101, H101, G101⟩ := id P_V_a1
  have in102 : ¬ ((Int32.ofNat i) < 0 ∨ cl101.slots.size ≤ ((Int32.ofNat i)).toNatClampNeg) := inb_of S101 ⟨OwnArr.nn32 (by omega), OwnArr.lt32 hi_ (by omega)⟩
  obtain ⟨T103, h103, X103, e103, W103, st103⟩ := stD X0 hx hZ e0 Ar101 (j := (Int32.ofNat i)) in102 (g := (mkF m 15 #[.val (.ref a1), .val (.double d1), .second, .val (.int (Int32.ofNat i)), .val (.int (Int32.ofNat n))] [(.double d1), (.int (Int32.ofNat i)), (.ref a1)])) rfl rfl (hb hby d3_15)
  have z104 : n0 ≤ h103.size := Nat.le_trans Z0 (Keep.of_wr W103).1
  have k105 : Keep h0 h103 [a1] := (Keep.refl h0 [a1]).wr W103 (Or.inl (List.mem_of_getElem? (i := 0) rfl))
  have V103 : Arv Z h103 a1 kk .double (Int32.ofNat n) (OwnArr.vals (own_fl d1 (i + 1)) n) (.double (0 : UInt64)) := own_fl_step d1 i n ▸ Arv.set Ar101 Q101 S101 M101 H101 G101 rfl W103 i (OwnArr.n32 (by omega)) (by rw [OwnArr.vals_len]; exact hi_)
  have N103 : Fr n0 _ := Fr.snoc X103 N0 P_G_a1
  have pre106 : ∀ t_, Steps p.tables e below (T103.setTop (mkF m 6 #[.val (.ref a1), .val (.double d1), .second, .val (.int (Int32.ofNat (i + 1))), .val (.int (Int32.ofNat n))] [])) t_ → Steps p.tables e below (T0.setTop (mkF m 6 #[.val (.ref a1), .val (.double d1), .second, .val (.int (Int32.ofNat i)), .val (.int (Int32.ofNat n))] [])) t_ := fun t_ kt => pre0 t_ (by
      show Steps p.tables e below (T0.setTop (mkF m 6 #[.val (.ref a1), .val (.double d1), .second, .val (.int (Int32.ofNat i)), .val (.int (Int32.ofNat n))] [])) _
      refine XS.iloadN X0.here hx rfl (hb hby d3_6) rfl ?_
      show Steps p.tables e below (T0.setTop (mkF m 7 #[.val (.ref a1), .val (.double d1), .second, .val (.int (Int32.ofNat i)), .val (.int (Int32.ofNat n))] [(.int (Int32.ofNat i))])) _
      refine XS.iload X0.here hx rfl (hb hby d3_7) rfl ?_
      show Steps p.tables e below (T0.setTop (mkF m 9 #[.val (.ref a1), .val (.double d1), .second, .val (.int (Int32.ofNat i)), .val (.int (Int32.ofNat n))] [(.int (Int32.ofNat n)), (.int (Int32.ofNat i))])) _
      refine XS.icmpNo X0.here hx rfl (hb hby d3_9) rfl (tlt (OwnArr.lt32 hi_ (by omega) : (Int32.ofNat i) < (Int32.ofNat n))).2.1 ?_
      show Steps p.tables e below (T0.setTop (mkF m 12 #[.val (.ref a1), .val (.double d1), .second, .val (.int (Int32.ofNat i)), .val (.int (Int32.ofNat n))] [])) _
      refine XS.aloadN X0.here hx rfl (hb hby d3_12) rfl rfl ?_
      show Steps p.tables e below (T0.setTop (mkF m 13 #[.val (.ref a1), .val (.double d1), .second, .val (.int (Int32.ofNat i)), .val (.int (Int32.ofNat n))] [(.ref a1)])) _
      refine XS.iloadN X0.here hx rfl (hb hby d3_13) rfl ?_
      show Steps p.tables e below (T0.setTop (mkF m 14 #[.val (.ref a1), .val (.double d1), .second, .val (.int (Int32.ofNat i)), .val (.int (Int32.ofNat n))] [(.int (Int32.ofNat i)), (.ref a1)])) _
      refine XS.dloadN X0.here hx rfl (hb hby d3_14) rfl ?_
      show Steps p.tables e below (T0.setTop (mkF m 15 #[.val (.ref a1), .val (.double d1), .second, .val (.int (Int32.ofNat i)), .val (.int (Int32.ofNat n))] [(.double d1), (.int (Int32.ofNat i)), (.ref a1)])) _
      refine st103 _ ?_
      show Steps p.tables e below (T103.setTop (mkF m 16 #[.val (.ref a1), .val (.double d1), .second, .val (.int (Int32.ofNat i)), .val (.int (Int32.ofNat n))] [])) _
      refine XS.iinc X103.here hx rfl (hb hby d3_16) rfl (l' := #[.val (.ref a1), .val (.double d1), .second, .val (.int ((Int32.ofNat i) + (1 : Int32))), .val (.int (Int32.ofNat n))]) rfl ?_
      show Steps p.tables e below (T103.setTop (mkF m 19 #[.val (.ref a1), .val (.double d1), .second, .val (.int ((Int32.ofNat i) + (1 : Int32))), .val (.int (Int32.ofNat n))] [])) _
      rw [OwnArr.one32 i]
      show Steps p.tables e below (T103.setTop (mkF m 19 #[.val (.ref a1), .val (.double d1), .second, .val (.int (Int32.ofNat (i + 1))), .val (.int (Int32.ofNat n))] [])) _
      refine XS.goto X103.here hx rfl (pc0 := 19) (pc' := 6) rfl (hb hby d3_19) (by decide) (by decide) ?_
      exact kt)
  exact ⟨T103, h103, _, X103, e103, N103, k105, V103, fun t_ kt => pre106 t_ kt⟩
set_option maxRecDepth 65536 in
set_option maxHeartbeats 4000000 in
theorem own_fill_l {p : Program} {l : Launch} {e : Env} {R : Room} {s : State} {m : MethodId} {args : Array Value} {below : List Frame} {meth : Method} {c : Code} {cells slots : Nat} {Z : State} {a0 : Array Value} {n0 : Nat} (a1 : Addr) (d1 : UInt64) (kk : ClassId) (n : Nat) (hx : p.tables.exec = Jvm.exec) (hZ : Z.Warmed39 s.vm) (hw : ∀ d ∈ tables_1, d.before a0 Z = true) (hby : c.code = jdk_65_method_113_code) (hml : c.maxLocals = 5) (hown : s.vm.findClass "java/util/Arrays" = some m.cls) (P_G_a1 : n0 ≤ a1) (hn_ : n ≤ 1000) : ∀ (k i : Nat) (T0 : State) (h0 : Heap) (locs : List Loc), i + k = n → 0 ≤ i → Stand p l e R s m args below meth c T0 locs cells slots → T0.heap = h0 → Fr n0 locs → n0 ≤ h0.size → (Arv Z h0 a1 kk .double (Int32.ofNat n) (OwnArr.vals (own_fl d1 i) n) (.double (0 : UInt64))) → 0 ≤ R.frames → 0 ≤ R.locals → cells + 0 ≤ R.cells → slots + 0 ≤ R.slots →
    ∃ (T' : State) (h' : Heap) (locs' : List Loc), Stand p l e R s m args below meth c T' locs' cells slots ∧ T'.heap = h' ∧ Fr n0 locs' ∧ Keep h0 h' [a1] ∧ (Arv Z h' a1 kk .double (Int32.ofNat n) (OwnArr.vals (own_fl d1 n) n) (.double (0 : UInt64))) ∧ ∀ t_, Steps p.tables e below (T'.setTop (mkF m 6 #[.val (.ref a1), .val (.double d1), .second, .val (.int (Int32.ofNat n)), .val (.int (Int32.ofNat n))] [])) t_ → Steps p.tables e below (T0.setTop (mkF m 6 #[.val (.ref a1), .val (.double d1), .second, .val (.int (Int32.ofNat i)), .val (.int (Int32.ofNat n))] [])) t_ := by
  intro k
  induction k with
  | zero =>
    intro i T0 h0 locs hi hlo X0 e0 N0 Z0 V0 hf hl hc hs
    obtain rfl : i = n := by omega
    exact ⟨T0, h0, locs, X0, e0, N0, Keep.refl _ _, V0, fun _ q => q⟩
  | succ k ih =>
    intro i T0 h0 locs hi hlo X0 e0 N0 Z0 V0 hf hl hc hs
    obtain ⟨T1, h1, L1, X1, e1, N1, K1, Y0, st1⟩ := own_fill_t a1 d1 kk n i X0 hx hZ hw hby hml hown e0 N0 Z0 hf hl hc hs V0 P_G_a1 hn_ (by omega)
    obtain ⟨T2, h2, L2, X2, e2, N2, K2, U0, st2⟩ := ih (i + 1) T1 h1 L1 (by omega) (by omega) X1 e1 N1 (Nat.le_trans Z0 K1.1) Y0 hf hl hc hs
    exact ⟨T2, h2, L2, X2, e2, N2, K1.trans K2 (own_wmc (Or.inl (List.mem_of_getElem? (i := 0) rfl)) own_wm0), U0, fun q kq => st1 q (st2 q kq)⟩
theorem own_fill_lP {p : Program} {l : Launch} {e : Env} {R : Room} {s : State} {m : MethodId} {args : Array Value} {below : List Frame} {meth : Method} {c : Code} {cells slots : Nat} {Z : State} {a0 : Array Value} {n0 : Nat} {T0 : State} {locs : List Loc} {h0 : Heap} (a1 : Addr) (d1 : UInt64) (kk : ClassId) (n : Nat) (X0 : Stand p l e R s m args below meth c T0 locs cells slots) (hx : p.tables.exec = Jvm.exec) (hZ : Z.Warmed39 s.vm) (hw : ∀ d ∈ tables_1, d.before a0 Z = true) (hby : c.code = jdk_65_method_113_code) (hml : c.maxLocals = 5) (hown : s.vm.findClass "java/util/Arrays" = some m.cls) (e0 : T0.heap = h0) (N0 : Fr n0 locs) (Z0 : n0 ≤ h0.size) (hRf : 0 ≤ R.frames) (hRl : 0 ≤ R.locals) (hRc : cells + 0 ≤ R.cells) (hRs : slots + 0 ≤ R.slots) (P_V_a1 : Arv Z h0 a1 kk .double (Int32.ofNat n) (OwnArr.vals (own_fl d1 0) n) (.double (0 : UInt64))) (P_G_a1 : n0 ≤ a1) (hn_ : n ≤ 1000) (hle_ : 0 ≤ n) :
    ∃ (T' : State) (h' : Heap) (locs' : List Loc), Stand p l e R s m args below meth c T' locs' cells slots ∧ T'.heap = h' ∧ Fr n0 locs' ∧ Keep h0 h' [a1] ∧ (Arv Z h' a1 kk .double (Int32.ofNat n) (OwnArr.vals (own_fl d1 n) n) (.double (0 : UInt64))) ∧ ∀ t_, Steps p.tables e below (T'.setTop (mkF m 6 #[.val (.ref a1), .val (.double d1), .second, .val (.int (Int32.ofNat n)), .val (.int (Int32.ofNat n))] [])) t_ → Steps p.tables e below (T0.setTop (mkF m 6 #[.val (.ref a1), .val (.double d1), .second, .val (.int (Int32.ofNat 0)), .val (.int (Int32.ofNat n))] [])) t_ := by
  exact own_fill_l a1 d1 kk n hx hZ hw hby hml hown P_G_a1 hn_ (n - 0) 0 T0 h0 locs (by omega) (by omega) X0 e0 N0 Z0 P_V_a1 hRf hRl hRc hRs
theorem ef_fill (m : MethodId) (a1 : Addr) (d1 : UInt64) : entryFrame m #[(.ref a1), (.double d1)] 5 = mkF m 0 #[.val (.ref a1), .val (.double d1), .second, .unset, .unset] [] := by first | (simp [entryFrame, mkF, argsToLocals, Value.category]; done) | rfl
theorem d3_0 : decode jdk_65_method_113_code 0 = .ok (.iconst 0, 1) := by decide +kernel
theorem d3_1 : decode jdk_65_method_113_code 1 = .ok (.istore_n 3, 1) := by decide +kernel
theorem d3_2 : decode jdk_65_method_113_code 2 = .ok (.aload_n 0, 1) := by decide +kernel
theorem d3_3 : decode jdk_65_method_113_code 3 = .ok (.arraylength, 1) := by decide +kernel
theorem d3_4 : decode jdk_65_method_113_code 4 = .ok (.istore 4, 2) := by decide +kernel
theorem d3_22 : decode jdk_65_method_113_code 22 = .ok (.return_, 1) := by decide +kernel
theorem pn_java_util_Arrays : plainName "java/util/Arrays" = true := by first | (simp [plainName, overriddenIn]; done) | decide +kernel
def Qfill (Z : State) (a1 : Addr) (d1 : UInt64) (kk : ClassId) (n : Nat) (h0 : Heap) (n0 : Nat) (v : Option Value) (h : Heap) (L : List Loc) : Prop := v = none ∧ Fr n0 L ∧ Keep h0 h [a1] ∧ (Arv Z h a1 kk .double (Int32.ofNat n) (OwnArr.vals (fun _ => .double d1) n) (.double (0 : UInt64)))
set_option maxRecDepth 65536 in
set_option maxHeartbeats 40000000 in
theorem rmfill (l : Launch) (Z : State) (a0 : Array Value) (hw : ∀ d ∈ tables_1, d.before a0 Z = true) (ws : List Jvm.Cond) (a1 : Addr) (d1 : UInt64) (kk : ClassId) (n : Nat) (h0 : Heap) (n0 : Nat) (Z0 : n0 ≤ h0.size) (P_V_a1 : Arv Z h0 a1 kk .double (Int32.ofNat n) (OwnArr.vals (fun _ => .double 0) n) (.double (0 : UInt64))) (P_G_a1 : n0 ≤ a1) (hn_ : n ≤ 1000) :
    MetFree l (⟨"java/util/Arrays", "fill", "([DD)V"⟩ : MethodName) (head1 (Jvm.Cond.code (⟨"java/util/Arrays", "fill", "([DD)V"⟩ : MethodName) jdk_65_method_113_code 5 none :: ws) ({ frames := 0, cells := 0, slots := 0, locals := 0 } : Room)) (fun a U => a = #[(.ref a1), (.double d1)] ∧ Z.Warmed39 U.vm ∧ U.heap = h0) (fun _ _ _ _ _ => True) (fun _ U o U' => ∃ v L, o = .returned v ∧ Qfill Z a1 d1 kk n h0 n0 v U'.heap L ∧ FrameEnd U o U' L ({ frames := 0, cells := 0, slots := 0, locals := 0 } : Room).cells ({ frames := 0, cells := 0, slots := 0, locals := 0 } : Room).slots) := by
  refine MetFree.of_bodySF (plainFor_of_name pn_java_util_Arrays) hisR ?_
  intro p e s m args below meth c s₁ Bd hml0 hP hK
  obtain ⟨rfl, hZ, hh⟩ := hP
  have hx := Bd.exec
  have hby := Bd.bytes
  have hml : c.maxLocals = 5 := hml0
  have hown : s.vm.findClass "java/util/Arrays" = some m.cls := findClass_of_methodNamed Bd.named
  have hnm := (name_of_methodNamed Bd.named Bd.method).1
  have X0 : Stand p l e ({ frames := 0, cells := 0, slots := 0, locals := 0 } : Room) s m #[(.ref a1), (.double d1)] below meth c s₁ [] 0 0 := Stand.of_body Bd
  have e0 : s₁.heap = h0 := by rw [← hh, Bd.state]; rfl
  have N0 := Fr.nil n0
  have pre0 : ∀ t_, Steps p.tables e below (s₁.setTop (mkF m 0 #[.val (.ref a1), .val (.double d1), .second, .unset, .unset] [])) t_ → Steps p.tables e below (s₁.setTop (entryFrame m #[(.ref a1), (.double d1)] 5)) t_ := fun t_ k => castTop (ef_fill m a1 d1) k
  obtain ⟨cl101, Ar101, Q101, S101, M101, H101, G101⟩ := id P_V_a1
  obtain ⟨T102, h102, L102, X102, e102, N102, K102, x102_0, st102⟩ := own_fill_lP (a1) (d1) (kk) (n) X0 hx hZ hw hby hml hown e0 N0 Z0 (by decide) (by decide) (by decide) (by decide) (own_fl_start d1 n ▸ P_V_a1) P_G_a1 (hn_) (Nat.zero_le _)
  have z103 : n0 ≤ h102.size := Nat.le_trans Z0 K102.1
  have k104 : Keep h0 h102 [a1] := (Keep.refl h0 [a1]).trans K102 (own_wmc (Or.inl (List.mem_of_getElem? (i := 0) rfl)) own_wm0)
  have pre105 : ∀ t_, Steps p.tables e below (T102.setTop (mkF m 22 #[.val (.ref a1), .val (.double d1), .second, .val (.int (Int32.ofNat n)), .val (.int (Int32.ofNat n))] [])) t_ → Steps p.tables e below (s₁.setTop (entryFrame m #[(.ref a1), (.double d1)] 5)) t_ := fun t_ kt => pre0 t_ (by
      show Steps p.tables e below (s₁.setTop (mkF m 0 #[.val (.ref a1), .val (.double d1), .second, .unset, .unset] [])) _
      refine XS.iconst X0.here hx rfl (hb hby d3_0) ?_
      show Steps p.tables e below (s₁.setTop (mkF m 1 #[.val (.ref a1), .val (.double d1), .second, .unset, .unset] [(.int (0 : Int32))])) _
      refine XS.istoreN X0.here hx rfl (hb hby d3_1) rfl (l' := #[.val (.ref a1), .val (.double d1), .second, .val (.int (0 : Int32)), .unset]) rfl ?_
      show Steps p.tables e below (s₁.setTop (mkF m 2 #[.val (.ref a1), .val (.double d1), .second, .val (.int (0 : Int32)), .unset] [])) _
      refine XS.aloadN X0.here hx rfl (hb hby d3_2) rfl rfl ?_
      show Steps p.tables e below (s₁.setTop (mkF m 3 #[.val (.ref a1), .val (.double d1), .second, .val (.int (0 : Int32)), .unset] [(.ref a1)])) _
      refine X0.arraylength hx (cell := cl101) (by rw [e0]; exact Ar101.1) (State.isArrayOf_alike hZ.alike Ar101.2.1) (g := (mkF m 3 #[.val (.ref a1), .val (.double d1), .second, .val (.int (0 : Int32)), .unset] [(.ref a1)])) rfl rfl (hb hby d3_3) _ ?_
      rw [len_of S101 M101]
      show Steps p.tables e below (s₁.setTop (mkF m 4 #[.val (.ref a1), .val (.double d1), .second, .val (.int (0 : Int32)), .unset] [(.int (Int32.ofNat n))])) _
      refine XS.istore X0.here hx rfl (hb hby d3_4) rfl (l' := #[.val (.ref a1), .val (.double d1), .second, .val (.int (0 : Int32)), .val (.int (Int32.ofNat n))]) rfl ?_
      show Steps p.tables e below (s₁.setTop (mkF m 6 #[.val (.ref a1), .val (.double d1), .second, .val (.int (0 : Int32)), .val (.int (Int32.ofNat n))] [])) _
      refine st102 _ ?_
      show Steps p.tables e below (T102.setTop (mkF m 6 #[.val (.ref a1), .val (.double d1), .second, .val (.int (Int32.ofNat n)), .val (.int (Int32.ofNat n))] [])) _
      refine XS.iloadN X102.here hx rfl (hb hby d3_6) rfl ?_
      show Steps p.tables e below (T102.setTop (mkF m 7 #[.val (.ref a1), .val (.double d1), .second, .val (.int (Int32.ofNat n)), .val (.int (Int32.ofNat n))] [(.int (Int32.ofNat n))])) _
      refine XS.iload X102.here hx rfl (hb hby d3_7) rfl ?_
      show Steps p.tables e below (T102.setTop (mkF m 9 #[.val (.ref a1), .val (.double d1), .second, .val (.int (Int32.ofNat n)), .val (.int (Int32.ofNat n))] [(.int (Int32.ofNat n)), (.int (Int32.ofNat n))])) _
      refine XS.icmpYes X102.here hx rfl (pc0 := 9) (pc' := 22) rfl (hb hby d3_9) rfl (flt (OwnArr.nlt32 (Nat.le_refl _) (by omega) : ¬ ((Int32.ofNat n) < (Int32.ofNat n)))).2.1 (by decide) (by decide) ?_
      exact kt)
  obtain ⟨fs, hr, hrun, hended, hW, hsame⟩ := X102.leave (v := none) (fun _ => rfl)
  refine ⟨_, _, pre105 _ ?_, hrun, hended, _, _, rfl, ?_, ⟨_, rfl⟩, hW, hsame.mono (by decide) (by decide)⟩
  · show Steps p.tables e below (T102.setTop (mkF m 22 #[.val (.ref a1), .val (.double d1), .second, .val (.int (Int32.ofNat n)), .val (.int (Int32.ofNat n))] [])) _
    exact X102.returnOut hx Bd.returns (hb hby d3_22) hr
  · show Qfill Z a1 d1 kk n h0 n0 _ T102.heap _
    rw [e102]
    exact ⟨rfl, N102, k104, own_fl_end d1 n ▸ x102_0⟩
theorem ef_Finit (m : MethodId) (f1 : Addr) : entryFrame m #[(.ref f1), (.int (Int32.ofNat n))] 2 = mkF m 0 #[.val (.ref f1), .val (.int (Int32.ofNat n))] [] := by first | (simp [entryFrame, mkF, argsToLocals, Value.category]; done) | rfl
theorem d1_0 : decode prog_39_method_1_code 0 = .ok (.aload_n 0, 1) := by decide +kernel
theorem d1_1 : decode prog_39_method_1_code 1 = .ok (.invokespecial 1, 3) := by decide +kernel
theorem d1_4 : decode prog_39_method_1_code 4 = .ok (.aload_n 0, 1) := by decide +kernel
theorem d1_5 : decode prog_39_method_1_code 5 = .ok (.iload_n 1, 1) := by decide +kernel
theorem d1_6 : decode prog_39_method_1_code 6 = .ok (.newarray .double, 2) := by decide +kernel
theorem d1_8 : decode prog_39_method_1_code 8 = .ok (.putfield 7, 3) := by decide +kernel
theorem d1_11 : decode prog_39_method_1_code 11 = .ok (.aload_n 0, 1) := by decide +kernel
theorem d1_12 : decode prog_39_method_1_code 12 = .ok (.getfield 7, 3) := by decide +kernel
theorem d1_15 : decode prog_39_method_1_code 15 = .ok (.ldc2_w 15, 3) := by decide +kernel
theorem pd__28_5bDD_29V : parseMethodDescriptor "([DD)V" = some ⟨[(.array .double), .double], none⟩ := by decide +kernel
theorem d1_18 : decode prog_39_method_1_code 18 = .ok (.invokestatic 17, 3) := by decide +kernel
theorem d1_21 : decode prog_39_method_1_code 21 = .ok (.aload_n 0, 1) := by decide +kernel
theorem d1_22 : decode prog_39_method_1_code 22 = .ok (.iload_n 1, 1) := by decide +kernel
theorem d1_23 : decode prog_39_method_1_code 23 = .ok (.newarray .boolean, 2) := by decide +kernel
theorem d1_25 : decode prog_39_method_1_code 25 = .ok (.putfield 23, 3) := by decide +kernel
theorem d1_28 : decode prog_39_method_1_code 28 = .ok (.aload_n 0, 1) := by decide +kernel
theorem d1_29 : decode prog_39_method_1_code 29 = .ok (.iload_n 1, 1) := by decide +kernel
theorem d1_30 : decode prog_39_method_1_code 30 = .ok (.newarray .int, 2) := by decide +kernel
theorem d1_32 : decode prog_39_method_1_code 32 = .ok (.putfield 27, 3) := by decide +kernel
theorem d1_35 : decode prog_39_method_1_code 35 = .ok (.aload_n 0, 1) := by decide +kernel
theorem d1_36 : decode prog_39_method_1_code 36 = .ok (.iload_n 1, 1) := by decide +kernel
theorem d1_37 : decode prog_39_method_1_code 37 = .ok (.newarray .int, 2) := by decide +kernel
theorem d1_39 : decode prog_39_method_1_code 39 = .ok (.putfield 31, 3) := by decide +kernel
theorem d1_42 : decode prog_39_method_1_code 42 = .ok (.return_, 1) := by decide +kernel
theorem pn_com_example_slotwright_slotwright_exchange_Frontier : plainName "com/example/slotwright/slotwright/exchange/Frontier" = true := by first | (simp [plainName, overriddenIn]; done) | decide +kernel
def QFinit (Z : State) (f1 : Addr) (n : Nat) (h0 : Heap) (n0 : Nat) (v : Option Value) (h : Heap) (L : List Loc) : Prop := ∃ (aD : Addr) (aS : Addr) (aR : Addr) (aO : Addr) (kD : ClassId) (kS : ClassId) (kR : ClassId) (kO : ClassId), v = none ∧ Fr n0 L ∧ Keep h0 h [f1] ∧ (Exa Z h f1 "com/example/slotwright/slotwright/exchange/Frontier") ∧ (Fld Z h f1 "com/example/slotwright/slotwright/exchange/Frontier" "distance" "[D" (.ref aD)) ∧ (Fld Z h f1 "com/example/slotwright/slotwright/exchange/Frontier" "settled" "[Z" (.ref aS)) ∧ (Fld Z h f1 "com/example/slotwright/slotwright/exchange/Frontier" "reached" "[I" (.ref aR)) ∧ (Fld Z h f1 "com/example/slotwright/slotwright/exchange/Frontier" "open" "[I" (.ref aO)) ∧ (Fld Z h f1 "com/example/slotwright/slotwright/exchange/Frontier" "reachedCount" "I" (.int (Int32.ofNat 0))) ∧ (Fld Z h f1 "com/example/slotwright/slotwright/exchange/Frontier" "openCount" "I" (.int (Int32.ofNat 0))) ∧ (Arv Z h aD kD .double (Int32.ofNat n) (own_LD (fun _ => own_inf) n) (.double (0 : UInt64))) ∧ (Arv Z h aS kS .boolean (Int32.ofNat n) (own_LZ (fun _ => 0) n) (.int (0 : Int32))) ∧ (Arv Z h aR kR .int (Int32.ofNat n) (own_LN (fun _ => 0) n) (.int (0 : Int32))) ∧ (Arv Z h aO kO .int (Int32.ofNat n) (own_LN (fun _ => 0) n) (.int (0 : Int32))) ∧ (h0.size ≤ aD) ∧ (h0.size ≤ aS) ∧ (h0.size ≤ aR) ∧ (h0.size ≤ aO) ∧ (aD ≠ aS) ∧ (aD ≠ aR) ∧ (aD ≠ aO) ∧ (aS ≠ aR) ∧ (aS ≠ aO) ∧ (aR ≠ aO)
set_option maxRecDepth 65536 in
set_option maxHeartbeats 40000000 in
theorem rmFinit (l : Launch) (Z : State) (a0 : Array Value) (hw : ∀ d ∈ tables_1, d.before a0 Z = true) (ws : List Jvm.Cond) (f1 : Addr) (n : Nat) (h0 : Heap) (n0 : Nat) (Z0 : n0 ≤ h0.size) (P_E_f1 : Exa Z h0 f1 "com/example/slotwright/slotwright/exchange/Frontier") (P_G_f1 : n0 ≤ f1) (hn : n ≤ 4) (P_F_f1_distance : Fld Z h0 f1 "com/example/slotwright/slotwright/exchange/Frontier" "distance" "[D" .null) (P_F_f1_settled : Fld Z h0 f1 "com/example/slotwright/slotwright/exchange/Frontier" "settled" "[Z" .null) (P_F_f1_reached : Fld Z h0 f1 "com/example/slotwright/slotwright/exchange/Frontier" "reached" "[I" .null) (P_F_f1_open : Fld Z h0 f1 "com/example/slotwright/slotwright/exchange/Frontier" "open" "[I" .null) (P_F_f1_reachedCount : Fld Z h0 f1 "com/example/slotwright/slotwright/exchange/Frontier" "reachedCount" "I" (.int (0 : Int32))) (P_F_f1_openCount : Fld Z h0 f1 "com/example/slotwright/slotwright/exchange/Frontier" "openCount" "I" (.int (0 : Int32))) :
    MetFree l (⟨"com/example/slotwright/slotwright/exchange/Frontier", "<init>", "(I)V"⟩ : MethodName) (head1 (Jvm.Cond.code (⟨"com/example/slotwright/slotwright/exchange/Frontier", "<init>", "(I)V"⟩ : MethodName) prog_39_method_1_code 2 none :: ws) ({ frames := 1, cells := 4, slots := 16, locals := 16 } : Room)) (fun a U => a = #[(.ref f1), (.int (Int32.ofNat n))] ∧ Z.Warmed39 U.vm ∧ U.heap = h0) (fun _ _ _ _ _ => True) (fun _ U o U' => ∃ v L, o = .returned v ∧ QFinit Z f1 n h0 n0 v U'.heap L ∧ FrameEnd U o U' L ({ frames := 1, cells := 4, slots := 16, locals := 16 } : Room).cells ({ frames := 1, cells := 4, slots := 16, locals := 16 } : Room).slots) := by
  refine MetFree.of_bodySF (plainFor_of_name pn_com_example_slotwright_slotwright_exchange_Frontier) hisR ?_
  intro p e s m args below meth c s₁ Bd hml0 hP hK
  obtain ⟨rfl, hZ, hh⟩ := hP
  have hx := Bd.exec
  have hby := Bd.bytes
  have hml : c.maxLocals = 2 := hml0
  have hown : s.vm.findClass "com/example/slotwright/slotwright/exchange/Frontier" = some m.cls := findClass_of_methodNamed Bd.named
  have hnm := (name_of_methodNamed Bd.named Bd.method).1
  have X0 : Stand p l e ({ frames := 1, cells := 4, slots := 16, locals := 16 } : Room) s m #[(.ref f1), (.int (Int32.ofNat n))] below meth c s₁ [] 0 0 := Stand.of_body Bd
  have e0 : s₁.heap = h0 := by rw [← hh, Bd.state]; rfl
  have N0 := Fr.nil n0
  have pre0 : ∀ t_, Steps p.tables e below (s₁.setTop (mkF m 0 #[.val (.ref f1), .val (.int (Int32.ofNat n))] [])) t_ → Steps p.tables e below (s₁.setTop (entryFrame m #[(.ref f1), (.int (Int32.ofNat n))] 2)) t_ := fun t_ k => castTop (ef_Finit m f1) k
  obtain ⟨T101, X101, e101, st101⟩ := initO X0 hx hZ hown (hw _ (List.mem_of_getElem? (i := 8) rfl)) (hw _ (List.mem_of_getElem? (i := 9) rfl)) (hw _ (List.mem_of_getElem? (i := 10) rfl)) e0 (g := (mkF m 1 #[.val (.ref f1), .val (.int (Int32.ofNat n))] [(.ref f1)])) rfl (by rw [hml]; rfl) rfl (hb hby d1_1) (by decide) (W := 0) (by show 2 * 0 + _ ≤ _; exact Nat.le_of_eq rfl) (by decide)
  obtain ⟨T102, h102, k102, X102, e102, E102, A102, st102⟩ := newP X101 hx hZ (hw _ (List.mem_of_getElem? (i := 11) rfl)) e101 (g := (mkF m 6 #[.val (.ref f1), .val (.int (Int32.ofNat n))] [(.int (Int32.ofNat n)), (.ref f1)])) rfl (hb hby d1_6) rfl (nn32 (by omega)) (cap := 4) (by rw [n32 (by omega)]; omega) (by decide) (by decide) (by decide)
  obtain ⟨b102, g102⟩ : ∃ z, z = h0.size := ⟨_, rfl⟩
  rw [← g102] at A102 st102
  have ne103 : f1 ≠ b102 := Nat.ne_of_lt (Nat.lt_of_lt_of_le P_E_f1.lt (Nat.le_of_eq g102.symm))
  have g_b102 : n0 ≤ b102 := Nat.le_trans Z0 (Nat.le_of_eq g102.symm)
  have sz_b102 : h0.size ≤ b102 := Nat.le_trans (Keep.refl h0 [f1]).1 (Nat.le_of_eq g102.symm)
  have z104 : n0 ≤ h102.size := Nat.le_trans Z0 E102.1
  have k105 : Keep h0 h102 [f1] := (Keep.refl h0 [f1]).ext E102
  have V102 : Arv Z h102 b102 k102 .double (Int32.ofNat n) (OwnArr.vals (fun _ => (.double 0)) n) (.double (0 : UInt64)) := (Arv.new A102 (nn32 (by omega))).pad (own_padv (.double 0) n)
  have f106 : Fld Z h102 f1 "com/example/slotwright/slotwright/exchange/Frontier" "distance" "[D" .null := (P_F_f1_distance.ext E102)
  have f107 : Exa Z h102 f1 "com/example/slotwright/slotwright/exchange/Frontier" := (P_E_f1.ext E102)
  obtain ⟨T108, h108, X108, e108, W108, st108⟩ := putF X102 hx hZ hown (host := "") (Or.inl (hw _ (List.mem_of_getElem? (i := 12) rfl))) Via.refl e102 f106 f107 (Or.inr ⟨(hw _ (List.mem_of_getElem? (i := 13) rfl)), rfl, hnm⟩) (hw _ (List.mem_of_getElem? (i := 3) rfl)) (ty := (.array .double)) (by decide) rfl rfl (g := (mkF m 8 #[.val (.ref f1), .val (.int (Int32.ofNat n))] [(.ref b102), (.ref f1)])) rfl rfl (hb hby d1_8)
  have F108 : Fld Z h108 f1 "com/example/slotwright/slotwright/exchange/Frontier" "distance" "[D" (.ref b102) := f106.same W108
  have z109 : n0 ≤ h108.size := Nat.le_trans z104 (Keep.of_wr W108).1
  have k110 : Keep h0 h108 [f1] := k105.wr W108 (Or.inl (List.mem_of_getElem? (i := 0) rfl))
  have N108 : Fr n0 _ := Fr.snoc X108 N0 P_G_f1
  obtain ⟨T111, X111, e111, st111⟩ := getF X108 hx hZ hown (host := "") (Or.inl (hw _ (List.mem_of_getElem? (i := 12) rfl))) Via.refl e108 F108 (g := (mkF m 12 #[.val (.ref f1), .val (.int (Int32.ofNat n))] [(.ref f1)])) rfl rfl (hb hby d1_12)
  have f112 : Arv Z h108 b102 k102 .double (Int32.ofNat n) (OwnArr.vals (fun _ => (.double 0)) n) (.double (0 : UInt64)) := (V102.other W108 (Ne.symm ne103))
  obtain ⟨_, _, ⟨T113, L113, kk113, nn113⟩, -, X113, ⟨Lc113, hQ113, l113, y113, z113⟩, st113⟩ := Jvm.LawKit.callS X111 hx (y := (⟨"java/util/Arrays", "fill", "([DD)V"⟩ : MethodName)) hown (mvT hZ (hw _ (List.mem_of_getElem? (i := 15) rfl))) (mvT hZ (hw _ (List.mem_of_getElem? (i := 16) rfl))) (mvT hZ (hw _ (List.mem_of_getElem? (i := 17) rfl))) (mvT hZ (hw _ (List.mem_of_getElem? (i := 18) rfl))) (by decide) (backOf (W := 0) (rmfill l Z a0 hw [] b102 (9218868437227405312 : UInt64) k102 n h108 n0 z109 f112 g_b102 (by omega)) hZ (hw _ (List.mem_of_getElem? (i := 18) rfl)) (hw _ (List.mem_of_getElem? (i := 17) rfl)) (by decide) (by decide)) (g := (mkF m 18 #[.val (.ref f1), .val (.int (Int32.ofNat n))] [(.double (9218868437227405312 : UInt64)), (.ref b102)])) rfl (by rw [hml]; rfl) (argsL := [(.ref b102), (.double (9218868437227405312 : UInt64))]) (rest := []) (lenOf pd__28_5bDD_29V rfl) rfl (by show 2 * 0 + _ ≤ _; exact Nat.le_of_eq rfl) (hb hby d1_18) (fun _ _ => ⟨rfl, e111, (by decide : 1 + 0 ≤ _), (by decide : 4 + 0 ≤ _)⟩)
  dsimp only [Pt.U, Pt.locs, Pt.cells, Pt.slots] at X113 l113 y113 z113 st113 hQ113
  subst l113 y113 z113
  obtain ⟨rfl, N113q, K113, x113_0⟩ := hQ113
  have N113 := Fr.app N108 N113q
  have z114 : n0 ≤ T113.heap.size := Nat.le_trans z109 K113.1
  have k115 : Keep h0 T113.heap [f1] := k110.trans K113 (own_wmc (Or.inr sz_b102) own_wm0)
  obtain ⟨T116, h116, k116, X116, e116, E116, A116, st116⟩ := newP X113 hx hZ (hw _ (List.mem_of_getElem? (i := 19) rfl)) rfl (g := (mkF m 23 #[.val (.ref f1), .val (.int (Int32.ofNat n))] [(.int (Int32.ofNat n)), (.ref f1)])) rfl (hb hby d1_23) rfl (nn32 (by omega)) (cap := 4) (by rw [n32 (by omega)]; omega) (by decide) (by decide) (by decide)
  obtain ⟨b116, g116⟩ : ∃ z, z = T113.heap.size := ⟨_, rfl⟩
  rw [← g116] at A116 st116
  have f118 : Exa Z T113.heap f1 "com/example/slotwright/slotwright/exchange/Frontier" := ((f107.wr W108).keep K113)
  have ne117 : f1 ≠ b116 := Nat.ne_of_lt (Nat.lt_of_lt_of_le f118.lt (Nat.le_of_eq g116.symm))
  have ne119 : b102 ≠ b116 := Nat.ne_of_lt (Nat.lt_of_lt_of_le x113_0.lt (Nat.le_of_eq g116.symm))
  have g_b116 : n0 ≤ b116 := Nat.le_trans z114 (Nat.le_of_eq g116.symm)
  have sz_b116 : h0.size ≤ b116 := Nat.le_trans k115.1 (Nat.le_of_eq g116.symm)
  have z120 : n0 ≤ h116.size := Nat.le_trans z114 E116.1
  have k121 : Keep h0 h116 [f1] := k115.ext E116
  have V116 : Arv Z h116 b116 k116 .boolean (Int32.ofNat n) (OwnArr.vals (fun _ => (.int 0)) n) (.int (0 : Int32)) := (Arv.new A116 (nn32 (by omega))).pad (own_padv (.int 0) n)
  have f122 : Fld Z h116 f1 "com/example/slotwright/slotwright/exchange/Frontier" "settled" "[Z" .null := ((((P_F_f1_settled.ext E102).other W108 (Or.inr (slot_ne (Or.inr (hw _ (List.mem_of_getElem? (i := 21) rfl))) (Or.inr (hw _ (List.mem_of_getElem? (i := 13) rfl))) (by decide) (t := (.array .boolean)) (t' := (.array .double)) (by decide) (by decide)))).keep K113 (own_nmc ne103 own_nm0)).ext E116)
  have f123 : Exa Z h116 f1 "com/example/slotwright/slotwright/exchange/Frontier" := (f118.ext E116)
  obtain ⟨T124, h124, X124, e124, W124, st124⟩ := putF X116 hx hZ hown (host := "") (Or.inl (hw _ (List.mem_of_getElem? (i := 20) rfl))) Via.refl e116 f122 f123 (Or.inr ⟨(hw _ (List.mem_of_getElem? (i := 21) rfl)), rfl, hnm⟩) (hw _ (List.mem_of_getElem? (i := 3) rfl)) (ty := (.array .boolean)) (by decide) rfl rfl (g := (mkF m 25 #[.val (.ref f1), .val (.int (Int32.ofNat n))] [(.ref b116), (.ref f1)])) rfl rfl (hb hby d1_25)
  have F124 : Fld Z h124 f1 "com/example/slotwright/slotwright/exchange/Frontier" "settled" "[Z" (.ref b116) := f122.same W124
  have z125 : n0 ≤ h124.size := Nat.le_trans z120 (Keep.of_wr W124).1
  have k126 : Keep h0 h124 [f1] := k121.wr W124 (Or.inl (List.mem_of_getElem? (i := 0) rfl))
  have N124 : Fr n0 _ := Fr.snoc X124 N113 P_G_f1
  obtain ⟨T127, h127, k127, X127, e127, E127, A127, st127⟩ := newP X124 hx hZ (hw _ (List.mem_of_getElem? (i := 22) rfl)) e124 (g := (mkF m 30 #[.val (.ref f1), .val (.int (Int32.ofNat n))] [(.int (Int32.ofNat n)), (.ref f1)])) rfl (hb hby d1_30) rfl (nn32 (by omega)) (cap := 4) (by rw [n32 (by omega)]; omega) (by decide) (by decide) (by decide)
  obtain ⟨b127, g127⟩ : ∃ z, z = h124.size := ⟨_, rfl⟩
  rw [← g127] at A127 st127
  have f129 : Exa Z h124 f1 "com/example/slotwright/slotwright/exchange/Frontier" := (f123.wr W124)
  have ne128 : f1 ≠ b127 := Nat.ne_of_lt (Nat.lt_of_lt_of_le f129.lt (Nat.le_of_eq g127.symm))
  have f131 : Arv Z h124 b102 k102 .double (Int32.ofNat n) (OwnArr.vals (fun _ => .double (9218868437227405312 : UInt64)) n) (.double (0 : UInt64)) := ((x113_0.ext E116).other W124 (Ne.symm ne103))
  have ne130 : b102 ≠ b127 := Nat.ne_of_lt (Nat.lt_of_lt_of_le f131.lt (Nat.le_of_eq g127.symm))
  have f133 : Arv Z h124 b116 k116 .boolean (Int32.ofNat n) (OwnArr.vals (fun _ => (.int 0)) n) (.int (0 : Int32)) := (V116.other W124 (Ne.symm ne117))
  have ne132 : b116 ≠ b127 := Nat.ne_of_lt (Nat.lt_of_lt_of_le f133.lt (Nat.le_of_eq g127.symm))
  have g_b127 : n0 ≤ b127 := Nat.le_trans z125 (Nat.le_of_eq g127.symm)
  have sz_b127 : h0.size ≤ b127 := Nat.le_trans k126.1 (Nat.le_of_eq g127.symm)
  have z134 : n0 ≤ h127.size := Nat.le_trans z125 E127.1
  have k135 : Keep h0 h127 [f1] := k126.ext E127
  have V127 : Arv Z h127 b127 k127 .int (Int32.ofNat n) (OwnArr.vals (fun _ => (.int 0)) n) (.int (0 : Int32)) := (Arv.new A127 (nn32 (by omega))).pad (own_padv (.int 0) n)
  have f136 : Fld Z h127 f1 "com/example/slotwright/slotwright/exchange/Frontier" "reached" "[I" .null := ((((((P_F_f1_reached.ext E102).other W108 (Or.inr (slot_ne (Or.inr (hw _ (List.mem_of_getElem? (i := 24) rfl))) (Or.inr (hw _ (List.mem_of_getElem? (i := 13) rfl))) (by decide) (t := (.array .int)) (t' := (.array .double)) (by decide) (by decide)))).keep K113 (own_nmc ne103 own_nm0)).ext E116).other W124 (Or.inr (slot_ne (Or.inr (hw _ (List.mem_of_getElem? (i := 24) rfl))) (Or.inr (hw _ (List.mem_of_getElem? (i := 21) rfl))) (by decide) (t := (.array .int)) (t' := (.array .boolean)) (by decide) (by decide)))).ext E127)
  have f137 : Exa Z h127 f1 "com/example/slotwright/slotwright/exchange/Frontier" := (f129.ext E127)
  obtain ⟨T138, h138, X138, e138, W138, st138⟩ := putF X127 hx hZ hown (host := "") (Or.inl (hw _ (List.mem_of_getElem? (i := 23) rfl))) Via.refl e127 f136 f137 (Or.inr ⟨(hw _ (List.mem_of_getElem? (i := 24) rfl)), rfl, hnm⟩) (hw _ (List.mem_of_getElem? (i := 3) rfl)) (ty := (.array .int)) (by decide) rfl rfl (g := (mkF m 32 #[.val (.ref f1), .val (.int (Int32.ofNat n))] [(.ref b127), (.ref f1)])) rfl rfl (hb hby d1_32)
  have F138 : Fld Z h138 f1 "com/example/slotwright/slotwright/exchange/Frontier" "reached" "[I" (.ref b127) := f136.same W138
  have z139 : n0 ≤ h138.size := Nat.le_trans z134 (Keep.of_wr W138).1
  have k140 : Keep h0 h138 [f1] := k135.wr W138 (Or.inl (List.mem_of_getElem? (i := 0) rfl))
  have N138 : Fr n0 _ := Fr.snoc X138 N124 P_G_f1
  obtain ⟨T141, h141, k141, X141, e141, E141, A141, st141⟩ := newP X138 hx hZ (hw _ (List.mem_of_getElem? (i := 22) rfl)) e138 (g := (mkF m 37 #[.val (.ref f1), .val (.int (Int32.ofNat n))] [(.int (Int32.ofNat n)), (.ref f1)])) rfl (hb hby d1_37) rfl (nn32 (by omega)) (cap := 4) (by rw [n32 (by omega)]; omega) (by decide) (by decide) (by decide)
  obtain ⟨b141, g141⟩ : ∃ z, z = h138.size := ⟨_, rfl⟩
  rw [← g141] at A141 st141
  have f143 : Exa Z h138 f1 "com/example/slotwright/slotwright/exchange/Frontier" := (f137.wr W138)
  have ne142 : f1 ≠ b141 := Nat.ne_of_lt (Nat.lt_of_lt_of_le f143.lt (Nat.le_of_eq g141.symm))
  have f145 : Arv Z h138 b102 k102 .double (Int32.ofNat n) (OwnArr.vals (fun _ => .double (9218868437227405312 : UInt64)) n) (.double (0 : UInt64)) := ((f131.ext E127).other W138 (Ne.symm ne103))
  have ne144 : b102 ≠ b141 := Nat.ne_of_lt (Nat.lt_of_lt_of_le f145.lt (Nat.le_of_eq g141.symm))
  have f147 : Arv Z h138 b116 k116 .boolean (Int32.ofNat n) (OwnArr.vals (fun _ => (.int 0)) n) (.int (0 : Int32)) := ((f133.ext E127).other W138 (Ne.symm ne117))
  have ne146 : b116 ≠ b141 := Nat.ne_of_lt (Nat.lt_of_lt_of_le f147.lt (Nat.le_of_eq g141.symm))
  have f149 : Arv Z h138 b127 k127 .int (Int32.ofNat n) (OwnArr.vals (fun _ => (.int 0)) n) (.int (0 : Int32)) := (V127.other W138 (Ne.symm ne128))
  have ne148 : b127 ≠ b141 := Nat.ne_of_lt (Nat.lt_of_lt_of_le f149.lt (Nat.le_of_eq g141.symm))
  have g_b141 : n0 ≤ b141 := Nat.le_trans z139 (Nat.le_of_eq g141.symm)
  have sz_b141 : h0.size ≤ b141 := Nat.le_trans k140.1 (Nat.le_of_eq g141.symm)
  have z150 : n0 ≤ h141.size := Nat.le_trans z139 E141.1
  have k151 : Keep h0 h141 [f1] := k140.ext E141
  have V141 : Arv Z h141 b141 k141 .int (Int32.ofNat n) (OwnArr.vals (fun _ => (.int 0)) n) (.int (0 : Int32)) := (Arv.new A141 (nn32 (by omega))).pad (own_padv (.int 0) n)
  have f152 : Fld Z h141 f1 "com/example/slotwright/slotwright/exchange/Frontier" "open" "[I" .null := ((((((((P_F_f1_open.ext E102).other W108 (Or.inr (slot_ne (Or.inr (hw _ (List.mem_of_getElem? (i := 26) rfl))) (Or.inr (hw _ (List.mem_of_getElem? (i := 13) rfl))) (by decide) (t := (.array .int)) (t' := (.array .double)) (by decide) (by decide)))).keep K113 (own_nmc ne103 own_nm0)).ext E116).other W124 (Or.inr (slot_ne (Or.inr (hw _ (List.mem_of_getElem? (i := 26) rfl))) (Or.inr (hw _ (List.mem_of_getElem? (i := 21) rfl))) (by decide) (t := (.array .int)) (t' := (.array .boolean)) (by decide) (by decide)))).ext E127).other W138 (Or.inr (slot_ne (Or.inr (hw _ (List.mem_of_getElem? (i := 26) rfl))) (Or.inr (hw _ (List.mem_of_getElem? (i := 24) rfl))) (by decide) (t := (.array .int)) (t' := (.array .int)) (by decide) (by decide)))).ext E141)
  have f153 : Exa Z h141 f1 "com/example/slotwright/slotwright/exchange/Frontier" := (f143.ext E141)
  obtain ⟨T154, h154, X154, e154, W154, st154⟩ := putF X141 hx hZ hown (host := "") (Or.inl (hw _ (List.mem_of_getElem? (i := 25) rfl))) Via.refl e141 f152 f153 (Or.inr ⟨(hw _ (List.mem_of_getElem? (i := 26) rfl)), rfl, hnm⟩) (hw _ (List.mem_of_getElem? (i := 3) rfl)) (ty := (.array .int)) (by decide) rfl rfl (g := (mkF m 39 #[.val (.ref f1), .val (.int (Int32.ofNat n))] [(.ref b141), (.ref f1)])) rfl rfl (hb hby d1_39)
  have F154 : Fld Z h154 f1 "com/example/slotwright/slotwright/exchange/Frontier" "open" "[I" (.ref b141) := f152.same W154
  have z155 : n0 ≤ h154.size := Nat.le_trans z150 (Keep.of_wr W154).1
  have k156 : Keep h0 h154 [f1] := k151.wr W154 (Or.inl (List.mem_of_getElem? (i := 0) rfl))
  have N154 : Fr n0 _ := Fr.snoc X154 N138 P_G_f1
  have pre157 : ∀ t_, Steps p.tables e below (T154.setTop (mkF m 42 #[.val (.ref f1), .val (.int (Int32.ofNat n))] [])) t_ → Steps p.tables e below (s₁.setTop (entryFrame m #[(.ref f1), (.int (Int32.ofNat n))] 2)) t_ := fun t_ kt => pre0 t_ (by
      show Steps p.tables e below (s₁.setTop (mkF m 0 #[.val (.ref f1), .val (.int (Int32.ofNat n))] [])) _
      refine XS.aloadN X0.here hx rfl (hb hby d1_0) rfl rfl ?_
      show Steps p.tables e below (s₁.setTop (mkF m 1 #[.val (.ref f1), .val (.int (Int32.ofNat n))] [(.ref f1)])) _
      refine st101 _ ?_
      show Steps p.tables e below (T101.setTop (mkF m 4 #[.val (.ref f1), .val (.int (Int32.ofNat n))] [])) _
      refine XS.aloadN X101.here hx rfl (hb hby d1_4) rfl rfl ?_
      show Steps p.tables e below (T101.setTop (mkF m 5 #[.val (.ref f1), .val (.int (Int32.ofNat n))] [(.ref f1)])) _
      refine XS.iloadN X101.here hx rfl (hb hby d1_5) rfl ?_
      show Steps p.tables e below (T101.setTop (mkF m 6 #[.val (.ref f1), .val (.int (Int32.ofNat n))] [(.int (Int32.ofNat n)), (.ref f1)])) _
      refine st102 _ ?_
      show Steps p.tables e below (T102.setTop (mkF m 8 #[.val (.ref f1), .val (.int (Int32.ofNat n))] [(.ref b102), (.ref f1)])) _
      refine st108 _ ?_
      show Steps p.tables e below (T108.setTop (mkF m 11 #[.val (.ref f1), .val (.int (Int32.ofNat n))] [])) _
      refine XS.aloadN X108.here hx rfl (hb hby d1_11) rfl rfl ?_
      show Steps p.tables e below (T108.setTop (mkF m 12 #[.val (.ref f1), .val (.int (Int32.ofNat n))] [(.ref f1)])) _
      refine st111 _ ?_
      show Steps p.tables e below (T111.setTop (mkF m 15 #[.val (.ref f1), .val (.int (Int32.ofNat n))] [(.ref b102)])) _
      refine X111.ldc2DoubleC hx hown (mvT hZ (hw _ (List.mem_of_getElem? (i := 14) rfl))) (g := (mkF m 15 #[.val (.ref f1), .val (.int (Int32.ofNat n))] [(.ref b102)])) rfl (hb hby d1_15) _ ?_
      show Steps p.tables e below (T111.setTop (mkF m 18 #[.val (.ref f1), .val (.int (Int32.ofNat n))] [(.double (9218868437227405312 : UInt64)), (.ref b102)])) _
      refine st113 _ ?_
      show Steps p.tables e below (T113.setTop (mkF m 21 #[.val (.ref f1), .val (.int (Int32.ofNat n))] [])) _
      refine XS.aloadN X113.here hx rfl (hb hby d1_21) rfl rfl ?_
      show Steps p.tables e below (T113.setTop (mkF m 22 #[.val (.ref f1), .val (.int (Int32.ofNat n))] [(.ref f1)])) _
      refine XS.iloadN X113.here hx rfl (hb hby d1_22) rfl ?_
      show Steps p.tables e below (T113.setTop (mkF m 23 #[.val (.ref f1), .val (.int (Int32.ofNat n))] [(.int (Int32.ofNat n)), (.ref f1)])) _
      refine st116 _ ?_
      show Steps p.tables e below (T116.setTop (mkF m 25 #[.val (.ref f1), .val (.int (Int32.ofNat n))] [(.ref b116), (.ref f1)])) _
      refine st124 _ ?_
      show Steps p.tables e below (T124.setTop (mkF m 28 #[.val (.ref f1), .val (.int (Int32.ofNat n))] [])) _
      refine XS.aloadN X124.here hx rfl (hb hby d1_28) rfl rfl ?_
      show Steps p.tables e below (T124.setTop (mkF m 29 #[.val (.ref f1), .val (.int (Int32.ofNat n))] [(.ref f1)])) _
      refine XS.iloadN X124.here hx rfl (hb hby d1_29) rfl ?_
      show Steps p.tables e below (T124.setTop (mkF m 30 #[.val (.ref f1), .val (.int (Int32.ofNat n))] [(.int (Int32.ofNat n)), (.ref f1)])) _
      refine st127 _ ?_
      show Steps p.tables e below (T127.setTop (mkF m 32 #[.val (.ref f1), .val (.int (Int32.ofNat n))] [(.ref b127), (.ref f1)])) _
      refine st138 _ ?_
      show Steps p.tables e below (T138.setTop (mkF m 35 #[.val (.ref f1), .val (.int (Int32.ofNat n))] [])) _
      refine XS.aloadN X138.here hx rfl (hb hby d1_35) rfl rfl ?_
      show Steps p.tables e below (T138.setTop (mkF m 36 #[.val (.ref f1), .val (.int (Int32.ofNat n))] [(.ref f1)])) _
      refine XS.iloadN X138.here hx rfl (hb hby d1_36) rfl ?_
      show Steps p.tables e below (T138.setTop (mkF m 37 #[.val (.ref f1), .val (.int (Int32.ofNat n))] [(.int (Int32.ofNat n)), (.ref f1)])) _
      refine st141 _ ?_
      show Steps p.tables e below (T141.setTop (mkF m 39 #[.val (.ref f1), .val (.int (Int32.ofNat n))] [(.ref b141), (.ref f1)])) _
      refine st154 _ ?_
      exact kt)
  have f158 : Exa Z h154 f1 "com/example/slotwright/slotwright/exchange/Frontier" := (f153.wr W154)
  have f159 : Fld Z h154 f1 "com/example/slotwright/slotwright/exchange/Frontier" "distance" "[D" (.ref b102) := (((((((F108.keep K113 (own_nmc ne103 own_nm0)).ext E116).other W124 (Or.inr (slot_ne (Or.inr (hw _ (List.mem_of_getElem? (i := 13) rfl))) (Or.inr (hw _ (List.mem_of_getElem? (i := 21) rfl))) (by decide) (t := (.array .double)) (t' := (.array .boolean)) (by decide) (by decide)))).ext E127).other W138 (Or.inr (slot_ne (Or.inr (hw _ (List.mem_of_getElem? (i := 13) rfl))) (Or.inr (hw _ (List.mem_of_getElem? (i := 24) rfl))) (by decide) (t := (.array .double)) (t' := (.array .int)) (by decide) (by decide)))).ext E141).other W154 (Or.inr (slot_ne (Or.inr (hw _ (List.mem_of_getElem? (i := 13) rfl))) (Or.inr (hw _ (List.mem_of_getElem? (i := 26) rfl))) (by decide) (t := (.array .double)) (t' := (.array .int)) (by decide) (by decide))))
  have f160 : Fld Z h154 f1 "com/example/slotwright/slotwright/exchange/Frontier" "settled" "[Z" (.ref b116) := ((((F124.ext E127).other W138 (Or.inr (slot_ne (Or.inr (hw _ (List.mem_of_getElem? (i := 21) rfl))) (Or.inr (hw _ (List.mem_of_getElem? (i := 24) rfl))) (by decide) (t := (.array .boolean)) (t' := (.array .int)) (by decide) (by decide)))).ext E141).other W154 (Or.inr (slot_ne (Or.inr (hw _ (List.mem_of_getElem? (i := 21) rfl))) (Or.inr (hw _ (List.mem_of_getElem? (i := 26) rfl))) (by decide) (t := (.array .boolean)) (t' := (.array .int)) (by decide) (by decide))))
  have f161 : Fld Z h154 f1 "com/example/slotwright/slotwright/exchange/Frontier" "reached" "[I" (.ref b127) := ((F138.ext E141).other W154 (Or.inr (slot_ne (Or.inr (hw _ (List.mem_of_getElem? (i := 24) rfl))) (Or.inr (hw _ (List.mem_of_getElem? (i := 26) rfl))) (by decide) (t := (.array .int)) (t' := (.array .int)) (by decide) (by decide))))
  have f162 : Fld Z h154 f1 "com/example/slotwright/slotwright/exchange/Frontier" "reachedCount" "I" (.int (0 : Int32)) := (((((((((P_F_f1_reachedCount.ext E102).other W108 (Or.inr (slot_ne (Or.inl (hw _ (List.mem_of_getElem? (i := 42) rfl))) (Or.inr (hw _ (List.mem_of_getElem? (i := 13) rfl))) (by decide) (t := .int) (t' := (.array .double)) (by decide) (by decide)))).keep K113 (own_nmc ne103 own_nm0)).ext E116).other W124 (Or.inr (slot_ne (Or.inl (hw _ (List.mem_of_getElem? (i := 42) rfl))) (Or.inr (hw _ (List.mem_of_getElem? (i := 21) rfl))) (by decide) (t := .int) (t' := (.array .boolean)) (by decide) (by decide)))).ext E127).other W138 (Or.inr (slot_ne (Or.inl (hw _ (List.mem_of_getElem? (i := 42) rfl))) (Or.inr (hw _ (List.mem_of_getElem? (i := 24) rfl))) (by decide) (t := .int) (t' := (.array .int)) (by decide) (by decide)))).ext E141).other W154 (Or.inr (slot_ne (Or.inl (hw _ (List.mem_of_getElem? (i := 42) rfl))) (Or.inr (hw _ (List.mem_of_getElem? (i := 26) rfl))) (by decide) (t := .int) (t' := (.array .int)) (by decide) (by decide))))
  have f163 : Fld Z h154 f1 "com/example/slotwright/slotwright/exchange/Frontier" "openCount" "I" (.int (0 : Int32)) := (((((((((P_F_f1_openCount.ext E102).other W108 (Or.inr (slot_ne (Or.inl (hw _ (List.mem_of_getElem? (i := 44) rfl))) (Or.inr (hw _ (List.mem_of_getElem? (i := 13) rfl))) (by decide) (t := .int) (t' := (.array .double)) (by decide) (by decide)))).keep K113 (own_nmc ne103 own_nm0)).ext E116).other W124 (Or.inr (slot_ne (Or.inl (hw _ (List.mem_of_getElem? (i := 44) rfl))) (Or.inr (hw _ (List.mem_of_getElem? (i := 21) rfl))) (by decide) (t := .int) (t' := (.array .boolean)) (by decide) (by decide)))).ext E127).other W138 (Or.inr (slot_ne (Or.inl (hw _ (List.mem_of_getElem? (i := 44) rfl))) (Or.inr (hw _ (List.mem_of_getElem? (i := 24) rfl))) (by decide) (t := .int) (t' := (.array .int)) (by decide) (by decide)))).ext E141).other W154 (Or.inr (slot_ne (Or.inl (hw _ (List.mem_of_getElem? (i := 44) rfl))) (Or.inr (hw _ (List.mem_of_getElem? (i := 26) rfl))) (by decide) (t := .int) (t' := (.array .int)) (by decide) (by decide))))
  have f164 : Arv Z h154 b102 k102 .double (Int32.ofNat n) (OwnArr.vals (fun _ => .double (9218868437227405312 : UInt64)) n) (.double (0 : UInt64)) := ((f145.ext E141).other W154 (Ne.symm ne103))
  have f165 : Arv Z h154 b116 k116 .boolean (Int32.ofNat n) (OwnArr.vals (fun _ => (.int 0)) n) (.int (0 : Int32)) := ((f147.ext E141).other W154 (Ne.symm ne117))
  have f166 : Arv Z h154 b127 k127 .int (Int32.ofNat n) (OwnArr.vals (fun _ => (.int 0)) n) (.int (0 : Int32)) := ((f149.ext E141).other W154 (Ne.symm ne128))
  have f167 : Arv Z h154 b141 k141 .int (Int32.ofNat n) (OwnArr.vals (fun _ => (.int 0)) n) (.int (0 : Int32)) := (V141.other W154 (Ne.symm ne142))
  obtain ⟨fs, hr, hrun, hended, hW, hsame⟩ := X154.leave (v := none) (fun _ => rfl)
  refine ⟨_, _, pre157 _ ?_, hrun, hended, _, _, rfl, ?_, ⟨_, rfl⟩, hW, hsame.mono (by decide) (by decide)⟩
  · show Steps p.tables e below (T154.setTop (mkF m 42 #[.val (.ref f1), .val (.int (Int32.ofNat n))] [])) _
    exact X154.returnOut hx Bd.returns (hb hby d1_42) hr
  · show QFinit Z f1 n h0 n0 _ T154.heap _
    rw [e154]
    exact ⟨b102, b116, b127, b141, k102, k116, k127, k141, rfl, N154, k156, f158, f159, f160, f161, F154, f162, f163, f164, f165, f166, f167, sz_b102, sz_b116, sz_b127, sz_b141, ne119, ne130, ne144, ne132, ne146, ne148⟩
theorem ef_Freach (m : MethodId) (f1 : Addr) (d1 : UInt64) : entryFrame m #[(.ref f1), (.int (Int32.ofNat vv)), (.double d1)] 5 = mkF m 0 #[.val (.ref f1), .val (.int (Int32.ofNat vv)), .val (.double d1), .second, .unset] [] := by first | (simp [entryFrame, mkF, argsToLocals, Value.category]; done) | rfl
theorem d4_0 : decode prog_39_method_2_code 0 = .ok (.dload_n 2, 1) := by decide +kernel
theorem pd__28D_29Z : parseMethodDescriptor "(D)Z" = some ⟨[.double], some .boolean⟩ := by decide +kernel
theorem d4_1 : decode prog_39_method_2_code 1 = .ok (.invokestatic 34, 3) := by decide +kernel
theorem d4_4 : decode prog_39_method_2_code 4 = .ok (.ifCond .ne 18, 3) := by decide +kernel
theorem d4_22 : decode prog_39_method_2_code 22 = .ok (.aload_n 0, 1) := by decide +kernel
theorem d4_23 : decode prog_39_method_2_code 23 = .ok (.getfield 23, 3) := by decide +kernel
theorem d4_26 : decode prog_39_method_2_code 26 = .ok (.iload_n 1, 1) := by decide +kernel
theorem d4_27 : decode prog_39_method_2_code 27 = .ok (.baload, 1) := by decide +kernel
theorem d4_28 : decode prog_39_method_2_code 28 = .ok (.ifCond .eq 5, 3) := by decide +kernel
theorem d4_33 : decode prog_39_method_2_code 33 = .ok (.aload_n 0, 1) := by decide +kernel
theorem d4_34 : decode prog_39_method_2_code 34 = .ok (.getfield 7, 3) := by decide +kernel
theorem d4_37 : decode prog_39_method_2_code 37 = .ok (.iload_n 1, 1) := by decide +kernel
theorem d4_38 : decode prog_39_method_2_code 38 = .ok (.daload, 1) := by decide +kernel
theorem d4_39 : decode prog_39_method_2_code 39 = .ok (.ldc2_w 15, 3) := by decide +kernel
theorem d4_42 : decode prog_39_method_2_code 42 = .ok (.dcmp .l, 1) := by decide +kernel
theorem d4_43 : decode prog_39_method_2_code 43 = .ok (.ifCond .ne 43, 3) := by decide +kernel
theorem d4_46 : decode prog_39_method_2_code 46 = .ok (.aload_n 0, 1) := by decide +kernel
theorem d4_47 : decode prog_39_method_2_code 47 = .ok (.getfield 27, 3) := by decide +kernel
theorem d4_50 : decode prog_39_method_2_code 50 = .ok (.aload_n 0, 1) := by decide +kernel
theorem d4_51 : decode prog_39_method_2_code 51 = .ok (.getfield 47, 3) := by decide +kernel
theorem d4_54 : decode prog_39_method_2_code 54 = .ok (.iload_n 1, 1) := by decide +kernel
theorem d4_55 : decode prog_39_method_2_code 55 = .ok (.iastore, 1) := by decide +kernel
theorem d4_56 : decode prog_39_method_2_code 56 = .ok (.aload_n 0, 1) := by decide +kernel
theorem d4_57 : decode prog_39_method_2_code 57 = .ok (.dup, 1) := by decide +kernel
theorem d4_58 : decode prog_39_method_2_code 58 = .ok (.getfield 47, 3) := by decide +kernel
theorem d4_61 : decode prog_39_method_2_code 61 = .ok (.iconst 1, 1) := by decide +kernel
theorem d4_62 : decode prog_39_method_2_code 62 = .ok (.iadd, 1) := by decide +kernel
theorem d4_63 : decode prog_39_method_2_code 63 = .ok (.putfield 47, 3) := by decide +kernel
theorem d4_66 : decode prog_39_method_2_code 66 = .ok (.aload_n 0, 1) := by decide +kernel
theorem d4_67 : decode prog_39_method_2_code 67 = .ok (.getfield 31, 3) := by decide +kernel
theorem d4_70 : decode prog_39_method_2_code 70 = .ok (.aload_n 0, 1) := by decide +kernel
theorem d4_71 : decode prog_39_method_2_code 71 = .ok (.getfield 51, 3) := by decide +kernel
theorem d4_74 : decode prog_39_method_2_code 74 = .ok (.iload_n 1, 1) := by decide +kernel
theorem d4_75 : decode prog_39_method_2_code 75 = .ok (.iastore, 1) := by decide +kernel
theorem d4_76 : decode prog_39_method_2_code 76 = .ok (.aload_n 0, 1) := by decide +kernel
theorem d4_77 : decode prog_39_method_2_code 77 = .ok (.dup, 1) := by decide +kernel
theorem d4_78 : decode prog_39_method_2_code 78 = .ok (.getfield 51, 3) := by decide +kernel
theorem d4_81 : decode prog_39_method_2_code 81 = .ok (.iconst 1, 1) := by decide +kernel
theorem d4_82 : decode prog_39_method_2_code 82 = .ok (.iadd, 1) := by decide +kernel
theorem d4_83 : decode prog_39_method_2_code 83 = .ok (.putfield 51, 3) := by decide +kernel
theorem d4_86 : decode prog_39_method_2_code 86 = .ok (.dload_n 2, 1) := by decide +kernel
theorem d4_87 : decode prog_39_method_2_code 87 = .ok (.aload_n 0, 1) := by decide +kernel
theorem d4_88 : decode prog_39_method_2_code 88 = .ok (.getfield 7, 3) := by decide +kernel
theorem d4_91 : decode prog_39_method_2_code 91 = .ok (.iload_n 1, 1) := by decide +kernel
theorem d4_92 : decode prog_39_method_2_code 92 = .ok (.daload, 1) := by decide +kernel
theorem d4_93 : decode prog_39_method_2_code 93 = .ok (.dcmp .g, 1) := by decide +kernel
theorem d4_94 : decode prog_39_method_2_code 94 = .ok (.ifCond .ge 7, 3) := by decide +kernel
theorem d4_97 : decode prog_39_method_2_code 97 = .ok (.iconst 1, 1) := by decide +kernel
theorem d4_98 : decode prog_39_method_2_code 98 = .ok (.goto 4, 3) := by decide +kernel
theorem d4_102 : decode prog_39_method_2_code 102 = .ok (.istore 4, 2) := by decide +kernel
theorem d4_104 : decode prog_39_method_2_code 104 = .ok (.iload 4, 2) := by decide +kernel
theorem d4_106 : decode prog_39_method_2_code 106 = .ok (.ifCond .eq 10, 3) := by decide +kernel
theorem d4_109 : decode prog_39_method_2_code 109 = .ok (.aload_n 0, 1) := by decide +kernel
theorem d4_110 : decode prog_39_method_2_code 110 = .ok (.getfield 7, 3) := by decide +kernel
theorem d4_113 : decode prog_39_method_2_code 113 = .ok (.iload_n 1, 1) := by decide +kernel
theorem d4_114 : decode prog_39_method_2_code 114 = .ok (.dload_n 2, 1) := by decide +kernel
theorem d4_115 : decode prog_39_method_2_code 115 = .ok (.dastore, 1) := by decide +kernel
theorem d4_116 : decode prog_39_method_2_code 116 = .ok (.iload 4, 2) := by decide +kernel
theorem d4_118 : decode prog_39_method_2_code 118 = .ok (.ireturn, 1) := by decide +kernel
theorem d4_101 : decode prog_39_method_2_code 101 = .ok (.iconst 0, 1) := by decide +kernel
theorem d4_31 : decode prog_39_method_2_code 31 = .ok (.iconst 0, 1) := by decide +kernel
theorem d4_32 : decode prog_39_method_2_code 32 = .ok (.ireturn, 1) := by decide +kernel
def QFreach (Z : State) (f1 : Addr) (d1 : UInt64) (aD : Addr) (aS : Addr) (aR : Addr) (aO : Addr) (kD : ClassId) (kS : ClassId) (kR : ClassId) (kO : ClassId) (n : Nat) (dist : Nat → UInt64) (st : Nat → Int32) (rch : Nat → Nat) (rc : Nat) (opn : Nat → Nat) (oc : Nat) (vv : Nat) (h0 : Heap) (n0 : Nat) (v : Option Value) (h : Heap) (L : List Loc) : Prop := ∃ (dist2 : Nat → UInt64) (rch2 : Nat → Nat) (rc2 : Nat) (opn2 : Nat → Nat) (oc2 : Nat) (r : Int32), v = some (.int r) ∧ Fr n0 L ∧ Keep h0 h [f1, aD, aR, aO] ∧ (Exa Z h f1 "com/example/slotwright/slotwright/exchange/Frontier") ∧ (Fld Z h f1 "com/example/slotwright/slotwright/exchange/Frontier" "distance" "[D" (.ref aD)) ∧ (Fld Z h f1 "com/example/slotwright/slotwright/exchange/Frontier" "settled" "[Z" (.ref aS)) ∧ (Fld Z h f1 "com/example/slotwright/slotwright/exchange/Frontier" "reached" "[I" (.ref aR)) ∧ (Fld Z h f1 "com/example/slotwright/slotwright/exchange/Frontier" "open" "[I" (.ref aO)) ∧ (Fld Z h f1 "com/example/slotwright/slotwright/exchange/Frontier" "reachedCount" "I" (.int (Int32.ofNat rc2))) ∧ (Fld Z h f1 "com/example/slotwright/slotwright/exchange/Frontier" "openCount" "I" (.int (Int32.ofNat oc2))) ∧ (Arv Z h aD kD .double (Int32.ofNat n) (own_LD dist2 n) (.double (0 : UInt64))) ∧ (Arv Z h aS kS .boolean (Int32.ofNat n) (own_LZ st n) (.int (0 : Int32))) ∧ (Arv Z h aR kR .int (Int32.ofNat n) (own_LN rch2 n) (.int (0 : Int32))) ∧ (Arv Z h aO kO .int (Int32.ofNat n) (own_LN opn2 n) (.int (0 : Int32))) ∧ (own_RR vv d1 dist st rch rc opn oc dist2 rch2 rc2 opn2 oc2)
set_option maxRecDepth 65536 in
set_option maxHeartbeats 40000000 in
theorem rmFreach (l : Launch) (Z : State) (a0 : Array Value) (hw : ∀ d ∈ tables_1, d.before a0 Z = true) (ws : List Jvm.Cond) (f1 : Addr) (d1 : UInt64) (aD : Addr) (aS : Addr) (aR : Addr) (aO : Addr) (kD : ClassId) (kS : ClassId) (kR : ClassId) (kO : ClassId) (n : Nat) (dist : Nat → UInt64) (st : Nat → Int32) (rch : Nat → Nat) (rc : Nat) (opn : Nat → Nat) (oc : Nat) (vv : Nat) (h0 : Heap) (n0 : Nat) (Z0 : n0 ≤ h0.size) (P_E_f1 : Exa Z h0 f1 "com/example/slotwright/slotwright/exchange/Frontier") (P_F_f1_distance : Fld Z h0 f1 "com/example/slotwright/slotwright/exchange/Frontier" "distance" "[D" (.ref aD)) (P_F_f1_settled : Fld Z h0 f1 "com/example/slotwright/slotwright/exchange/Frontier" "settled" "[Z" (.ref aS)) (P_F_f1_reached : Fld Z h0 f1 "com/example/slotwright/slotwright/exchange/Frontier" "reached" "[I" (.ref aR)) (P_F_f1_open : Fld Z h0 f1 "com/example/slotwright/slotwright/exchange/Frontier" "open" "[I" (.ref aO)) (P_F_f1_reachedCount : Fld Z h0 f1 "com/example/slotwright/slotwright/exchange/Frontier" "reachedCount" "I" (.int (Int32.ofNat rc))) (P_F_f1_openCount : Fld Z h0 f1 "com/example/slotwright/slotwright/exchange/Frontier" "openCount" "I" (.int (Int32.ofNat oc))) (P_V_aD : Arv Z h0 aD kD .double (Int32.ofNat n) (own_LD dist n) (.double (0 : UInt64))) (P_V_aS : Arv Z h0 aS kS .boolean (Int32.ofNat n) (own_LZ st n) (.int (0 : Int32))) (P_V_aR : Arv Z h0 aR kR .int (Int32.ofNat n) (own_LN rch n) (.int (0 : Int32))) (P_V_aO : Arv Z h0 aO kO .int (Int32.ofNat n) (own_LN opn n) (.int (0 : Int32))) (P_ne_f1_aD : f1 ≠ aD) (P_ne_f1_aS : f1 ≠ aS) (P_ne_f1_aR : f1 ≠ aR) (P_ne_f1_aO : f1 ≠ aO) (P_ne_aD_aS : aD ≠ aS) (P_ne_aD_aR : aD ≠ aR) (P_ne_aD_aO : aD ≠ aO) (P_ne_aS_aR : aS ≠ aR) (P_ne_aS_aO : aS ≠ aO) (P_ne_aR_aO : aR ≠ aO) (P_G_f1 : n0 ≤ f1) (P_G_aD : n0 ≤ aD) (P_G_aS : n0 ≤ aS) (P_G_aR : n0 ≤ aR) (P_G_aO : n0 ≤ aO) (hn : n ≤ 4) (hv : vv < n) (hd : Fin64 d1) (hfr0 : st vv = 0 → dist vv = own_inf → rc < n ∧ oc < n) :
    MetFree l (⟨"com/example/slotwright/slotwright/exchange/Frontier", "reach", "(ID)Z"⟩ : MethodName) (head1 (Jvm.Cond.code (⟨"com/example/slotwright/slotwright/exchange/Frontier", "reach", "(ID)Z"⟩ : MethodName) prog_39_method_2_code 5 (some .boolean) :: ws) ({ frames := 2, cells := 0, slots := 0, locals := 26 } : Room)) (fun a U => a = #[(.ref f1), (.int (Int32.ofNat vv)), (.double d1)] ∧ Z.Warmed39 U.vm ∧ U.heap = h0) (fun _ _ _ _ _ => True) (fun _ U o U' => ∃ v L, o = .returned v ∧ QFreach Z f1 d1 aD aS aR aO kD kS kR kO n dist st rch rc opn oc vv h0 n0 v U'.heap L ∧ FrameEnd U o U' L ({ frames := 2, cells := 0, slots := 0, locals := 26 } : Room).cells ({ frames := 2, cells := 0, slots := 0, locals := 26 } : Room).slots) := by
  refine MetFree.of_bodySF (plainFor_of_name pn_com_example_slotwright_slotwright_exchange_Frontier) hisR ?_
  intro p e s m args below meth c s₁ Bd hml0 hP hK
  obtain ⟨rfl, hZ, hh⟩ := hP
  have hx := Bd.exec
  have hby := Bd.bytes
  have hml : c.maxLocals = 5 := hml0
  have hown : s.vm.findClass "com/example/slotwright/slotwright/exchange/Frontier" = some m.cls := findClass_of_methodNamed Bd.named
  have hnm := (name_of_methodNamed Bd.named Bd.method).1
  have X0 : Stand p l e ({ frames := 2, cells := 0, slots := 0, locals := 26 } : Room) s m #[(.ref f1), (.int (Int32.ofNat vv)), (.double d1)] below meth c s₁ [] 0 0 := Stand.of_body Bd
  have e0 : s₁.heap = h0 := by rw [← hh, Bd.state]; rfl
  have N0 := Fr.nil n0
  have pre0 : ∀ t_, Steps p.tables e below (s₁.setTop (mkF m 0 #[.val (.ref f1), .val (.int (Int32.ofNat vv)), .val (.double d1), .second, .unset] [])) t_ → Steps p.tables e below (s₁.setTop (entryFrame m #[(.ref f1), (.int (Int32.ofNat vv)), (.double d1)] 5)) t_ := fun t_ k => castTop (ef_Freach m f1 d1) k
  obtain ⟨_, _, ⟨T101, L101, kk101, nn101⟩, -, X101, ⟨Lc101, hQ101, l101, y101, z101⟩, st101⟩ := Jvm.LawKit.callS X0 hx (y := (⟨"java/lang/Double", "isFinite", "(D)Z"⟩ : MethodName)) hown (mvT hZ (hw _ (List.mem_of_getElem? (i := 32) rfl))) (mvT hZ (hw _ (List.mem_of_getElem? (i := 33) rfl))) (mvT hZ (hw _ (List.mem_of_getElem? (i := 34) rfl))) (mvT hZ (hw _ (List.mem_of_getElem? (i := 35) rfl))) (by decide) (backOf (W := 0) (rmisfin l Z a0 hw [] d1 h0 n0 Z0 (hd)) hZ (hw _ (List.mem_of_getElem? (i := 35) rfl)) (hw _ (List.mem_of_getElem? (i := 34) rfl)) (by decide) (by decide)) (g := (mkF m 1 #[.val (.ref f1), .val (.int (Int32.ofNat vv)), .val (.double d1), .second, .unset] [(.double d1)])) rfl (by rw [hml]; rfl) (argsL := [(.double d1)]) (rest := []) (lenOf pd__28D_29Z rfl) rfl (by show 2 * 0 + _ ≤ _; exact Nat.le_of_eq rfl) (hb hby d4_1) (fun _ _ => ⟨rfl, e0, (by decide : 0 + 0 ≤ _), (by decide : 0 + 0 ≤ _)⟩)
  dsimp only [Pt.U, Pt.locs, Pt.cells, Pt.slots] at X101 l101 y101 z101 st101 hQ101
  subst l101 y101 z101
  obtain ⟨rfl, N101q, e101⟩ := hQ101
  have N101 := Fr.app N0 N101q
  obtain ⟨T102, X102, e102, st102⟩ := getF X101 hx hZ hown (host := "") (Or.inl (hw _ (List.mem_of_getElem? (i := 20) rfl))) Via.refl e101 P_F_f1_settled (g := (mkF m 23 #[.val (.ref f1), .val (.int (Int32.ofNat vv)), .val (.double d1), .second, .unset] [(.ref f1)])) rfl rfl (hb hby d4_23)
  obtain ⟨cl103, Ar103, Q103, S103, M103, H103, G103⟩ := id P_V_aS
  have in104 : ¬ ((Int32.ofNat vv) < 0 ∨ cl103.slots.size ≤ ((Int32.ofNat vv)).toNatClampNeg) := inb_of S103 ⟨nn32 (by omega), lt32 hv (by omega)⟩
  have at105 : cl103.slots[((Int32.ofNat vv)).toNatClampNeg]? = some (.int (st vv)) := by rw [n32 (by omega), H103 vv (by rw [S103, n32 (by omega)]; exact hv), own_LZ_at _ hv]
  have pre106 : ∀ t_, Steps p.tables e below (T102.setTop (mkF m 28 #[.val (.ref f1), .val (.int (Int32.ofNat vv)), .val (.double d1), .second, .unset] [(.int (st vv))])) t_ → Steps p.tables e below (s₁.setTop (entryFrame m #[(.ref f1), (.int (Int32.ofNat vv)), (.double d1)] 5)) t_ := fun t_ kt => pre0 t_ (by
      show Steps p.tables e below (s₁.setTop (mkF m 0 #[.val (.ref f1), .val (.int (Int32.ofNat vv)), .val (.double d1), .second, .unset] [])) _
      refine XS.dloadN X0.here hx rfl (hb hby d4_0) rfl ?_
      show Steps p.tables e below (s₁.setTop (mkF m 1 #[.val (.ref f1), .val (.int (Int32.ofNat vv)), .val (.double d1), .second, .unset] [(.double d1)])) _
      refine st101 _ ?_
      show Steps p.tables e below (T101.setTop (mkF m 4 #[.val (.ref f1), .val (.int (Int32.ofNat vv)), .val (.double d1), .second, .unset] [(.int (1 : Int32))])) _
      refine XS.ifYes X101.here hx rfl (pc0 := 4) (pc' := 22) rfl (hb hby d4_4) rfl ((if0 _ _).trans (feq ((by decide) : ¬ ((1 : Int32) = (0 : Int32)))).2) (by decide) (by decide) ?_
      show Steps p.tables e below (T101.setTop (mkF m 22 #[.val (.ref f1), .val (.int (Int32.ofNat vv)), .val (.double d1), .second, .unset] [])) _
      refine XS.aloadN X101.here hx rfl (hb hby d4_22) rfl rfl ?_
      show Steps p.tables e below (T101.setTop (mkF m 23 #[.val (.ref f1), .val (.int (Int32.ofNat vv)), .val (.double d1), .second, .unset] [(.ref f1)])) _
      refine st102 _ ?_
      show Steps p.tables e below (T102.setTop (mkF m 26 #[.val (.ref f1), .val (.int (Int32.ofNat vv)), .val (.double d1), .second, .unset] [(.ref aS)])) _
      refine XS.iloadN X102.here hx rfl (hb hby d4_26) rfl ?_
      show Steps p.tables e below (T102.setTop (mkF m 27 #[.val (.ref f1), .val (.int (Int32.ofNat vv)), .val (.double d1), .second, .unset] [(.int (Int32.ofNat vv)), (.ref aS)])) _
      refine X102.baloadBooleans hx (j := (Int32.ofNat vv)) (v := (.int (st vv))) (by rw [e102]; exact Ar103.1) (State.isArrayOf_alike hZ.alike Ar103.2.1) Ar103.2.2 in104 at105 (g := (mkF m 27 #[.val (.ref f1), .val (.int (Int32.ofNat vv)), .val (.double d1), .second, .unset] [(.int (Int32.ofNat vv)), (.ref aS)])) rfl rfl (hb hby d4_27) _ ?_
      exact kt)
  by_cases hs : (st vv) = (0 : Int32)
  · skip
    obtain ⟨T107, X107, e107, st107⟩ := getF X102 hx hZ hown (host := "") (Or.inl (hw _ (List.mem_of_getElem? (i := 12) rfl))) Via.refl e102 P_F_f1_distance (g := (mkF m 34 #[.val (.ref f1), .val (.int (Int32.ofNat vv)), .val (.double d1), .second, .unset] [(.ref f1)])) rfl rfl (hb hby d4_34)
    obtain ⟨cl108, Ar108, Q108, S108, M108, H108, G108⟩ := id P_V_aD
    have in109 : ¬ ((Int32.ofNat vv) < 0 ∨ cl108.slots.size ≤ ((Int32.ofNat vv)).toNatClampNeg) := inb_of S108 ⟨nn32 (by omega), lt32 hv (by omega)⟩
    have at110 : cl108.slots[((Int32.ofNat vv)).toNatClampNeg]? = some (.double (dist vv)) := by rw [n32 (by omega), H108 vv (by rw [S108, n32 (by omega)]; exact hv), own_LD_at _ hv]
    have pre111 : ∀ t_, Steps p.tables e below (T107.setTop (mkF m 43 #[.val (.ref f1), .val (.int (Int32.ofNat vv)), .val (.double d1), .second, .unset] [(.int (cmpValue (FP.dcmp (dist vv) (9218868437227405312 : UInt64)) .l))])) t_ → Steps p.tables e below (s₁.setTop (entryFrame m #[(.ref f1), (.int (Int32.ofNat vv)), (.double d1)] 5)) t_ := fun t_ kt => pre106 t_ (by
        show Steps p.tables e below (T102.setTop (mkF m 28 #[.val (.ref f1), .val (.int (Int32.ofNat vv)), .val (.double d1), .second, .unset] [(.int (st vv))])) _
        refine XS.ifYes X102.here hx rfl (pc0 := 28) (pc' := 33) rfl (hb hby d4_28) rfl ((if0 _ _).trans (teq (hs : (st vv) = (0 : Int32))).1) (by decide) (by decide) ?_
        show Steps p.tables e below (T102.setTop (mkF m 33 #[.val (.ref f1), .val (.int (Int32.ofNat vv)), .val (.double d1), .second, .unset] [])) _
        refine XS.aloadN X102.here hx rfl (hb hby d4_33) rfl rfl ?_
        show Steps p.tables e below (T102.setTop (mkF m 34 #[.val (.ref f1), .val (.int (Int32.ofNat vv)), .val (.double d1), .second, .unset] [(.ref f1)])) _
        refine st107 _ ?_
        show Steps p.tables e below (T107.setTop (mkF m 37 #[.val (.ref f1), .val (.int (Int32.ofNat vv)), .val (.double d1), .second, .unset] [(.ref aD)])) _
        refine XS.iloadN X107.here hx rfl (hb hby d4_37) rfl ?_
        show Steps p.tables e below (T107.setTop (mkF m 38 #[.val (.ref f1), .val (.int (Int32.ofNat vv)), .val (.double d1), .second, .unset] [(.int (Int32.ofNat vv)), (.ref aD)])) _
        refine X107.daload hx (j := (Int32.ofNat vv)) (v := (.double (dist vv))) (by rw [e107]; exact Ar108.1) (State.isArrayOf_alike hZ.alike Ar108.2.1) Ar108.2.2 in109 at110 (g := (mkF m 38 #[.val (.ref f1), .val (.int (Int32.ofNat vv)), .val (.double d1), .second, .unset] [(.int (Int32.ofNat vv)), (.ref aD)])) rfl rfl (hb hby d4_38) _ ?_
        show Steps p.tables e below (T107.setTop (mkF m 39 #[.val (.ref f1), .val (.int (Int32.ofNat vv)), .val (.double d1), .second, .unset] [(.double (dist vv))])) _
        refine X107.ldc2DoubleC hx hown (mvT hZ (hw _ (List.mem_of_getElem? (i := 14) rfl))) (g := (mkF m 39 #[.val (.ref f1), .val (.int (Int32.ofNat vv)), .val (.double d1), .second, .unset] [(.double (dist vv))])) rfl (hb hby d4_39) _ ?_
        show Steps p.tables e below (T107.setTop (mkF m 42 #[.val (.ref f1), .val (.int (Int32.ofNat vv)), .val (.double d1), .second, .unset] [(.double (9218868437227405312 : UInt64)), (.double (dist vv))])) _
        refine XS.dcmpS X107.here hx rfl (hb hby d4_42) rfl (v := (cmpValue (FP.dcmp (dist vv) (9218868437227405312 : UInt64)) .l)) rfl ?_
        exact kt)
    by_cases hi : (cmpValue (FP.dcmp (dist vv) (9218868437227405312 : UInt64)) .l) = (0 : Int32)
    · skip
      have hie : dist vv = own_inf := own_infeq hi
      have hfr := hfr0 hs hie
      obtain ⟨T112, X112, e112, st112⟩ := getF X107 hx hZ hown (host := "") (Or.inl (hw _ (List.mem_of_getElem? (i := 23) rfl))) Via.refl e107 P_F_f1_reached (g := (mkF m 47 #[.val (.ref f1), .val (.int (Int32.ofNat vv)), .val (.double d1), .second, .unset] [(.ref f1)])) rfl rfl (hb hby d4_47)
      obtain ⟨T113, X113, e113, st113⟩ := getF X112 hx hZ hown (host := "") (Or.inl (hw _ (List.mem_of_getElem? (i := 41) rfl))) Via.refl e112 P_F_f1_reachedCount (g := (mkF m 51 #[.val (.ref f1), .val (.int (Int32.ofNat vv)), .val (.double d1), .second, .unset] [(.ref f1), (.ref aR)])) rfl rfl (hb hby d4_51)
      obtain ⟨cl114, Ar114, Q114, S114, M114, H114, G114⟩ := id P_V_aR
      have in115 : ¬ ((Int32.ofNat rc) < 0 ∨ cl114.slots.size ≤ ((Int32.ofNat rc)).toNatClampNeg) := inb_of S114 ⟨nn32 (by omega), lt32 hfr.1 (by omega)⟩
      obtain ⟨T116, h116, X116, e116, W116, st116⟩ := stI X113 hx hZ e113 Ar114 (j := (Int32.ofNat rc)) in115 (g := (mkF m 55 #[.val (.ref f1), .val (.int (Int32.ofNat vv)), .val (.double d1), .second, .unset] [(.int (Int32.ofNat vv)), (.int (Int32.ofNat rc)), (.ref aR)])) rfl rfl (hb hby d4_55)
      have z117 : n0 ≤ h116.size := Nat.le_trans Z0 (Keep.of_wr W116).1
      have k118 : Keep h0 h116 [f1, aD, aR, aO] := (Keep.refl h0 [f1, aD, aR, aO]).wr W116 (Or.inl (List.mem_of_getElem? (i := 2) rfl))
      have V116 : Arv Z h116 aR kR .int (Int32.ofNat n) (own_LN (own_up rch rc vv) n) (.int (0 : Int32)) := own_LN_set rch n rc vv ▸ Arv.set Ar114 Q114 S114 M114 H114 G114 rfl W116 rc (n32 (by omega)) (by rw [own_LN_len]; exact hfr.1)
      have N116 : Fr n0 _ := Fr.snoc X116 N101 P_G_aR
      have f119 : Fld Z h116 f1 "com/example/slotwright/slotwright/exchange/Frontier" "reachedCount" "I" (.int (Int32.ofNat rc)) := (P_F_f1_reachedCount.other W116 (Or.inl P_ne_f1_aR))
      obtain ⟨T120, X120, e120, st120⟩ := getF X116 hx hZ hown (host := "") (Or.inl (hw _ (List.mem_of_getElem? (i := 41) rfl))) Via.refl e116 f119 (g := (mkF m 58 #[.val (.ref f1), .val (.int (Int32.ofNat vv)), .val (.double d1), .second, .unset] [(.ref f1), (.ref f1)])) rfl rfl (hb hby d4_58)
      have f121 : Exa Z h116 f1 "com/example/slotwright/slotwright/exchange/Frontier" := (P_E_f1.wr W116)
      obtain ⟨T122, h122, X122, e122, W122, st122⟩ := putF X120 hx hZ hown (host := "") (Or.inl (hw _ (List.mem_of_getElem? (i := 41) rfl))) Via.refl e120 f119 f121 (Or.inl (hw _ (List.mem_of_getElem? (i := 42) rfl))) (hw _ (List.mem_of_getElem? (i := 3) rfl)) (ty := .int) (by decide) rfl rfl (g := (mkF m 63 #[.val (.ref f1), .val (.int (Int32.ofNat vv)), .val (.double d1), .second, .unset] [(.int (Int32.ofNat (rc + 1))), (.ref f1)])) rfl rfl (hb hby d4_63)
      have F122 : Fld Z h122 f1 "com/example/slotwright/slotwright/exchange/Frontier" "reachedCount" "I" (.int (Int32.ofNat (rc + 1))) := f119.same W122
      have z123 : n0 ≤ h122.size := Nat.le_trans z117 (Keep.of_wr W122).1
      have k124 : Keep h0 h122 [f1, aD, aR, aO] := k118.wr W122 (Or.inl (List.mem_of_getElem? (i := 0) rfl))
      have N122 : Fr n0 _ := Fr.snoc X122 N116 P_G_f1
      have f125 : Fld Z h122 f1 "com/example/slotwright/slotwright/exchange/Frontier" "open" "[I" (.ref aO) := ((P_F_f1_open.other W116 (Or.inl P_ne_f1_aR)).other W122 (Or.inr (slot_ne (Or.inr (hw _ (List.mem_of_getElem? (i := 26) rfl))) (Or.inl (hw _ (List.mem_of_getElem? (i := 42) rfl))) (by decide) (t := (.array .int)) (t' := .int) (by decide) (by decide))))
      obtain ⟨T126, X126, e126, st126⟩ := getF X122 hx hZ hown (host := "") (Or.inl (hw _ (List.mem_of_getElem? (i := 25) rfl))) Via.refl e122 f125 (g := (mkF m 67 #[.val (.ref f1), .val (.int (Int32.ofNat vv)), .val (.double d1), .second, .unset] [(.ref f1)])) rfl rfl (hb hby d4_67)
      have f127 : Fld Z h122 f1 "com/example/slotwright/slotwright/exchange/Frontier" "openCount" "I" (.int (Int32.ofNat oc)) := ((P_F_f1_openCount.other W116 (Or.inl P_ne_f1_aR)).other W122 (Or.inr (slot_ne (Or.inl (hw _ (List.mem_of_getElem? (i := 44) rfl))) (Or.inl (hw _ (List.mem_of_getElem? (i := 42) rfl))) (by decide) (t := .int) (t' := .int) (by decide) (by decide))))
      obtain ⟨T128, X128, e128, st128⟩ := getF X126 hx hZ hown (host := "") (Or.inl (hw _ (List.mem_of_getElem? (i := 43) rfl))) Via.refl e126 f127 (g := (mkF m 71 #[.val (.ref f1), .val (.int (Int32.ofNat vv)), .val (.double d1), .second, .unset] [(.ref f1), (.ref aO)])) rfl rfl (hb hby d4_71)
      have f129 : Arv Z h122 aO kO .int (Int32.ofNat n) (own_LN opn n) (.int (0 : Int32)) := ((P_V_aO.other W116 (Ne.symm P_ne_aR_aO)).other W122 (Ne.symm P_ne_f1_aO))
      obtain ⟨cl130, Ar130, Q130, S130, M130, H130, G130⟩ := id f129
      have in131 : ¬ ((Int32.ofNat oc) < 0 ∨ cl130.slots.size ≤ ((Int32.ofNat oc)).toNatClampNeg) := inb_of S130 ⟨nn32 (by omega), lt32 hfr.2 (by omega)⟩
      obtain ⟨T132, h132, X132, e132, W132, st132⟩ := stI X128 hx hZ e128 Ar130 (j := (Int32.ofNat oc)) in131 (g := (mkF m 75 #[.val (.ref f1), .val (.int (Int32.ofNat vv)), .val (.double d1), .second, .unset] [(.int (Int32.ofNat vv)), (.int (Int32.ofNat oc)), (.ref aO)])) rfl rfl (hb hby d4_75)
      have z133 : n0 ≤ h132.size := Nat.le_trans z123 (Keep.of_wr W132).1
      have k134 : Keep h0 h132 [f1, aD, aR, aO] := k124.wr W132 (Or.inl (List.mem_of_getElem? (i := 3) rfl))
      have V132 : Arv Z h132 aO kO .int (Int32.ofNat n) (own_LN (own_up opn oc vv) n) (.int (0 : Int32)) := own_LN_set opn n oc vv ▸ Arv.set Ar130 Q130 S130 M130 H130 G130 rfl W132 oc (n32 (by omega)) (by rw [own_LN_len]; exact hfr.2)
      have N132 : Fr n0 _ := Fr.snoc X132 N122 P_G_aO
      have f135 : Fld Z h132 f1 "com/example/slotwright/slotwright/exchange/Frontier" "openCount" "I" (.int (Int32.ofNat oc)) := (f127.other W132 (Or.inl P_ne_f1_aO))
      obtain ⟨T136, X136, e136, st136⟩ := getF X132 hx hZ hown (host := "") (Or.inl (hw _ (List.mem_of_getElem? (i := 43) rfl))) Via.refl e132 f135 (g := (mkF m 78 #[.val (.ref f1), .val (.int (Int32.ofNat vv)), .val (.double d1), .second, .unset] [(.ref f1), (.ref f1)])) rfl rfl (hb hby d4_78)
      have f137 : Exa Z h132 f1 "com/example/slotwright/slotwright/exchange/Frontier" := ((f121.wr W122).wr W132)
      obtain ⟨T138, h138, X138, e138, W138, st138⟩ := putF X136 hx hZ hown (host := "") (Or.inl (hw _ (List.mem_of_getElem? (i := 43) rfl))) Via.refl e136 f135 f137 (Or.inl (hw _ (List.mem_of_getElem? (i := 44) rfl))) (hw _ (List.mem_of_getElem? (i := 3) rfl)) (ty := .int) (by decide) rfl rfl (g := (mkF m 83 #[.val (.ref f1), .val (.int (Int32.ofNat vv)), .val (.double d1), .second, .unset] [(.int (Int32.ofNat (oc + 1))), (.ref f1)])) rfl rfl (hb hby d4_83)
      have F138 : Fld Z h138 f1 "com/example/slotwright/slotwright/exchange/Frontier" "openCount" "I" (.int (Int32.ofNat (oc + 1))) := f135.same W138
      have z139 : n0 ≤ h138.size := Nat.le_trans z133 (Keep.of_wr W138).1
      have k140 : Keep h0 h138 [f1, aD, aR, aO] := k134.wr W138 (Or.inl (List.mem_of_getElem? (i := 0) rfl))
      have N138 : Fr n0 _ := Fr.snoc X138 N132 P_G_f1
      have f141 : Fld Z h138 f1 "com/example/slotwright/slotwright/exchange/Frontier" "distance" "[D" (.ref aD) := ((((P_F_f1_distance.other W116 (Or.inl P_ne_f1_aR)).other W122 (Or.inr (slot_ne (Or.inr (hw _ (List.mem_of_getElem? (i := 13) rfl))) (Or.inl (hw _ (List.mem_of_getElem? (i := 42) rfl))) (by decide) (t := (.array .double)) (t' := .int) (by decide) (by decide)))).other W132 (Or.inl P_ne_f1_aO)).other W138 (Or.inr (slot_ne (Or.inr (hw _ (List.mem_of_getElem? (i := 13) rfl))) (Or.inl (hw _ (List.mem_of_getElem? (i := 44) rfl))) (by decide) (t := (.array .double)) (t' := .int) (by decide) (by decide))))
      obtain ⟨T142, X142, e142, st142⟩ := getF X138 hx hZ hown (host := "") (Or.inl (hw _ (List.mem_of_getElem? (i := 12) rfl))) Via.refl e138 f141 (g := (mkF m 88 #[.val (.ref f1), .val (.int (Int32.ofNat vv)), .val (.double d1), .second, .unset] [(.ref f1), (.double d1)])) rfl rfl (hb hby d4_88)
      have f143 : Arv Z h138 aD kD .double (Int32.ofNat n) (own_LD dist n) (.double (0 : UInt64)) := ((((P_V_aD.other W116 P_ne_aD_aR).other W122 (Ne.symm P_ne_f1_aD)).other W132 P_ne_aD_aO).other W138 (Ne.symm P_ne_f1_aD))
      obtain ⟨cl144, Ar144, Q144, S144, M144, H144, G144⟩ := id f143
      have in145 : ¬ ((Int32.ofNat vv) < 0 ∨ cl144.slots.size ≤ ((Int32.ofNat vv)).toNatClampNeg) := inb_of S144 ⟨nn32 (by omega), lt32 hv (by omega)⟩
      have at146 : cl144.slots[((Int32.ofNat vv)).toNatClampNeg]? = some (.double (dist vv)) := by rw [n32 (by omega), H144 vv (by rw [S144, n32 (by omega)]; exact hv), own_LD_at _ hv]
      obtain ⟨T147, X147, e147, st147⟩ := getF X142 hx hZ hown (host := "") (Or.inl (hw _ (List.mem_of_getElem? (i := 12) rfl))) Via.refl e142 f141 (g := (mkF m 110 #[.val (.ref f1), .val (.int (Int32.ofNat vv)), .val (.double d1), .second, .val (.int (1 : Int32))] [(.ref f1)])) rfl rfl (hb hby d4_110)
      obtain ⟨cl148, Ar148, Q148, S148, M148, H148, G148⟩ := id f143
      have in149 : ¬ ((Int32.ofNat vv) < 0 ∨ cl148.slots.size ≤ ((Int32.ofNat vv)).toNatClampNeg) := inb_of S148 ⟨nn32 (by omega), lt32 hv (by omega)⟩
      obtain ⟨T150, h150, X150, e150, W150, st150⟩ := stD X147 hx hZ e147 Ar148 (j := (Int32.ofNat vv)) in149 (g := (mkF m 115 #[.val (.ref f1), .val (.int (Int32.ofNat vv)), .val (.double d1), .second, .val (.int (1 : Int32))] [(.double d1), (.int (Int32.ofNat vv)), (.ref aD)])) rfl rfl (hb hby d4_115)
      have z151 : n0 ≤ h150.size := Nat.le_trans z139 (Keep.of_wr W150).1
      have k152 : Keep h0 h150 [f1, aD, aR, aO] := k140.wr W150 (Or.inl (List.mem_of_getElem? (i := 1) rfl))
      have V150 : Arv Z h150 aD kD .double (Int32.ofNat n) (own_LD (own_up dist vv d1) n) (.double (0 : UInt64)) := own_LD_set dist n vv d1 ▸ Arv.set Ar148 Q148 S148 M148 H148 G148 rfl W150 vv (n32 (by omega)) (by rw [own_LD_len]; exact hv)
      have N150 : Fr n0 _ := Fr.snoc X150 N138 P_G_aD
      have pre153 : ∀ t_, Steps p.tables e below (T150.setTop (mkF m 118 #[.val (.ref f1), .val (.int (Int32.ofNat vv)), .val (.double d1), .second, .val (.int (1 : Int32))] [(.int (1 : Int32))])) t_ → Steps p.tables e below (s₁.setTop (entryFrame m #[(.ref f1), (.int (Int32.ofNat vv)), (.double d1)] 5)) t_ := fun t_ kt => pre111 t_ (by
          show Steps p.tables e below (T107.setTop (mkF m 43 #[.val (.ref f1), .val (.int (Int32.ofNat vv)), .val (.double d1), .second, .unset] [(.int (cmpValue (FP.dcmp (dist vv) (9218868437227405312 : UInt64)) .l))])) _
          refine XS.ifNo X107.here hx rfl (hb hby d4_43) rfl ((if0 _ _).trans (teq (hi : (cmpValue (FP.dcmp (dist vv) (9218868437227405312 : UInt64)) .l) = (0 : Int32))).2) ?_
          show Steps p.tables e below (T107.setTop (mkF m 46 #[.val (.ref f1), .val (.int (Int32.ofNat vv)), .val (.double d1), .second, .unset] [])) _
          refine XS.aloadN X107.here hx rfl (hb hby d4_46) rfl rfl ?_
          show Steps p.tables e below (T107.setTop (mkF m 47 #[.val (.ref f1), .val (.int (Int32.ofNat vv)), .val (.double d1), .second, .unset] [(.ref f1)])) _
          refine st112 _ ?_
          show Steps p.tables e below (T112.setTop (mkF m 50 #[.val (.ref f1), .val (.int (Int32.ofNat vv)), .val (.double d1), .second, .unset] [(.ref aR)])) _
          refine XS.aloadN X112.here hx rfl (hb hby d4_50) rfl rfl ?_
          show Steps p.tables e below (T112.setTop (mkF m 51 #[.val (.ref f1), .val (.int (Int32.ofNat vv)), .val (.double d1), .second, .unset] [(.ref f1), (.ref aR)])) _
          refine st113 _ ?_
          show Steps p.tables e below (T113.setTop (mkF m 54 #[.val (.ref f1), .val (.int (Int32.ofNat vv)), .val (.double d1), .second, .unset] [(.int (Int32.ofNat rc)), (.ref aR)])) _
          refine XS.iloadN X113.here hx rfl (hb hby d4_54) rfl ?_
          show Steps p.tables e below (T113.setTop (mkF m 55 #[.val (.ref f1), .val (.int (Int32.ofNat vv)), .val (.double d1), .second, .unset] [(.int (Int32.ofNat vv)), (.int (Int32.ofNat rc)), (.ref aR)])) _
          refine st116 _ ?_
          show Steps p.tables e below (T116.setTop (mkF m 56 #[.val (.ref f1), .val (.int (Int32.ofNat vv)), .val (.double d1), .second, .unset] [])) _
          refine XS.aloadN X116.here hx rfl (hb hby d4_56) rfl rfl ?_
          show Steps p.tables e below (T116.setTop (mkF m 57 #[.val (.ref f1), .val (.int (Int32.ofNat vv)), .val (.double d1), .second, .unset] [(.ref f1)])) _
          refine XS.dup X116.here hx rfl (hb hby d4_57) rfl rfl ?_
          show Steps p.tables e below (T116.setTop (mkF m 58 #[.val (.ref f1), .val (.int (Int32.ofNat vv)), .val (.double d1), .second, .unset] [(.ref f1), (.ref f1)])) _
          refine st120 _ ?_
          show Steps p.tables e below (T120.setTop (mkF m 61 #[.val (.ref f1), .val (.int (Int32.ofNat vv)), .val (.double d1), .second, .unset] [(.int (Int32.ofNat rc)), (.ref f1)])) _
          refine XS.iconst X120.here hx rfl (hb hby d4_61) ?_
          show Steps p.tables e below (T120.setTop (mkF m 62 #[.val (.ref f1), .val (.int (Int32.ofNat vv)), .val (.double d1), .second, .unset] [(.int (1 : Int32)), (.int (Int32.ofNat rc)), (.ref f1)])) _
          refine XS.iadd X120.here hx rfl (hb hby d4_62) rfl ?_
          show Steps p.tables e below (T120.setTop (mkF m 63 #[.val (.ref f1), .val (.int (Int32.ofNat vv)), .val (.double d1), .second, .unset] [(.int ((Int32.ofNat rc) + (1 : Int32))), (.ref f1)])) _
          rw [one32 rc]
          show Steps p.tables e below (T120.setTop (mkF m 63 #[.val (.ref f1), .val (.int (Int32.ofNat vv)), .val (.double d1), .second, .unset] [(.int (Int32.ofNat (rc + 1))), (.ref f1)])) _
          refine st122 _ ?_
          show Steps p.tables e below (T122.setTop (mkF m 66 #[.val (.ref f1), .val (.int (Int32.ofNat vv)), .val (.double d1), .second, .unset] [])) _
          refine XS.aloadN X122.here hx rfl (hb hby d4_66) rfl rfl ?_
          show Steps p.tables e below (T122.setTop (mkF m 67 #[.val (.ref f1), .val (.int (Int32.ofNat vv)), .val (.double d1), .second, .unset] [(.ref f1)])) _
          refine st126 _ ?_
          show Steps p.tables e below (T126.setTop (mkF m 70 #[.val (.ref f1), .val (.int (Int32.ofNat vv)), .val (.double d1), .second, .unset] [(.ref aO)])) _
          refine XS.aloadN X126.here hx rfl (hb hby d4_70) rfl rfl ?_
          show Steps p.tables e below (T126.setTop (mkF m 71 #[.val (.ref f1), .val (.int (Int32.ofNat vv)), .val (.double d1), .second, .unset] [(.ref f1), (.ref aO)])) _
          refine st128 _ ?_
          show Steps p.tables e below (T128.setTop (mkF m 74 #[.val (.ref f1), .val (.int (Int32.ofNat vv)), .val (.double d1), .second, .unset] [(.int (Int32.ofNat oc)), (.ref aO)])) _
          refine XS.iloadN X128.here hx rfl (hb hby d4_74) rfl ?_
          show Steps p.tables e below (T128.setTop (mkF m 75 #[.val (.ref f1), .val (.int (Int32.ofNat vv)), .val (.double d1), .second, .unset] [(.int (Int32.ofNat vv)), (.int (Int32.ofNat oc)), (.ref aO)])) _
          refine st132 _ ?_
          show Steps p.tables e below (T132.setTop (mkF m 76 #[.val (.ref f1), .val (.int (Int32.ofNat vv)), .val (.double d1), .second, .unset] [])) _
          refine XS.aloadN X132.here hx rfl (hb hby d4_76) rfl rfl ?_
          show Steps p.tables e below (T132.setTop (mkF m 77 #[.val (.ref f1), .val (.int (Int32.ofNat vv)), .val (.double d1), .second, .unset] [(.ref f1)])) _
          refine XS.dup X132.here hx rfl (hb hby d4_77) rfl rfl ?_
          show Steps p.tables e below (T132.setTop (mkF m 78 #[.val (.ref f1), .val (.int (Int32.ofNat vv)), .val (.double d1), .second, .unset] [(.ref f1), (.ref f1)])) _
          refine st136 _ ?_
          show Steps p.tables e below (T136.setTop (mkF m 81 #[.val (.ref f1), .val (.int (Int32.ofNat vv)), .val (.double d1), .second, .unset] [(.int (Int32.ofNat oc)), (.ref f1)])) _
          refine XS.iconst X136.here hx rfl (hb hby d4_81) ?_
          show Steps p.tables e below (T136.setTop (mkF m 82 #[.val (.ref f1), .val (.int (Int32.ofNat vv)), .val (.double d1), .second, .unset] [(.int (1 : Int32)), (.int (Int32.ofNat oc)), (.ref f1)])) _
          refine XS.iadd X136.here hx rfl (hb hby d4_82) rfl ?_
          show Steps p.tables e below (T136.setTop (mkF m 83 #[.val (.ref f1), .val (.int (Int32.ofNat vv)), .val (.double d1), .second, .unset] [(.int ((Int32.ofNat oc) + (1 : Int32))), (.ref f1)])) _
          rw [one32 oc]
          show Steps p.tables e below (T136.setTop (mkF m 83 #[.val (.ref f1), .val (.int (Int32.ofNat vv)), .val (.double d1), .second, .unset] [(.int (Int32.ofNat (oc + 1))), (.ref f1)])) _
          refine st138 _ ?_
          show Steps p.tables e below (T138.setTop (mkF m 86 #[.val (.ref f1), .val (.int (Int32.ofNat vv)), .val (.double d1), .second, .unset] [])) _
          refine XS.dloadN X138.here hx rfl (hb hby d4_86) rfl ?_
          show Steps p.tables e below (T138.setTop (mkF m 87 #[.val (.ref f1), .val (.int (Int32.ofNat vv)), .val (.double d1), .second, .unset] [(.double d1)])) _
          refine XS.aloadN X138.here hx rfl (hb hby d4_87) rfl rfl ?_
          show Steps p.tables e below (T138.setTop (mkF m 88 #[.val (.ref f1), .val (.int (Int32.ofNat vv)), .val (.double d1), .second, .unset] [(.ref f1), (.double d1)])) _
          refine st142 _ ?_
          show Steps p.tables e below (T142.setTop (mkF m 91 #[.val (.ref f1), .val (.int (Int32.ofNat vv)), .val (.double d1), .second, .unset] [(.ref aD), (.double d1)])) _
          refine XS.iloadN X142.here hx rfl (hb hby d4_91) rfl ?_
          show Steps p.tables e below (T142.setTop (mkF m 92 #[.val (.ref f1), .val (.int (Int32.ofNat vv)), .val (.double d1), .second, .unset] [(.int (Int32.ofNat vv)), (.ref aD), (.double d1)])) _
          refine X142.daload hx (j := (Int32.ofNat vv)) (v := (.double (dist vv))) (by rw [e142]; exact Ar144.1) (State.isArrayOf_alike hZ.alike Ar144.2.1) Ar144.2.2 in145 at146 (g := (mkF m 92 #[.val (.ref f1), .val (.int (Int32.ofNat vv)), .val (.double d1), .second, .unset] [(.int (Int32.ofNat vv)), (.ref aD), (.double d1)])) rfl rfl (hb hby d4_92) _ ?_
          show Steps p.tables e below (T142.setTop (mkF m 93 #[.val (.ref f1), .val (.int (Int32.ofNat vv)), .val (.double d1), .second, .unset] [(.double (dist vv)), (.double d1)])) _
          refine XS.dcmpS X142.here hx rfl (hb hby d4_93) rfl (v := (cmpValue (FP.dcmp d1 (dist vv)) .g)) rfl ?_
          show Steps p.tables e below (T142.setTop (mkF m 94 #[.val (.ref f1), .val (.int (Int32.ofNat vv)), .val (.double d1), .second, .unset] [(.int (cmpValue (FP.dcmp d1 (dist vv)) .g))])) _
          refine XS.ifNo X142.here hx rfl (hb hby d4_94) rfl ((if0 _ _).trans (tlt (by rw [hie]; rw [show own_inf = (9218868437227405312 : UInt64) from rfl, dcmp_pinf hd]; decide : (cmpValue (FP.dcmp d1 (dist vv)) .g) < (0 : Int32))).2.1) ?_
          show Steps p.tables e below (T142.setTop (mkF m 97 #[.val (.ref f1), .val (.int (Int32.ofNat vv)), .val (.double d1), .second, .unset] [])) _
          refine XS.iconst X142.here hx rfl (hb hby d4_97) ?_
          show Steps p.tables e below (T142.setTop (mkF m 98 #[.val (.ref f1), .val (.int (Int32.ofNat vv)), .val (.double d1), .second, .unset] [(.int (1 : Int32))])) _
          refine XS.goto X142.here hx rfl (pc0 := 98) (pc' := 102) rfl (hb hby d4_98) (by decide) (by decide) ?_
          show Steps p.tables e below (T142.setTop (mkF m 102 #[.val (.ref f1), .val (.int (Int32.ofNat vv)), .val (.double d1), .second, .unset] [(.int (1 : Int32))])) _
          refine XS.istore X142.here hx rfl (hb hby d4_102) rfl (l' := #[.val (.ref f1), .val (.int (Int32.ofNat vv)), .val (.double d1), .second, .val (.int (1 : Int32))]) rfl ?_
          show Steps p.tables e below (T142.setTop (mkF m 104 #[.val (.ref f1), .val (.int (Int32.ofNat vv)), .val (.double d1), .second, .val (.int (1 : Int32))] [])) _
          refine XS.iload X142.here hx rfl (hb hby d4_104) rfl ?_
          show Steps p.tables e below (T142.setTop (mkF m 106 #[.val (.ref f1), .val (.int (Int32.ofNat vv)), .val (.double d1), .second, .val (.int (1 : Int32))] [(.int (1 : Int32))])) _
          refine XS.ifNo X142.here hx rfl (hb hby d4_106) rfl ((if0 _ _).trans (feq ((by decide) : ¬ ((1 : Int32) = (0 : Int32)))).1) ?_
          show Steps p.tables e below (T142.setTop (mkF m 109 #[.val (.ref f1), .val (.int (Int32.ofNat vv)), .val (.double d1), .second, .val (.int (1 : Int32))] [])) _
          refine XS.aloadN X142.here hx rfl (hb hby d4_109) rfl rfl ?_
          show Steps p.tables e below (T142.setTop (mkF m 110 #[.val (.ref f1), .val (.int (Int32.ofNat vv)), .val (.double d1), .second, .val (.int (1 : Int32))] [(.ref f1)])) _
          refine st147 _ ?_
          show Steps p.tables e below (T147.setTop (mkF m 113 #[.val (.ref f1), .val (.int (Int32.ofNat vv)), .val (.double d1), .second, .val (.int (1 : Int32))] [(.ref aD)])) _
          refine XS.iloadN X147.here hx rfl (hb hby d4_113) rfl ?_
          show Steps p.tables e below (T147.setTop (mkF m 114 #[.val (.ref f1), .val (.int (Int32.ofNat vv)), .val (.double d1), .second, .val (.int (1 : Int32))] [(.int (Int32.ofNat vv)), (.ref aD)])) _
          refine XS.dloadN X147.here hx rfl (hb hby d4_114) rfl ?_
          show Steps p.tables e below (T147.setTop (mkF m 115 #[.val (.ref f1), .val (.int (Int32.ofNat vv)), .val (.double d1), .second, .val (.int (1 : Int32))] [(.double d1), (.int (Int32.ofNat vv)), (.ref aD)])) _
          refine st150 _ ?_
          show Steps p.tables e below (T150.setTop (mkF m 116 #[.val (.ref f1), .val (.int (Int32.ofNat vv)), .val (.double d1), .second, .val (.int (1 : Int32))] [])) _
          refine XS.iload X150.here hx rfl (hb hby d4_116) rfl ?_
          exact kt)
      have f154 : Exa Z h150 f1 "com/example/slotwright/slotwright/exchange/Frontier" := ((f137.wr W138).wr W150)
      have f155 : Fld Z h150 f1 "com/example/slotwright/slotwright/exchange/Frontier" "distance" "[D" (.ref aD) := (f141.other W150 (Or.inl P_ne_f1_aD))
      have f156 : Fld Z h150 f1 "com/example/slotwright/slotwright/exchange/Frontier" "settled" "[Z" (.ref aS) := (((((P_F_f1_settled.other W116 (Or.inl P_ne_f1_aR)).other W122 (Or.inr (slot_ne (Or.inr (hw _ (List.mem_of_getElem? (i := 21) rfl))) (Or.inl (hw _ (List.mem_of_getElem? (i := 42) rfl))) (by decide) (t := (.array .boolean)) (t' := .int) (by decide) (by decide)))).other W132 (Or.inl P_ne_f1_aO)).other W138 (Or.inr (slot_ne (Or.inr (hw _ (List.mem_of_getElem? (i := 21) rfl))) (Or.inl (hw _ (List.mem_of_getElem? (i := 44) rfl))) (by decide) (t := (.array .boolean)) (t' := .int) (by decide) (by decide)))).other W150 (Or.inl P_ne_f1_aD))
      have f157 : Fld Z h150 f1 "com/example/slotwright/slotwright/exchange/Frontier" "reached" "[I" (.ref aR) := (((((P_F_f1_reached.other W116 (Or.inl P_ne_f1_aR)).other W122 (Or.inr (slot_ne (Or.inr (hw _ (List.mem_of_getElem? (i := 24) rfl))) (Or.inl (hw _ (List.mem_of_getElem? (i := 42) rfl))) (by decide) (t := (.array .int)) (t' := .int) (by decide) (by decide)))).other W132 (Or.inl P_ne_f1_aO)).other W138 (Or.inr (slot_ne (Or.inr (hw _ (List.mem_of_getElem? (i := 24) rfl))) (Or.inl (hw _ (List.mem_of_getElem? (i := 44) rfl))) (by decide) (t := (.array .int)) (t' := .int) (by decide) (by decide)))).other W150 (Or.inl P_ne_f1_aD))
      have f158 : Fld Z h150 f1 "com/example/slotwright/slotwright/exchange/Frontier" "open" "[I" (.ref aO) := (((f125.other W132 (Or.inl P_ne_f1_aO)).other W138 (Or.inr (slot_ne (Or.inr (hw _ (List.mem_of_getElem? (i := 26) rfl))) (Or.inl (hw _ (List.mem_of_getElem? (i := 44) rfl))) (by decide) (t := (.array .int)) (t' := .int) (by decide) (by decide)))).other W150 (Or.inl P_ne_f1_aD))
      have f159 : Fld Z h150 f1 "com/example/slotwright/slotwright/exchange/Frontier" "reachedCount" "I" (.int (Int32.ofNat (rc + 1))) := (((F122.other W132 (Or.inl P_ne_f1_aO)).other W138 (Or.inr (slot_ne (Or.inl (hw _ (List.mem_of_getElem? (i := 42) rfl))) (Or.inl (hw _ (List.mem_of_getElem? (i := 44) rfl))) (by decide) (t := .int) (t' := .int) (by decide) (by decide)))).other W150 (Or.inl P_ne_f1_aD))
      have f160 : Fld Z h150 f1 "com/example/slotwright/slotwright/exchange/Frontier" "openCount" "I" (.int (Int32.ofNat (oc + 1))) := (F138.other W150 (Or.inl P_ne_f1_aD))
      have f161 : Arv Z h150 aS kS .boolean (Int32.ofNat n) (own_LZ st n) (.int (0 : Int32)) := (((((P_V_aS.other W116 P_ne_aS_aR).other W122 (Ne.symm P_ne_f1_aS)).other W132 P_ne_aS_aO).other W138 (Ne.symm P_ne_f1_aS)).other W150 (Ne.symm P_ne_aD_aS))
      have f162 : Arv Z h150 aR kR .int (Int32.ofNat n) (own_LN (own_up rch rc vv) n) (.int (0 : Int32)) := ((((V116.other W122 (Ne.symm P_ne_f1_aR)).other W132 P_ne_aR_aO).other W138 (Ne.symm P_ne_f1_aR)).other W150 (Ne.symm P_ne_aD_aR))
      have f163 : Arv Z h150 aO kO .int (Int32.ofNat n) (own_LN (own_up opn oc vv) n) (.int (0 : Int32)) := ((V132.other W138 (Ne.symm P_ne_f1_aO)).other W150 (Ne.symm P_ne_aD_aO))
      obtain ⟨fs, hr, hrun, hended, hW, hsame⟩ := X150.leave (v := some (.int (1 : Int32))) (fun h => by rw [Bd.returns] at h; cases h)
      refine ⟨_, _, pre153 _ ?_, hrun, hended, _, _, rfl, ?_, ⟨_, rfl⟩, hW, hsame.mono (by decide) (by decide)⟩
      · show Steps p.tables e below (T150.setTop (mkF m 118 #[.val (.ref f1), .val (.int (Int32.ofNat vv)), .val (.double d1), .second, .val (.int (1 : Int32))] [(.int (1 : Int32))])) _
        exact retN X150 hx (t := .boolean) Bd.returns (by simp) (hb hby d4_118) hr
      · show QFreach Z f1 d1 aD aS aR aO kD kS kR kO n dist st rch rc opn oc vv h0 n0 _ T150.heap _
        rw [e150]
        exact ⟨(own_up dist vv d1), (own_up rch rc vv), (rc + 1), (own_up opn oc vv), (oc + 1), (1 : Int32), rfl, N150, k152, f154, f155, f156, f157, f158, f159, f160, V150, f161, f162, f163, Or.inr (Or.inl ⟨hs, hie, rfl, rfl, rfl, rfl, rfl⟩)⟩
    · skip
      have hne := own_infne hi
      obtain ⟨T164, X164, e164, st164⟩ := getF X107 hx hZ hown (host := "") (Or.inl (hw _ (List.mem_of_getElem? (i := 12) rfl))) Via.refl e107 P_F_f1_distance (g := (mkF m 88 #[.val (.ref f1), .val (.int (Int32.ofNat vv)), .val (.double d1), .second, .unset] [(.ref f1), (.double d1)])) rfl rfl (hb hby d4_88)
      obtain ⟨cl165, Ar165, Q165, S165, M165, H165, G165⟩ := id P_V_aD
      have in166 : ¬ ((Int32.ofNat vv) < 0 ∨ cl165.slots.size ≤ ((Int32.ofNat vv)).toNatClampNeg) := inb_of S165 ⟨nn32 (by omega), lt32 hv (by omega)⟩
      have at167 : cl165.slots[((Int32.ofNat vv)).toNatClampNeg]? = some (.double (dist vv)) := by rw [n32 (by omega), H165 vv (by rw [S165, n32 (by omega)]; exact hv), own_LD_at _ hv]
      have pre168 : ∀ t_, Steps p.tables e below (T164.setTop (mkF m 94 #[.val (.ref f1), .val (.int (Int32.ofNat vv)), .val (.double d1), .second, .unset] [(.int (cmpValue (FP.dcmp d1 (dist vv)) .g))])) t_ → Steps p.tables e below (s₁.setTop (entryFrame m #[(.ref f1), (.int (Int32.ofNat vv)), (.double d1)] 5)) t_ := fun t_ kt => pre111 t_ (by
          show Steps p.tables e below (T107.setTop (mkF m 43 #[.val (.ref f1), .val (.int (Int32.ofNat vv)), .val (.double d1), .second, .unset] [(.int (cmpValue (FP.dcmp (dist vv) (9218868437227405312 : UInt64)) .l))])) _
          refine XS.ifYes X107.here hx rfl (pc0 := 43) (pc' := 86) rfl (hb hby d4_43) rfl ((if0 _ _).trans (feq (hi : ¬ ((cmpValue (FP.dcmp (dist vv) (9218868437227405312 : UInt64)) .l) = (0 : Int32)))).2) (by decide) (by decide) ?_
          show Steps p.tables e below (T107.setTop (mkF m 86 #[.val (.ref f1), .val (.int (Int32.ofNat vv)), .val (.double d1), .second, .unset] [])) _
          refine XS.dloadN X107.here hx rfl (hb hby d4_86) rfl ?_
          show Steps p.tables e below (T107.setTop (mkF m 87 #[.val (.ref f1), .val (.int (Int32.ofNat vv)), .val (.double d1), .second, .unset] [(.double d1)])) _
          refine XS.aloadN X107.here hx rfl (hb hby d4_87) rfl rfl ?_
          show Steps p.tables e below (T107.setTop (mkF m 88 #[.val (.ref f1), .val (.int (Int32.ofNat vv)), .val (.double d1), .second, .unset] [(.ref f1), (.double d1)])) _
          refine st164 _ ?_
          show Steps p.tables e below (T164.setTop (mkF m 91 #[.val (.ref f1), .val (.int (Int32.ofNat vv)), .val (.double d1), .second, .unset] [(.ref aD), (.double d1)])) _
          refine XS.iloadN X164.here hx rfl (hb hby d4_91) rfl ?_
          show Steps p.tables e below (T164.setTop (mkF m 92 #[.val (.ref f1), .val (.int (Int32.ofNat vv)), .val (.double d1), .second, .unset] [(.int (Int32.ofNat vv)), (.ref aD), (.double d1)])) _
          refine X164.daload hx (j := (Int32.ofNat vv)) (v := (.double (dist vv))) (by rw [e164]; exact Ar165.1) (State.isArrayOf_alike hZ.alike Ar165.2.1) Ar165.2.2 in166 at167 (g := (mkF m 92 #[.val (.ref f1), .val (.int (Int32.ofNat vv)), .val (.double d1), .second, .unset] [(.int (Int32.ofNat vv)), (.ref aD), (.double d1)])) rfl rfl (hb hby d4_92) _ ?_
          show Steps p.tables e below (T164.setTop (mkF m 93 #[.val (.ref f1), .val (.int (Int32.ofNat vv)), .val (.double d1), .second, .unset] [(.double (dist vv)), (.double d1)])) _
          refine XS.dcmpS X164.here hx rfl (hb hby d4_93) rfl (v := (cmpValue (FP.dcmp d1 (dist vv)) .g)) rfl ?_
          exact kt)
      by_cases hl : (cmpValue (FP.dcmp d1 (dist vv)) .g) < (0 : Int32)
      · skip
        obtain ⟨T169, X169, e169, st169⟩ := getF X164 hx hZ hown (host := "") (Or.inl (hw _ (List.mem_of_getElem? (i := 12) rfl))) Via.refl e164 P_F_f1_distance (g := (mkF m 110 #[.val (.ref f1), .val (.int (Int32.ofNat vv)), .val (.double d1), .second, .val (.int (1 : Int32))] [(.ref f1)])) rfl rfl (hb hby d4_110)
        obtain ⟨cl170, Ar170, Q170, S170, M170, H170, G170⟩ := id P_V_aD
        have in171 : ¬ ((Int32.ofNat vv) < 0 ∨ cl170.slots.size ≤ ((Int32.ofNat vv)).toNatClampNeg) := inb_of S170 ⟨nn32 (by omega), lt32 hv (by omega)⟩
        obtain ⟨T172, h172, X172, e172, W172, st172⟩ := stD X169 hx hZ e169 Ar170 (j := (Int32.ofNat vv)) in171 (g := (mkF m 115 #[.val (.ref f1), .val (.int (Int32.ofNat vv)), .val (.double d1), .second, .val (.int (1 : Int32))] [(.double d1), (.int (Int32.ofNat vv)), (.ref aD)])) rfl rfl (hb hby d4_115)
        have z173 : n0 ≤ h172.size := Nat.le_trans Z0 (Keep.of_wr W172).1
        have k174 : Keep h0 h172 [f1, aD, aR, aO] := (Keep.refl h0 [f1, aD, aR, aO]).wr W172 (Or.inl (List.mem_of_getElem? (i := 1) rfl))
        have V172 : Arv Z h172 aD kD .double (Int32.ofNat n) (own_LD (own_up dist vv d1) n) (.double (0 : UInt64)) := own_LD_set dist n vv d1 ▸ Arv.set Ar170 Q170 S170 M170 H170 G170 rfl W172 vv (n32 (by omega)) (by rw [own_LD_len]; exact hv)
        have N172 : Fr n0 _ := Fr.snoc X172 N101 P_G_aD
        have pre175 : ∀ t_, Steps p.tables e below (T172.setTop (mkF m 118 #[.val (.ref f1), .val (.int (Int32.ofNat vv)), .val (.double d1), .second, .val (.int (1 : Int32))] [(.int (1 : Int32))])) t_ → Steps p.tables e below (s₁.setTop (entryFrame m #[(.ref f1), (.int (Int32.ofNat vv)), (.double d1)] 5)) t_ := fun t_ kt => pre168 t_ (by
            show Steps p.tables e below (T164.setTop (mkF m 94 #[.val (.ref f1), .val (.int (Int32.ofNat vv)), .val (.double d1), .second, .unset] [(.int (cmpValue (FP.dcmp d1 (dist vv)) .g))])) _
            refine XS.ifNo X164.here hx rfl (hb hby d4_94) rfl ((if0 _ _).trans (tlt (hl : (cmpValue (FP.dcmp d1 (dist vv)) .g) < (0 : Int32))).2.1) ?_
            show Steps p.tables e below (T164.setTop (mkF m 97 #[.val (.ref f1), .val (.int (Int32.ofNat vv)), .val (.double d1), .second, .unset] [])) _
            refine XS.iconst X164.here hx rfl (hb hby d4_97) ?_
            show Steps p.tables e below (T164.setTop (mkF m 98 #[.val (.ref f1), .val (.int (Int32.ofNat vv)), .val (.double d1), .second, .unset] [(.int (1 : Int32))])) _
            refine XS.goto X164.here hx rfl (pc0 := 98) (pc' := 102) rfl (hb hby d4_98) (by decide) (by decide) ?_
            show Steps p.tables e below (T164.setTop (mkF m 102 #[.val (.ref f1), .val (.int (Int32.ofNat vv)), .val (.double d1), .second, .unset] [(.int (1 : Int32))])) _
            refine XS.istore X164.here hx rfl (hb hby d4_102) rfl (l' := #[.val (.ref f1), .val (.int (Int32.ofNat vv)), .val (.double d1), .second, .val (.int (1 : Int32))]) rfl ?_
            show Steps p.tables e below (T164.setTop (mkF m 104 #[.val (.ref f1), .val (.int (Int32.ofNat vv)), .val (.double d1), .second, .val (.int (1 : Int32))] [])) _
            refine XS.iload X164.here hx rfl (hb hby d4_104) rfl ?_
            show Steps p.tables e below (T164.setTop (mkF m 106 #[.val (.ref f1), .val (.int (Int32.ofNat vv)), .val (.double d1), .second, .val (.int (1 : Int32))] [(.int (1 : Int32))])) _
            refine XS.ifNo X164.here hx rfl (hb hby d4_106) rfl ((if0 _ _).trans (feq ((by decide) : ¬ ((1 : Int32) = (0 : Int32)))).1) ?_
            show Steps p.tables e below (T164.setTop (mkF m 109 #[.val (.ref f1), .val (.int (Int32.ofNat vv)), .val (.double d1), .second, .val (.int (1 : Int32))] [])) _
            refine XS.aloadN X164.here hx rfl (hb hby d4_109) rfl rfl ?_
            show Steps p.tables e below (T164.setTop (mkF m 110 #[.val (.ref f1), .val (.int (Int32.ofNat vv)), .val (.double d1), .second, .val (.int (1 : Int32))] [(.ref f1)])) _
            refine st169 _ ?_
            show Steps p.tables e below (T169.setTop (mkF m 113 #[.val (.ref f1), .val (.int (Int32.ofNat vv)), .val (.double d1), .second, .val (.int (1 : Int32))] [(.ref aD)])) _
            refine XS.iloadN X169.here hx rfl (hb hby d4_113) rfl ?_
            show Steps p.tables e below (T169.setTop (mkF m 114 #[.val (.ref f1), .val (.int (Int32.ofNat vv)), .val (.double d1), .second, .val (.int (1 : Int32))] [(.int (Int32.ofNat vv)), (.ref aD)])) _
            refine XS.dloadN X169.here hx rfl (hb hby d4_114) rfl ?_
            show Steps p.tables e below (T169.setTop (mkF m 115 #[.val (.ref f1), .val (.int (Int32.ofNat vv)), .val (.double d1), .second, .val (.int (1 : Int32))] [(.double d1), (.int (Int32.ofNat vv)), (.ref aD)])) _
            refine st172 _ ?_
            show Steps p.tables e below (T172.setTop (mkF m 116 #[.val (.ref f1), .val (.int (Int32.ofNat vv)), .val (.double d1), .second, .val (.int (1 : Int32))] [])) _
            refine XS.iload X172.here hx rfl (hb hby d4_116) rfl ?_
            exact kt)
        have f176 : Exa Z h172 f1 "com/example/slotwright/slotwright/exchange/Frontier" := (P_E_f1.wr W172)
        have f177 : Fld Z h172 f1 "com/example/slotwright/slotwright/exchange/Frontier" "distance" "[D" (.ref aD) := (P_F_f1_distance.other W172 (Or.inl P_ne_f1_aD))
        have f178 : Fld Z h172 f1 "com/example/slotwright/slotwright/exchange/Frontier" "settled" "[Z" (.ref aS) := (P_F_f1_settled.other W172 (Or.inl P_ne_f1_aD))
        have f179 : Fld Z h172 f1 "com/example/slotwright/slotwright/exchange/Frontier" "reached" "[I" (.ref aR) := (P_F_f1_reached.other W172 (Or.inl P_ne_f1_aD))
        have f180 : Fld Z h172 f1 "com/example/slotwright/slotwright/exchange/Frontier" "open" "[I" (.ref aO) := (P_F_f1_open.other W172 (Or.inl P_ne_f1_aD))
        have f181 : Fld Z h172 f1 "com/example/slotwright/slotwright/exchange/Frontier" "reachedCount" "I" (.int (Int32.ofNat rc)) := (P_F_f1_reachedCount.other W172 (Or.inl P_ne_f1_aD))
        have f182 : Fld Z h172 f1 "com/example/slotwright/slotwright/exchange/Frontier" "openCount" "I" (.int (Int32.ofNat oc)) := (P_F_f1_openCount.other W172 (Or.inl P_ne_f1_aD))
        have f183 : Arv Z h172 aS kS .boolean (Int32.ofNat n) (own_LZ st n) (.int (0 : Int32)) := (P_V_aS.other W172 (Ne.symm P_ne_aD_aS))
        have f184 : Arv Z h172 aR kR .int (Int32.ofNat n) (own_LN rch n) (.int (0 : Int32)) := (P_V_aR.other W172 (Ne.symm P_ne_aD_aR))
        have f185 : Arv Z h172 aO kO .int (Int32.ofNat n) (own_LN opn n) (.int (0 : Int32)) := (P_V_aO.other W172 (Ne.symm P_ne_aD_aO))
        obtain ⟨fs, hr, hrun, hended, hW, hsame⟩ := X172.leave (v := some (.int (1 : Int32))) (fun h => by rw [Bd.returns] at h; cases h)
        refine ⟨_, _, pre175 _ ?_, hrun, hended, _, _, rfl, ?_, ⟨_, rfl⟩, hW, hsame.mono (by decide) (by decide)⟩
        · show Steps p.tables e below (T172.setTop (mkF m 118 #[.val (.ref f1), .val (.int (Int32.ofNat vv)), .val (.double d1), .second, .val (.int (1 : Int32))] [(.int (1 : Int32))])) _
          exact retN X172 hx (t := .boolean) Bd.returns (by simp) (hb hby d4_118) hr
        · show QFreach Z f1 d1 aD aS aR aO kD kS kR kO n dist st rch rc opn oc vv h0 n0 _ T172.heap _
          rw [e172]
          exact ⟨(own_up dist vv d1), rch, rc, opn, oc, (1 : Int32), rfl, N172, k174, f176, f177, f178, f179, f180, f181, f182, V172, f183, f184, f185, Or.inr (Or.inr (Or.inl ⟨hs, hne, hl, rfl, rfl, rfl, rfl, rfl⟩))⟩
      · skip
        have pre186 : ∀ t_, Steps p.tables e below (T164.setTop (mkF m 118 #[.val (.ref f1), .val (.int (Int32.ofNat vv)), .val (.double d1), .second, .val (.int (0 : Int32))] [(.int (0 : Int32))])) t_ → Steps p.tables e below (s₁.setTop (entryFrame m #[(.ref f1), (.int (Int32.ofNat vv)), (.double d1)] 5)) t_ := fun t_ kt => pre168 t_ (by
            show Steps p.tables e below (T164.setTop (mkF m 94 #[.val (.ref f1), .val (.int (Int32.ofNat vv)), .val (.double d1), .second, .unset] [(.int (cmpValue (FP.dcmp d1 (dist vv)) .g))])) _
            refine XS.ifYes X164.here hx rfl (pc0 := 94) (pc' := 101) rfl (hb hby d4_94) rfl ((if0 _ _).trans (flt (hl : ¬ ((cmpValue (FP.dcmp d1 (dist vv)) .g) < (0 : Int32)))).2.1) (by decide) (by decide) ?_
            show Steps p.tables e below (T164.setTop (mkF m 101 #[.val (.ref f1), .val (.int (Int32.ofNat vv)), .val (.double d1), .second, .unset] [])) _
            refine XS.iconst X164.here hx rfl (hb hby d4_101) ?_
            show Steps p.tables e below (T164.setTop (mkF m 102 #[.val (.ref f1), .val (.int (Int32.ofNat vv)), .val (.double d1), .second, .unset] [(.int (0 : Int32))])) _
            refine XS.istore X164.here hx rfl (hb hby d4_102) rfl (l' := #[.val (.ref f1), .val (.int (Int32.ofNat vv)), .val (.double d1), .second, .val (.int (0 : Int32))]) rfl ?_
            show Steps p.tables e below (T164.setTop (mkF m 104 #[.val (.ref f1), .val (.int (Int32.ofNat vv)), .val (.double d1), .second, .val (.int (0 : Int32))] [])) _
            refine XS.iload X164.here hx rfl (hb hby d4_104) rfl ?_
            show Steps p.tables e below (T164.setTop (mkF m 106 #[.val (.ref f1), .val (.int (Int32.ofNat vv)), .val (.double d1), .second, .val (.int (0 : Int32))] [(.int (0 : Int32))])) _
            refine XS.ifYes X164.here hx rfl (pc0 := 106) (pc' := 116) rfl (hb hby d4_106) rfl ((if0 _ _).trans (teq ((by decide) : (0 : Int32) = (0 : Int32))).1) (by decide) (by decide) ?_
            show Steps p.tables e below (T164.setTop (mkF m 116 #[.val (.ref f1), .val (.int (Int32.ofNat vv)), .val (.double d1), .second, .val (.int (0 : Int32))] [])) _
            refine XS.iload X164.here hx rfl (hb hby d4_116) rfl ?_
            exact kt)
        obtain ⟨fs, hr, hrun, hended, hW, hsame⟩ := X164.leave (v := some (.int (0 : Int32))) (fun h => by rw [Bd.returns] at h; cases h)
        refine ⟨_, _, pre186 _ ?_, hrun, hended, _, _, rfl, ?_, ⟨_, rfl⟩, hW, hsame.mono (by decide) (by decide)⟩
        · show Steps p.tables e below (T164.setTop (mkF m 118 #[.val (.ref f1), .val (.int (Int32.ofNat vv)), .val (.double d1), .second, .val (.int (0 : Int32))] [(.int (0 : Int32))])) _
          exact retN X164 hx (t := .boolean) Bd.returns (by simp) (hb hby d4_118) hr
        · show QFreach Z f1 d1 aD aS aR aO kD kS kR kO n dist st rch rc opn oc vv h0 n0 _ T164.heap _
          rw [e164]
          exact ⟨dist, rch, rc, opn, oc, (0 : Int32), rfl, N101, (Keep.refl h0 [f1, aD, aR, aO]), P_E_f1, P_F_f1_distance, P_F_f1_settled, P_F_f1_reached, P_F_f1_open, P_F_f1_reachedCount, P_F_f1_openCount, P_V_aD, P_V_aS, P_V_aR, P_V_aO, Or.inr (Or.inr (Or.inr ⟨hs, hne, hl, rfl, rfl, rfl, rfl, rfl⟩))⟩
  · skip
    have pre187 : ∀ t_, Steps p.tables e below (T102.setTop (mkF m 32 #[.val (.ref f1), .val (.int (Int32.ofNat vv)), .val (.double d1), .second, .unset] [(.int (0 : Int32))])) t_ → Steps p.tables e below (s₁.setTop (entryFrame m #[(.ref f1), (.int (Int32.ofNat vv)), (.double d1)] 5)) t_ := fun t_ kt => pre106 t_ (by
        show Steps p.tables e below (T102.setTop (mkF m 28 #[.val (.ref f1), .val (.int (Int32.ofNat vv)), .val (.double d1), .second, .unset] [(.int (st vv))])) _
        refine XS.ifNo X102.here hx rfl (hb hby d4_28) rfl ((if0 _ _).trans (feq (hs : ¬ ((st vv) = (0 : Int32)))).1) ?_
        show Steps p.tables e below (T102.setTop (mkF m 31 #[.val (.ref f1), .val (.int (Int32.ofNat vv)), .val (.double d1), .second, .unset] [])) _
        refine XS.iconst X102.here hx rfl (hb hby d4_31) ?_
        exact kt)
    obtain ⟨fs, hr, hrun, hended, hW, hsame⟩ := X102.leave (v := some (.int (0 : Int32))) (fun h => by rw [Bd.returns] at h; cases h)
    refine ⟨_, _, pre187 _ ?_, hrun, hended, _, _, rfl, ?_, ⟨_, rfl⟩, hW, hsame.mono (by decide) (by decide)⟩
    · show Steps p.tables e below (T102.setTop (mkF m 32 #[.val (.ref f1), .val (.int (Int32.ofNat vv)), .val (.double d1), .second, .unset] [(.int (0 : Int32))])) _
      exact retN X102 hx (t := .boolean) Bd.returns (by simp) (hb hby d4_32) hr
    · show QFreach Z f1 d1 aD aS aR aO kD kS kR kO n dist st rch rc opn oc vv h0 n0 _ T102.heap _
      rw [e102]
      exact ⟨dist, rch, rc, opn, oc, (0 : Int32), rfl, N101, (Keep.refl h0 [f1, aD, aR, aO]), P_E_f1, P_F_f1_distance, P_F_f1_settled, P_F_f1_reached, P_F_f1_open, P_F_f1_reachedCount, P_F_f1_openCount, P_V_aD, P_V_aS, P_V_aR, P_V_aO, Or.inl ⟨hs, rfl, rfl, rfl, rfl, rfl⟩⟩
theorem d8_21 : decode prog_39_method_4_code 21 = .ok (.iload_n 2, 1) := by decide +kernel
theorem d8_22 : decode prog_39_method_4_code 22 = .ok (.aload_n 0, 1) := by decide +kernel
theorem d8_23 : decode prog_39_method_4_code 23 = .ok (.getfield 51, 3) := by decide +kernel
theorem d8_26 : decode prog_39_method_4_code 26 = .ok (.if_icmp .ge 37, 3) := by decide +kernel
theorem d8_29 : decode prog_39_method_4_code 29 = .ok (.aload_n 0, 1) := by decide +kernel
theorem d8_30 : decode prog_39_method_4_code 30 = .ok (.getfield 7, 3) := by decide +kernel
theorem d8_33 : decode prog_39_method_4_code 33 = .ok (.aload_n 0, 1) := by decide +kernel
theorem d8_34 : decode prog_39_method_4_code 34 = .ok (.getfield 31, 3) := by decide +kernel
theorem d8_37 : decode prog_39_method_4_code 37 = .ok (.iload_n 2, 1) := by decide +kernel
theorem d8_38 : decode prog_39_method_4_code 38 = .ok (.iaload, 1) := by decide +kernel
theorem d8_39 : decode prog_39_method_4_code 39 = .ok (.daload, 1) := by decide +kernel
theorem d8_40 : decode prog_39_method_4_code 40 = .ok (.aload_n 0, 1) := by decide +kernel
theorem d8_41 : decode prog_39_method_4_code 41 = .ok (.getfield 7, 3) := by decide +kernel
theorem d8_44 : decode prog_39_method_4_code 44 = .ok (.aload_n 0, 1) := by decide +kernel
theorem d8_45 : decode prog_39_method_4_code 45 = .ok (.getfield 31, 3) := by decide +kernel
theorem d8_48 : decode prog_39_method_4_code 48 = .ok (.iload_n 1, 1) := by decide +kernel
theorem d8_49 : decode prog_39_method_4_code 49 = .ok (.iaload, 1) := by decide +kernel
theorem d8_50 : decode prog_39_method_4_code 50 = .ok (.daload, 1) := by decide +kernel
theorem d8_51 : decode prog_39_method_4_code 51 = .ok (.dcmp .g, 1) := by decide +kernel
theorem d8_52 : decode prog_39_method_4_code 52 = .ok (.ifCond .ge 5, 3) := by decide +kernel
theorem d8_55 : decode prog_39_method_4_code 55 = .ok (.iload_n 2, 1) := by decide +kernel
theorem d8_56 : decode prog_39_method_4_code 56 = .ok (.istore_n 1, 1) := by decide +kernel
theorem d8_57 : decode prog_39_method_4_code 57 = .ok (.iinc 2 1, 3) := by decide +kernel
theorem d8_60 : decode prog_39_method_4_code 60 = .ok (.goto (-39), 3) := by decide +kernel
set_option maxRecDepth 65536 in
set_option maxHeartbeats 40000000 in
theorem own_set_t {p : Program} {l : Launch} {e : Env} {R : Room} {s : State} {m : MethodId} {args : Array Value} {below : List Frame} {meth : Method} {c : Code} {cells slots : Nat} {Z : State} {a0 : Array Value} {n0 : Nat} {T0 : State} {locs : List Loc} {h0 : Heap} (f1 : Addr) (aD : Addr) (aO : Addr) (kD : ClassId) (kO : ClassId) (n : Nat) (dist : Nat → UInt64) (opn : Nat → Nat) (oc : Nat) (near : Nat) (k : Nat) (X0 : Stand p l e R s m args below meth c T0 locs cells slots) (hx : p.tables.exec = Jvm.exec) (hZ : Z.Warmed39 s.vm) (hw : ∀ d ∈ tables_1, d.before a0 Z = true) (hby : c.code = prog_39_method_4_code) (hml : c.maxLocals = 3) (hown : s.vm.findClass "com/example/slotwright/slotwright/exchange/Frontier" = some m.cls) (e0 : T0.heap = h0) (N0 : Fr n0 locs) (Z0 : n0 ≤ h0.size) (hRf : 0 ≤ R.frames) (hRl : 0 ≤ R.locals) (hRc : cells + 0 ≤ R.cells) (hRs : slots + 0 ≤ R.slots) (P_F_f1_distance : Fld Z h0 f1 "com/example/slotwright/slotwright/exchange/Frontier" "distance" "[D" (.ref aD)) (P_F_f1_open : Fld Z h0 f1 "com/example/slotwright/slotwright/exchange/Frontier" "open" "[I" (.ref aO)) (P_F_f1_openCount : Fld Z h0 f1 "com/example/slotwright/slotwright/exchange/Frontier" "openCount" "I" (.int (Int32.ofNat oc))) (P_V_aD : Arv Z h0 aD kD .double (Int32.ofNat n) (own_LD dist n) (.double (0 : UInt64))) (P_V_aO : Arv Z h0 aO kO .int (Int32.ofNat n) (own_LN opn n) (.int (0 : Int32))) (hn : n ≤ 4) (hocn : oc ≤ n) (hk : k < oc) (hop : ∀ j, j < oc → opn j < n) (hnn0 : ∀ j, j < n → NoNaN64 (dist j)) (hN : own_near dist opn k near) :
    ∃ (T' : State) (locs' : List Loc) (near2 : Nat), Stand p l e R s m args below meth c T' locs' cells slots ∧ T'.heap = h0 ∧ Fr n0 locs' ∧ (own_near dist opn (k + 1) near2) ∧ ∀ t_, Steps p.tables e below (T'.setTop (mkF m 21 #[.val (.ref f1), .val (.int (Int32.ofNat near2)), .val (.int (Int32.ofNat (k + 1)))] [])) t_ → Steps p.tables e below (T0.setTop (mkF m 21 #[.val (.ref f1), .val (.int (Int32.ofNat near)), .val (.int (Int32.ofNat k))] [])) t_ := by
  have pre0 : ∀ t_, Steps p.tables e below (T0.setTop (mkF m 21 #[.val (.ref f1), .val (.int (Int32.ofNat near)), .val (.int (Int32.ofNat k))] [])) t_ → Steps p.tables e below (T0.setTop (mkF m 21 #[.val (.ref f1), .val (.int (Int32.ofNat near)), .val (.int (Int32.ofNat k))] [])) t_ := fun _ k => k
  have hkn : k < n := by omega
  have hnn : near < n := by have := hN.1; omega
  have hok : opn k < n := hop k hk
  have hon : opn near < n := hop near (by have := hN.1; omega)
  obtain ⟨T101, X101, e101, st101⟩ := getF X0 hx hZ hown (host := "") (Or.inl (hw _ (List.mem_of_getElem? (i := 43) rfl))) Via.refl e0 P_F_f1_openCount (g := (mkF m 23 #[.val (.ref f1), .val (.int (Int32.ofNat near)), .val (.int (Int32.ofNat k))] [(.ref f1), (.int (Int32.ofNat k))])) rfl rfl (hb hby d8_23)
  obtain ⟨T102, X102, e102, st102⟩ := getF X101 hx hZ hown (host := "") (Or.inl (hw _ (List.mem_of_getElem? (i := 12) rfl))) Via.refl e101 P_F_f1_distance (g := (mkF m 30 #[.val (.ref f1), .val (.int (Int32.ofNat near)), .val (.int (Int32.ofNat k))] [(.ref f1)])) rfl rfl (hb hby d8_30)
  obtain ⟨T103, X103, e103, st103⟩ := getF X102 hx hZ hown (host := "") (Or.inl (hw _ (List.mem_of_getElem? (i := 25) rfl))) Via.refl e102 P_F_f1_open (g := (mkF m 34 #[.val (.ref f1), .val (.int (Int32.ofNat near)), .val (.int (Int32.ofNat k))] [(.ref f1), (.ref aD)])) rfl rfl (hb hby d8_34)
  obtain ⟨cl104, Ar104, Q104, S104, M104, H104, G104⟩ := id P_V_aO
  have in105 : ¬ ((Int32.ofNat k) < 0 ∨ cl104.slots.size ≤ ((Int32.ofNat k)).toNatClampNeg) := inb_of S104 ⟨nn32 (by omega), lt32 hkn (by omega)⟩
  have at106 : cl104.slots[((Int32.ofNat k)).toNatClampNeg]? = some (.int (Int32.ofNat (opn k))) := by rw [n32 (by omega), H104 k (by rw [S104, n32 (by omega)]; exact hkn), own_LN_at _ hkn]
  obtain ⟨cl107, Ar107, Q107, S107, M107, H107, G107⟩ := id P_V_aD
  have in108 : ¬ ((Int32.ofNat (opn k)) < 0 ∨ cl107.slots.size ≤ ((Int32.ofNat (opn k))).toNatClampNeg) := inb_of S107 ⟨nn32 (by omega), lt32 hok (by omega)⟩
  have at109 : cl107.slots[((Int32.ofNat (opn k))).toNatClampNeg]? = some (.double (dist (opn k))) := by rw [n32 (by omega), H107 (opn k) (by rw [S107, n32 (by omega)]; exact hok), own_LD_at _ hok]
  obtain ⟨T110, X110, e110, st110⟩ := getF X103 hx hZ hown (host := "") (Or.inl (hw _ (List.mem_of_getElem? (i := 12) rfl))) Via.refl e103 P_F_f1_distance (g := (mkF m 41 #[.val (.ref f1), .val (.int (Int32.ofNat near)), .val (.int (Int32.ofNat k))] [(.ref f1), (.double (dist (opn k)))])) rfl rfl (hb hby d8_41)
  obtain ⟨T111, X111, e111, st111⟩ := getF X110 hx hZ hown (host := "") (Or.inl (hw _ (List.mem_of_getElem? (i := 25) rfl))) Via.refl e110 P_F_f1_open (g := (mkF m 45 #[.val (.ref f1), .val (.int (Int32.ofNat near)), .val (.int (Int32.ofNat k))] [(.ref f1), (.ref aD), (.double (dist (opn k)))])) rfl rfl (hb hby d8_45)
  obtain ⟨cl112, Ar112, Q112, S112, M112, H112, G112⟩ := id P_V_aO
  have in113 : ¬ ((Int32.ofNat near) < 0 ∨ cl112.slots.size ≤ ((Int32.ofNat near)).toNatClampNeg) := inb_of S112 ⟨nn32 (by omega), lt32 hnn (by omega)⟩
  have at114 : cl112.slots[((Int32.ofNat near)).toNatClampNeg]? = some (.int (Int32.ofNat (opn near))) := by rw [n32 (by omega), H112 near (by rw [S112, n32 (by omega)]; exact hnn), own_LN_at _ hnn]
  obtain ⟨cl115, Ar115, Q115, S115, M115, H115, G115⟩ := id P_V_aD
  have in116 : ¬ ((Int32.ofNat (opn near)) < 0 ∨ cl115.slots.size ≤ ((Int32.ofNat (opn near))).toNatClampNeg) := inb_of S115 ⟨nn32 (by omega), lt32 hon (by omega)⟩
  have at117 : cl115.slots[((Int32.ofNat (opn near))).toNatClampNeg]? = some (.double (dist (opn near))) := by rw [n32 (by omega), H115 (opn near) (by rw [S115, n32 (by omega)]; exact hon), own_LD_at _ hon]
  have pre118 : ∀ t_, Steps p.tables e below (T111.setTop (mkF m 52 #[.val (.ref f1), .val (.int (Int32.ofNat near)), .val (.int (Int32.ofNat k))] [(.int (cmpValue (FP.dcmp (dist (opn k)) (dist (opn near))) .g))])) t_ → Steps p.tables e below (T0.setTop (mkF m 21 #[.val (.ref f1), .val (.int (Int32.ofNat near)), .val (.int (Int32.ofNat k))] [])) t_ := fun t_ kt => pre0 t_ (by
      show Steps p.tables e below (T0.setTop (mkF m 21 #[.val (.ref f1), .val (.int (Int32.ofNat near)), .val (.int (Int32.ofNat k))] [])) _
      refine XS.iloadN X0.here hx rfl (hb hby d8_21) rfl ?_
      show Steps p.tables e below (T0.setTop (mkF m 22 #[.val (.ref f1), .val (.int (Int32.ofNat near)), .val (.int (Int32.ofNat k))] [(.int (Int32.ofNat k))])) _
      refine XS.aloadN X0.here hx rfl (hb hby d8_22) rfl rfl ?_
      show Steps p.tables e below (T0.setTop (mkF m 23 #[.val (.ref f1), .val (.int (Int32.ofNat near)), .val (.int (Int32.ofNat k))] [(.ref f1), (.int (Int32.ofNat k))])) _
      refine st101 _ ?_
      show Steps p.tables e below (T101.setTop (mkF m 26 #[.val (.ref f1), .val (.int (Int32.ofNat near)), .val (.int (Int32.ofNat k))] [(.int (Int32.ofNat oc)), (.int (Int32.ofNat k))])) _
      refine XS.icmpNo X101.here hx rfl (hb hby d8_26) rfl (tlt (lt32 hk (by omega) : (Int32.ofNat k) < (Int32.ofNat oc))).2.1 ?_
      show Steps p.tables e below (T101.setTop (mkF m 29 #[.val (.ref f1), .val (.int (Int32.ofNat near)), .val (.int (Int32.ofNat k))] [])) _
      refine XS.aloadN X101.here hx rfl (hb hby d8_29) rfl rfl ?_
      show Steps p.tables e below (T101.setTop (mkF m 30 #[.val (.ref f1), .val (.int (Int32.ofNat near)), .val (.int (Int32.ofNat k))] [(.ref f1)])) _
      refine st102 _ ?_
      show Steps p.tables e below (T102.setTop (mkF m 33 #[.val (.ref f1), .val (.int (Int32.ofNat near)), .val (.int (Int32.ofNat k))] [(.ref aD)])) _
      refine XS.aloadN X102.here hx rfl (hb hby d8_33) rfl rfl ?_
      show Steps p.tables e below (T102.setTop (mkF m 34 #[.val (.ref f1), .val (.int (Int32.ofNat near)), .val (.int (Int32.ofNat k))] [(.ref f1), (.ref aD)])) _
      refine st103 _ ?_
      show Steps p.tables e below (T103.setTop (mkF m 37 #[.val (.ref f1), .val (.int (Int32.ofNat near)), .val (.int (Int32.ofNat k))] [(.ref aO), (.ref aD)])) _
      refine XS.iloadN X103.here hx rfl (hb hby d8_37) rfl ?_
      show Steps p.tables e below (T103.setTop (mkF m 38 #[.val (.ref f1), .val (.int (Int32.ofNat near)), .val (.int (Int32.ofNat k))] [(.int (Int32.ofNat k)), (.ref aO), (.ref aD)])) _
      refine X103.iaload hx (j := (Int32.ofNat k)) (v := (.int (Int32.ofNat (opn k)))) (by rw [e103]; exact Ar104.1) (State.isArrayOf_alike hZ.alike Ar104.2.1) Ar104.2.2 in105 at106 (g := (mkF m 38 #[.val (.ref f1), .val (.int (Int32.ofNat near)), .val (.int (Int32.ofNat k))] [(.int (Int32.ofNat k)), (.ref aO), (.ref aD)])) rfl rfl (hb hby d8_38) _ ?_
      show Steps p.tables e below (T103.setTop (mkF m 39 #[.val (.ref f1), .val (.int (Int32.ofNat near)), .val (.int (Int32.ofNat k))] [(.int (Int32.ofNat (opn k))), (.ref aD)])) _
      refine X103.daload hx (j := (Int32.ofNat (opn k))) (v := (.double (dist (opn k)))) (by rw [e103]; exact Ar107.1) (State.isArrayOf_alike hZ.alike Ar107.2.1) Ar107.2.2 in108 at109 (g := (mkF m 39 #[.val (.ref f1), .val (.int (Int32.ofNat near)), .val (.int (Int32.ofNat k))] [(.int (Int32.ofNat (opn k))), (.ref aD)])) rfl rfl (hb hby d8_39) _ ?_
      show Steps p.tables e below (T103.setTop (mkF m 40 #[.val (.ref f1), .val (.int (Int32.ofNat near)), .val (.int (Int32.ofNat k))] [(.double (dist (opn k)))])) _
      refine XS.aloadN X103.here hx rfl (hb hby d8_40) rfl rfl ?_
      show Steps p.tables e below (T103.setTop (mkF m 41 #[.val (.ref f1), .val (.int (Int32.ofNat near)), .val (.int (Int32.ofNat k))] [(.ref f1), (.double (dist (opn k)))])) _
      refine st110 _ ?_
      show Steps p.tables e below (T110.setTop (mkF m 44 #[.val (.ref f1), .val (.int (Int32.ofNat near)), .val (.int (Int32.ofNat k))] [(.ref aD), (.double (dist (opn k)))])) _
      refine XS.aloadN X110.here hx rfl (hb hby d8_44) rfl rfl ?_
      show Steps p.tables e below (T110.setTop (mkF m 45 #[.val (.ref f1), .val (.int (Int32.ofNat near)), .val (.int (Int32.ofNat k))] [(.ref f1), (.ref aD), (.double (dist (opn k)))])) _
      refine st111 _ ?_
      show Steps p.tables e below (T111.setTop (mkF m 48 #[.val (.ref f1), .val (.int (Int32.ofNat near)), .val (.int (Int32.ofNat k))] [(.ref aO), (.ref aD), (.double (dist (opn k)))])) _
      refine XS.iloadN X111.here hx rfl (hb hby d8_48) rfl ?_
      show Steps p.tables e below (T111.setTop (mkF m 49 #[.val (.ref f1), .val (.int (Int32.ofNat near)), .val (.int (Int32.ofNat k))] [(.int (Int32.ofNat near)), (.ref aO), (.ref aD), (.double (dist (opn k)))])) _
      refine X111.iaload hx (j := (Int32.ofNat near)) (v := (.int (Int32.ofNat (opn near)))) (by rw [e111]; exact Ar112.1) (State.isArrayOf_alike hZ.alike Ar112.2.1) Ar112.2.2 in113 at114 (g := (mkF m 49 #[.val (.ref f1), .val (.int (Int32.ofNat near)), .val (.int (Int32.ofNat k))] [(.int (Int32.ofNat near)), (.ref aO), (.ref aD), (.double (dist (opn k)))])) rfl rfl (hb hby d8_49) _ ?_
      show Steps p.tables e below (T111.setTop (mkF m 50 #[.val (.ref f1), .val (.int (Int32.ofNat near)), .val (.int (Int32.ofNat k))] [(.int (Int32.ofNat (opn near))), (.ref aD), (.double (dist (opn k)))])) _
      refine X111.daload hx (j := (Int32.ofNat (opn near))) (v := (.double (dist (opn near)))) (by rw [e111]; exact Ar115.1) (State.isArrayOf_alike hZ.alike Ar115.2.1) Ar115.2.2 in116 at117 (g := (mkF m 50 #[.val (.ref f1), .val (.int (Int32.ofNat near)), .val (.int (Int32.ofNat k))] [(.int (Int32.ofNat (opn near))), (.ref aD), (.double (dist (opn k)))])) rfl rfl (hb hby d8_50) _ ?_
      show Steps p.tables e below (T111.setTop (mkF m 51 #[.val (.ref f1), .val (.int (Int32.ofNat near)), .val (.int (Int32.ofNat k))] [(.double (dist (opn near))), (.double (dist (opn k)))])) _
      refine XS.dcmpS X111.here hx rfl (hb hby d8_51) rfl (v := (cmpValue (FP.dcmp (dist (opn k)) (dist (opn near))) .g)) rfl ?_
      exact kt)
  by_cases hl : (cmpValue (FP.dcmp (dist (opn k)) (dist (opn near))) .g) < (0 : Int32)
  · skip
    have pre119 : ∀ t_, Steps p.tables e below (T111.setTop (mkF m 21 #[.val (.ref f1), .val (.int (Int32.ofNat k)), .val (.int (Int32.ofNat (k + 1)))] [])) t_ → Steps p.tables e below (T0.setTop (mkF m 21 #[.val (.ref f1), .val (.int (Int32.ofNat near)), .val (.int (Int32.ofNat k))] [])) t_ := fun t_ kt => pre118 t_ (by
        show Steps p.tables e below (T111.setTop (mkF m 52 #[.val (.ref f1), .val (.int (Int32.ofNat near)), .val (.int (Int32.ofNat k))] [(.int (cmpValue (FP.dcmp (dist (opn k)) (dist (opn near))) .g))])) _
        refine XS.ifNo X111.here hx rfl (hb hby d8_52) rfl ((if0 _ _).trans (tlt (hl : (cmpValue (FP.dcmp (dist (opn k)) (dist (opn near))) .g) < (0 : Int32))).2.1) ?_
        show Steps p.tables e below (T111.setTop (mkF m 55 #[.val (.ref f1), .val (.int (Int32.ofNat near)), .val (.int (Int32.ofNat k))] [])) _
        refine XS.iloadN X111.here hx rfl (hb hby d8_55) rfl ?_
        show Steps p.tables e below (T111.setTop (mkF m 56 #[.val (.ref f1), .val (.int (Int32.ofNat near)), .val (.int (Int32.ofNat k))] [(.int (Int32.ofNat k))])) _
        refine XS.istoreN X111.here hx rfl (hb hby d8_56) rfl (l' := #[.val (.ref f1), .val (.int (Int32.ofNat k)), .val (.int (Int32.ofNat k))]) rfl ?_
        show Steps p.tables e below (T111.setTop (mkF m 57 #[.val (.ref f1), .val (.int (Int32.ofNat k)), .val (.int (Int32.ofNat k))] [])) _
        refine XS.iinc X111.here hx rfl (hb hby d8_57) rfl (l' := #[.val (.ref f1), .val (.int (Int32.ofNat k)), .val (.int ((Int32.ofNat k) + (1 : Int32)))]) rfl ?_
        show Steps p.tables e below (T111.setTop (mkF m 60 #[.val (.ref f1), .val (.int (Int32.ofNat k)), .val (.int ((Int32.ofNat k) + (1 : Int32)))] [])) _
        rw [one32 k]
        show Steps p.tables e below (T111.setTop (mkF m 60 #[.val (.ref f1), .val (.int (Int32.ofNat k)), .val (.int (Int32.ofNat (k + 1)))] [])) _
        refine XS.goto X111.here hx rfl (pc0 := 60) (pc' := 21) rfl (hb hby d8_60) (by decide) (by decide) ?_
        exact kt)
    exact ⟨T111, _, k, X111, e111, N0, ⟨by omega, fun j hj => by
        have z := (own_near_zv (hnn0 _ hok) (hnn0 _ hon)).mp hl
        rw [own_near_zv (hnn0 _ (hop j (by omega))) (hnn0 _ hok)]
        by_cases q : j = k
        · rw [q]; omega
        · have u := (not_congr (own_near_zv (hnn0 _ (hop j (by omega))) (hnn0 _ hon))).mp (hN.2 j (by omega))
          omega⟩, fun t_ kt => pre119 t_ kt⟩
  · skip
    have pre120 : ∀ t_, Steps p.tables e below (T111.setTop (mkF m 21 #[.val (.ref f1), .val (.int (Int32.ofNat near)), .val (.int (Int32.ofNat (k + 1)))] [])) t_ → Steps p.tables e below (T0.setTop (mkF m 21 #[.val (.ref f1), .val (.int (Int32.ofNat near)), .val (.int (Int32.ofNat k))] [])) t_ := fun t_ kt => pre118 t_ (by
        show Steps p.tables e below (T111.setTop (mkF m 52 #[.val (.ref f1), .val (.int (Int32.ofNat near)), .val (.int (Int32.ofNat k))] [(.int (cmpValue (FP.dcmp (dist (opn k)) (dist (opn near))) .g))])) _
        refine XS.ifYes X111.here hx rfl (pc0 := 52) (pc' := 57) rfl (hb hby d8_52) rfl ((if0 _ _).trans (flt (hl : ¬ ((cmpValue (FP.dcmp (dist (opn k)) (dist (opn near))) .g) < (0 : Int32)))).2.1) (by decide) (by decide) ?_
        show Steps p.tables e below (T111.setTop (mkF m 57 #[.val (.ref f1), .val (.int (Int32.ofNat near)), .val (.int (Int32.ofNat k))] [])) _
        refine XS.iinc X111.here hx rfl (hb hby d8_57) rfl (l' := #[.val (.ref f1), .val (.int (Int32.ofNat near)), .val (.int ((Int32.ofNat k) + (1 : Int32)))]) rfl ?_
        show Steps p.tables e below (T111.setTop (mkF m 60 #[.val (.ref f1), .val (.int (Int32.ofNat near)), .val (.int ((Int32.ofNat k) + (1 : Int32)))] [])) _
        rw [one32 k]
        show Steps p.tables e below (T111.setTop (mkF m 60 #[.val (.ref f1), .val (.int (Int32.ofNat near)), .val (.int (Int32.ofNat (k + 1)))] [])) _
        refine XS.goto X111.here hx rfl (pc0 := 60) (pc' := 21) rfl (hb hby d8_60) (by decide) (by decide) ?_
        exact kt)
    exact ⟨T111, _, near, X111, e111, N0, ⟨by have := hN.1; omega, fun j hj => by
        by_cases q : j = k
        · rw [q]; exact hl
        · exact hN.2 j (by omega)⟩, fun t_ kt => pre120 t_ kt⟩
theorem own_set_l {p : Program} {l : Launch} {e : Env} {R : Room} {s : State} {m : MethodId} {args : Array Value} {below : List Frame} {meth : Method} {c : Code} {cells slots : Nat} {Z : State} {a0 : Array Value} {n0 : Nat} {h0 : Heap} (f1 : Addr) (aD : Addr) (aO : Addr) (kD : ClassId) (kO : ClassId) (n : Nat) (dist : Nat → UInt64) (opn : Nat → Nat) (oc : Nat) (hx : p.tables.exec = Jvm.exec) (hZ : Z.Warmed39 s.vm) (hw : ∀ d ∈ tables_1, d.before a0 Z = true) (hby : c.code = prog_39_method_4_code) (hml : c.maxLocals = 3) (hown : s.vm.findClass "com/example/slotwright/slotwright/exchange/Frontier" = some m.cls) (Z0 : n0 ≤ h0.size) (P_F_f1_distance : Fld Z h0 f1 "com/example/slotwright/slotwright/exchange/Frontier" "distance" "[D" (.ref aD)) (P_F_f1_open : Fld Z h0 f1 "com/example/slotwright/slotwright/exchange/Frontier" "open" "[I" (.ref aO)) (P_F_f1_openCount : Fld Z h0 f1 "com/example/slotwright/slotwright/exchange/Frontier" "openCount" "I" (.int (Int32.ofNat oc))) (P_V_aD : Arv Z h0 aD kD .double (Int32.ofNat n) (own_LD dist n) (.double (0 : UInt64))) (P_V_aO : Arv Z h0 aO kO .int (Int32.ofNat n) (own_LN opn n) (.int (0 : Int32))) (hn : n ≤ 4) (hocn : oc ≤ n) (hop : ∀ j, j < oc → opn j < n) (hnn0 : ∀ j, j < n → NoNaN64 (dist j)) : ∀ (i k near : Nat) (T0 : State) (locs : List Loc), k + i = oc → own_near dist opn k near → Stand p l e R s m args below meth c T0 locs cells slots → T0.heap = h0 → Fr n0 locs → cells + 0 ≤ R.cells → slots + 0 ≤ R.slots →
    ∃ (T' : State) (locs' : List Loc) (near2 : Nat), Stand p l e R s m args below meth c T' locs' cells slots ∧ T'.heap = h0 ∧ Fr n0 locs' ∧ (own_near dist opn oc near2) ∧ ∀ t_, Steps p.tables e below (T'.setTop (mkF m 21 #[.val (.ref f1), .val (.int (Int32.ofNat near2)), .val (.int (Int32.ofNat oc))] [])) t_ → Steps p.tables e below (T0.setTop (mkF m 21 #[.val (.ref f1), .val (.int (Int32.ofNat near)), .val (.int (Int32.ofNat k))] [])) t_ := by
  intro i
  induction i with
  | zero =>
    intro k near T0 locs hi hN X0 e0 N0 hc hs
    obtain rfl : k = oc := by omega
    exact ⟨T0, locs, near, X0, e0, N0, hN, fun _ q => q⟩
  | succ i ih =>
    intro k near T0 locs hi hN X0 e0 N0 hc hs
    obtain ⟨T1, L1, near1, X1, e1, N1, hN1, st1⟩ := own_set_t f1 aD aO kD kO n dist opn oc near k X0 hx hZ hw hby hml hown e0 N0 Z0 (Nat.zero_le _) (Nat.zero_le _) hc hs P_F_f1_distance P_F_f1_open P_F_f1_openCount P_V_aD P_V_aO hn hocn (by omega) hop hnn0 hN
    obtain ⟨T2, L2, near2, X2, e2, N2, hN2, st2⟩ := ih (k + 1) near1 T1 L1 (by omega) hN1 X1 e1 N1 hc hs
    exact ⟨T2, L2, near2, X2, e2, N2, hN2, fun q kq => st1 q (st2 q kq)⟩
theorem own_set_p {p : Program} {l : Launch} {e : Env} {R : Room} {s : State} {m : MethodId} {args : Array Value} {below : List Frame} {meth : Method} {c : Code} {cells slots : Nat} {Z : State} {a0 : Array Value} {n0 : Nat} {T0 : State} {locs : List Loc} {h0 : Heap} (f1 : Addr) (aD : Addr) (aO : Addr) (kD : ClassId) (kO : ClassId) (n : Nat) (dist : Nat → UInt64) (opn : Nat → Nat) (oc : Nat) (X0 : Stand p l e R s m args below meth c T0 locs cells slots) (hx : p.tables.exec = Jvm.exec) (hZ : Z.Warmed39 s.vm) (hw : ∀ d ∈ tables_1, d.before a0 Z = true) (hby : c.code = prog_39_method_4_code) (hml : c.maxLocals = 3) (hown : s.vm.findClass "com/example/slotwright/slotwright/exchange/Frontier" = some m.cls) (e0 : T0.heap = h0) (N0 : Fr n0 locs) (Z0 : n0 ≤ h0.size) (hRf : 0 ≤ R.frames) (hRl : 0 ≤ R.locals) (hRc : cells + 0 ≤ R.cells) (hRs : slots + 0 ≤ R.slots) (P_F_f1_distance : Fld Z h0 f1 "com/example/slotwright/slotwright/exchange/Frontier" "distance" "[D" (.ref aD)) (P_F_f1_open : Fld Z h0 f1 "com/example/slotwright/slotwright/exchange/Frontier" "open" "[I" (.ref aO)) (P_F_f1_openCount : Fld Z h0 f1 "com/example/slotwright/slotwright/exchange/Frontier" "openCount" "I" (.int (Int32.ofNat oc))) (P_V_aD : Arv Z h0 aD kD .double (Int32.ofNat n) (own_LD dist n) (.double (0 : UInt64))) (P_V_aO : Arv Z h0 aO kO .int (Int32.ofNat n) (own_LN opn n) (.int (0 : Int32))) (hn : n ≤ 4) (hocn : oc ≤ n) (hop : ∀ j, j < oc → opn j < n) (hnn0 : ∀ j, j < n → NoNaN64 (dist j)) (h1_ : 1 ≤ oc) :
    ∃ (T' : State) (locs' : List Loc) (near2 : Nat), Stand p l e R s m args below meth c T' locs' cells slots ∧ T'.heap = h0 ∧ Fr n0 locs' ∧ (own_near dist opn oc near2) ∧ ∀ t_, Steps p.tables e below (T'.setTop (mkF m 21 #[.val (.ref f1), .val (.int (Int32.ofNat near2)), .val (.int (Int32.ofNat oc))] [])) t_ → Steps p.tables e below (T0.setTop (mkF m 21 #[.val (.ref f1), .val (.int (Int32.ofNat 0)), .val (.int (Int32.ofNat 1))] [])) t_ :=
  own_set_l f1 aD aO kD kO n dist opn oc hx hZ hw hby hml hown Z0 P_F_f1_distance P_F_f1_open P_F_f1_openCount P_V_aD P_V_aO hn hocn hop hnn0 (oc - 1) 1 0 T0 locs (by omega) ⟨by omega, fun j hj => by
    obtain rfl : j = 0 := by omega
    rw [own_near_zv (hnn0 _ (hop 0 (by omega))) (hnn0 _ (hop 0 (by omega)))]; omega⟩ X0 e0 N0 hRc hRs
theorem ef_Fsettle (m : MethodId) (f1 : Addr) : entryFrame m #[(.ref f1)] 3 = mkF m 0 #[.val (.ref f1), .unset, .unset] [] := by first | (simp [entryFrame, mkF, argsToLocals, Value.category]; done) | rfl
theorem d8_0 : decode prog_39_method_4_code 0 = .ok (.aload_n 0, 1) := by decide +kernel
theorem d8_1 : decode prog_39_method_4_code 1 = .ok (.getfield 51, 3) := by decide +kernel
theorem d8_4 : decode prog_39_method_4_code 4 = .ok (.ifCond .ne 13, 3) := by decide +kernel
theorem d8_17 : decode prog_39_method_4_code 17 = .ok (.iconst 0, 1) := by decide +kernel
theorem d8_18 : decode prog_39_method_4_code 18 = .ok (.istore_n 1, 1) := by decide +kernel
theorem d8_19 : decode prog_39_method_4_code 19 = .ok (.iconst 1, 1) := by decide +kernel
theorem d8_20 : decode prog_39_method_4_code 20 = .ok (.istore_n 2, 1) := by decide +kernel
theorem d8_63 : decode prog_39_method_4_code 63 = .ok (.aload_n 0, 1) := by decide +kernel
theorem d8_64 : decode prog_39_method_4_code 64 = .ok (.getfield 31, 3) := by decide +kernel
theorem d8_67 : decode prog_39_method_4_code 67 = .ok (.iload_n 1, 1) := by decide +kernel
theorem d8_68 : decode prog_39_method_4_code 68 = .ok (.iaload, 1) := by decide +kernel
theorem d8_69 : decode prog_39_method_4_code 69 = .ok (.istore_n 2, 1) := by decide +kernel
theorem d8_70 : decode prog_39_method_4_code 70 = .ok (.aload_n 0, 1) := by decide +kernel
theorem d8_71 : decode prog_39_method_4_code 71 = .ok (.dup, 1) := by decide +kernel
theorem d8_72 : decode prog_39_method_4_code 72 = .ok (.getfield 51, 3) := by decide +kernel
theorem d8_75 : decode prog_39_method_4_code 75 = .ok (.iconst 1, 1) := by decide +kernel
theorem d8_76 : decode prog_39_method_4_code 76 = .ok (.isub, 1) := by decide +kernel
theorem d8_77 : decode prog_39_method_4_code 77 = .ok (.putfield 51, 3) := by decide +kernel
theorem d8_80 : decode prog_39_method_4_code 80 = .ok (.aload_n 0, 1) := by decide +kernel
theorem d8_81 : decode prog_39_method_4_code 81 = .ok (.getfield 31, 3) := by decide +kernel
theorem d8_84 : decode prog_39_method_4_code 84 = .ok (.iload_n 1, 1) := by decide +kernel
theorem d8_85 : decode prog_39_method_4_code 85 = .ok (.aload_n 0, 1) := by decide +kernel
theorem d8_86 : decode prog_39_method_4_code 86 = .ok (.getfield 31, 3) := by decide +kernel
theorem d8_89 : decode prog_39_method_4_code 89 = .ok (.aload_n 0, 1) := by decide +kernel
theorem d8_90 : decode prog_39_method_4_code 90 = .ok (.getfield 51, 3) := by decide +kernel
theorem d8_93 : decode prog_39_method_4_code 93 = .ok (.iaload, 1) := by decide +kernel
theorem d8_94 : decode prog_39_method_4_code 94 = .ok (.iastore, 1) := by decide +kernel
theorem d8_95 : decode prog_39_method_4_code 95 = .ok (.aload_n 0, 1) := by decide +kernel
theorem d8_96 : decode prog_39_method_4_code 96 = .ok (.getfield 23, 3) := by decide +kernel
theorem d8_99 : decode prog_39_method_4_code 99 = .ok (.iload_n 2, 1) := by decide +kernel
theorem d8_100 : decode prog_39_method_4_code 100 = .ok (.iconst 1, 1) := by decide +kernel
theorem d8_101 : decode prog_39_method_4_code 101 = .ok (.bastore, 1) := by decide +kernel
theorem d8_102 : decode prog_39_method_4_code 102 = .ok (.iload_n 2, 1) := by decide +kernel
theorem d8_103 : decode prog_39_method_4_code 103 = .ok (.ireturn, 1) := by decide +kernel
def QFsettle (Z : State) (f1 : Addr) (aD : Addr) (aS : Addr) (aR : Addr) (aO : Addr) (kD : ClassId) (kS : ClassId) (kR : ClassId) (kO : ClassId) (n : Nat) (dist : Nat → UInt64) (st : Nat → Int32) (rch : Nat → Nat) (rc : Nat) (opn : Nat → Nat) (oc : Nat) (h0 : Heap) (n0 : Nat) (v : Option Value) (h : Heap) (L : List Loc) : Prop := ∃ (near : Nat), v = some (.int (Int32.ofNat (opn near))) ∧ Fr n0 L ∧ Keep h0 h [f1, aO, aS] ∧ (Exa Z h f1 "com/example/slotwright/slotwright/exchange/Frontier") ∧ (Fld Z h f1 "com/example/slotwright/slotwright/exchange/Frontier" "distance" "[D" (.ref aD)) ∧ (Fld Z h f1 "com/example/slotwright/slotwright/exchange/Frontier" "settled" "[Z" (.ref aS)) ∧ (Fld Z h f1 "com/example/slotwright/slotwright/exchange/Frontier" "reached" "[I" (.ref aR)) ∧ (Fld Z h f1 "com/example/slotwright/slotwright/exchange/Frontier" "open" "[I" (.ref aO)) ∧ (Fld Z h f1 "com/example/slotwright/slotwright/exchange/Frontier" "reachedCount" "I" (.int (Int32.ofNat rc))) ∧ (Fld Z h f1 "com/example/slotwright/slotwright/exchange/Frontier" "openCount" "I" (.int (Int32.ofNat (oc - 1)))) ∧ (Arv Z h aD kD .double (Int32.ofNat n) (own_LD dist n) (.double (0 : UInt64))) ∧ (Arv Z h aS kS .boolean (Int32.ofNat n) (own_LZ (own_up st (opn near) 1) n) (.int (0 : Int32))) ∧ (Arv Z h aR kR .int (Int32.ofNat n) (own_LN rch n) (.int (0 : Int32))) ∧ (Arv Z h aO kO .int (Int32.ofNat n) (own_LN (own_up opn near (opn (oc - 1))) n) (.int (0 : Int32))) ∧ (own_near dist opn oc near)
set_option maxRecDepth 65536 in
set_option maxHeartbeats 40000000 in
theorem rmFsettle (l : Launch) (Z : State) (a0 : Array Value) (hw : ∀ d ∈ tables_1, d.before a0 Z = true) (ws : List Jvm.Cond) (f1 : Addr) (aD : Addr) (aS : Addr) (aR : Addr) (aO : Addr) (kD : ClassId) (kS : ClassId) (kR : ClassId) (kO : ClassId) (n : Nat) (dist : Nat → UInt64) (st : Nat → Int32) (rch : Nat → Nat) (rc : Nat) (opn : Nat → Nat) (oc : Nat) (h0 : Heap) (n0 : Nat) (Z0 : n0 ≤ h0.size) (P_E_f1 : Exa Z h0 f1 "com/example/slotwright/slotwright/exchange/Frontier") (P_F_f1_distance : Fld Z h0 f1 "com/example/slotwright/slotwright/exchange/Frontier" "distance" "[D" (.ref aD)) (P_F_f1_settled : Fld Z h0 f1 "com/example/slotwright/slotwright/exchange/Frontier" "settled" "[Z" (.ref aS)) (P_F_f1_reached : Fld Z h0 f1 "com/example/slotwright/slotwright/exchange/Frontier" "reached" "[I" (.ref aR)) (P_F_f1_open : Fld Z h0 f1 "com/example/slotwright/slotwright/exchange/Frontier" "open" "[I" (.ref aO)) (P_F_f1_reachedCount : Fld Z h0 f1 "com/example/slotwright/slotwright/exchange/Frontier" "reachedCount" "I" (.int (Int32.ofNat rc))) (P_F_f1_openCount : Fld Z h0 f1 "com/example/slotwright/slotwright/exchange/Frontier" "openCount" "I" (.int (Int32.ofNat oc))) (P_V_aD : Arv Z h0 aD kD .double (Int32.ofNat n) (own_LD dist n) (.double (0 : UInt64))) (P_V_aS : Arv Z h0 aS kS .boolean (Int32.ofNat n) (own_LZ st n) (.int (0 : Int32))) (P_V_aR : Arv Z h0 aR kR .int (Int32.ofNat n) (own_LN rch n) (.int (0 : Int32))) (P_V_aO : Arv Z h0 aO kO .int (Int32.ofNat n) (own_LN opn n) (.int (0 : Int32))) (P_ne_f1_aD : f1 ≠ aD) (P_ne_f1_aS : f1 ≠ aS) (P_ne_f1_aR : f1 ≠ aR) (P_ne_f1_aO : f1 ≠ aO) (P_ne_aD_aS : aD ≠ aS) (P_ne_aD_aR : aD ≠ aR) (P_ne_aD_aO : aD ≠ aO) (P_ne_aS_aR : aS ≠ aR) (P_ne_aS_aO : aS ≠ aO) (P_ne_aR_aO : aR ≠ aO) (P_G_f1 : n0 ≤ f1) (P_G_aD : n0 ≤ aD) (P_G_aS : n0 ≤ aS) (P_G_aR : n0 ≤ aR) (P_G_aO : n0 ≤ aO) (hn : n ≤ 4) (hocn : oc ≤ n) (h1 : 1 ≤ oc) (hop : ∀ j, j < oc → opn j < n) (hnn0 : ∀ j, j < n → NoNaN64 (dist j)) :
    MetFree l (⟨"com/example/slotwright/slotwright/exchange/Frontier", "settleNearest", "()I"⟩ : MethodName) (head1 (Jvm.Cond.code (⟨"com/example/slotwright/slotwright/exchange/Frontier", "settleNearest", "()I"⟩ : MethodName) prog_39_method_4_code 3 (some .int) :: ws) ({ frames := 0, cells := 0, slots := 0, locals := 0 } : Room)) (fun a U => a = #[(.ref f1)] ∧ Z.Warmed39 U.vm ∧ U.heap = h0) (fun _ _ _ _ _ => True) (fun _ U o U' => ∃ v L, o = .returned v ∧ QFsettle Z f1 aD aS aR aO kD kS kR kO n dist st rch rc opn oc h0 n0 v U'.heap L ∧ FrameEnd U o U' L ({ frames := 0, cells := 0, slots := 0, locals := 0 } : Room).cells ({ frames := 0, cells := 0, slots := 0, locals := 0 } : Room).slots) := by
  refine MetFree.of_bodySF (plainFor_of_name pn_com_example_slotwright_slotwright_exchange_Frontier) hisR ?_
  intro p e s m args below meth c s₁ Bd hml0 hP hK
  obtain ⟨rfl, hZ, hh⟩ := hP
  have hx := Bd.exec
  have hby := Bd.bytes
  have hml : c.maxLocals = 3 := hml0
  have hown : s.vm.findClass "com/example/slotwright/slotwright/exchange/Frontier" = some m.cls := findClass_of_methodNamed Bd.named
  have hnm := (name_of_methodNamed Bd.named Bd.method).1
  have X0 : Stand p l e ({ frames := 0, cells := 0, slots := 0, locals := 0 } : Room) s m #[(.ref f1)] below meth c s₁ [] 0 0 := Stand.of_body Bd
  have e0 : s₁.heap = h0 := by rw [← hh, Bd.state]; rfl
  have N0 := Fr.nil n0
  have pre0 : ∀ t_, Steps p.tables e below (s₁.setTop (mkF m 0 #[.val (.ref f1), .unset, .unset] [])) t_ → Steps p.tables e below (s₁.setTop (entryFrame m #[(.ref f1)] 3)) t_ := fun t_ k => castTop (ef_Fsettle m f1) k
  obtain ⟨T101, X101, e101, st101⟩ := getF X0 hx hZ hown (host := "") (Or.inl (hw _ (List.mem_of_getElem? (i := 43) rfl))) Via.refl e0 P_F_f1_openCount (g := (mkF m 1 #[.val (.ref f1), .unset, .unset] [(.ref f1)])) rfl rfl (hb hby d8_1)
  obtain ⟨T102, L102, near2_102, X102, e102, N102, x102_0, st102⟩ := own_set_p (f1) (aD) (aO) (kD) (kO) (n) (dist) (opn) (oc) X101 hx hZ hw hby hml hown e101 N0 Z0 (by decide) (by decide) (by decide) (by decide) P_F_f1_distance P_F_f1_open P_F_f1_openCount P_V_aD P_V_aO (hn) (hocn) (hop) (hnn0) (h1)
  have hnr : near2_102 < n := by have := x102_0.1; omega
  have hon : opn near2_102 < n := hop near2_102 x102_0.1
  have hlast : oc - 1 < n := by omega
  have hdec : Int32.ofNat oc - (1 : Int32) = Int32.ofNat (oc - 1) := by
    have : oc = (oc - 1) + 1 := by omega
    rw [this, ← one32]; simp
  obtain ⟨T103, X103, e103, st103⟩ := getF X102 hx hZ hown (host := "") (Or.inl (hw _ (List.mem_of_getElem? (i := 43) rfl))) Via.refl e102 P_F_f1_openCount (g := (mkF m 23 #[.val (.ref f1), .val (.int (Int32.ofNat near2_102)), .val (.int (Int32.ofNat oc))] [(.ref f1), (.int (Int32.ofNat oc))])) rfl rfl (hb hby d8_23)
  obtain ⟨T104, X104, e104, st104⟩ := getF X103 hx hZ hown (host := "") (Or.inl (hw _ (List.mem_of_getElem? (i := 25) rfl))) Via.refl e103 P_F_f1_open (g := (mkF m 64 #[.val (.ref f1), .val (.int (Int32.ofNat near2_102)), .val (.int (Int32.ofNat oc))] [(.ref f1)])) rfl rfl (hb hby d8_64)
  obtain ⟨cl105, Ar105, Q105, S105, M105, H105, G105⟩ := id P_V_aO
  have in106 : ¬ ((Int32.ofNat near2_102) < 0 ∨ cl105.slots.size ≤ ((Int32.ofNat near2_102)).toNatClampNeg) := inb_of S105 ⟨nn32 (by omega), lt32 hnr (by omega)⟩
  have at107 : cl105.slots[((Int32.ofNat near2_102)).toNatClampNeg]? = some (.int (Int32.ofNat (opn near2_102))) := by rw [n32 (by omega), H105 near2_102 (by rw [S105, n32 (by omega)]; exact hnr), own_LN_at _ hnr]
  obtain ⟨T108, X108, e108, st108⟩ := getF X104 hx hZ hown (host := "") (Or.inl (hw _ (List.mem_of_getElem? (i := 43) rfl))) Via.refl e104 P_F_f1_openCount (g := (mkF m 72 #[.val (.ref f1), .val (.int (Int32.ofNat near2_102)), .val (.int (Int32.ofNat (opn near2_102)))] [(.ref f1), (.ref f1)])) rfl rfl (hb hby d8_72)
  obtain ⟨T109, h109, X109, e109, W109, st109⟩ := putF X108 hx hZ hown (host := "") (Or.inl (hw _ (List.mem_of_getElem? (i := 43) rfl))) Via.refl e108 P_F_f1_openCount P_E_f1 (Or.inl (hw _ (List.mem_of_getElem? (i := 44) rfl))) (hw _ (List.mem_of_getElem? (i := 3) rfl)) (ty := .int) (by decide) rfl rfl (g := (mkF m 77 #[.val (.ref f1), .val (.int (Int32.ofNat near2_102)), .val (.int (Int32.ofNat (opn near2_102)))] [(.int (Int32.ofNat (oc - 1))), (.ref f1)])) rfl rfl (hb hby d8_77)
  have F109 : Fld Z h109 f1 "com/example/slotwright/slotwright/exchange/Frontier" "openCount" "I" (.int (Int32.ofNat (oc - 1))) := P_F_f1_openCount.same W109
  have z110 : n0 ≤ h109.size := Nat.le_trans Z0 (Keep.of_wr W109).1
  have k111 : Keep h0 h109 [f1, aO, aS] := (Keep.refl h0 [f1, aO, aS]).wr W109 (Or.inl (List.mem_of_getElem? (i := 0) rfl))
  have N109 : Fr n0 _ := Fr.snoc X109 N102 P_G_f1
  have f112 : Fld Z h109 f1 "com/example/slotwright/slotwright/exchange/Frontier" "open" "[I" (.ref aO) := (P_F_f1_open.other W109 (Or.inr (slot_ne (Or.inr (hw _ (List.mem_of_getElem? (i := 26) rfl))) (Or.inl (hw _ (List.mem_of_getElem? (i := 44) rfl))) (by decide) (t := (.array .int)) (t' := .int) (by decide) (by decide))))
  obtain ⟨T113, X113, e113, st113⟩ := getF X109 hx hZ hown (host := "") (Or.inl (hw _ (List.mem_of_getElem? (i := 25) rfl))) Via.refl e109 f112 (g := (mkF m 81 #[.val (.ref f1), .val (.int (Int32.ofNat near2_102)), .val (.int (Int32.ofNat (opn near2_102)))] [(.ref f1)])) rfl rfl (hb hby d8_81)
  obtain ⟨T114, X114, e114, st114⟩ := getF X113 hx hZ hown (host := "") (Or.inl (hw _ (List.mem_of_getElem? (i := 25) rfl))) Via.refl e113 f112 (g := (mkF m 86 #[.val (.ref f1), .val (.int (Int32.ofNat near2_102)), .val (.int (Int32.ofNat (opn near2_102)))] [(.ref f1), (.int (Int32.ofNat near2_102)), (.ref aO)])) rfl rfl (hb hby d8_86)
  obtain ⟨T115, X115, e115, st115⟩ := getF X114 hx hZ hown (host := "") (Or.inl (hw _ (List.mem_of_getElem? (i := 43) rfl))) Via.refl e114 F109 (g := (mkF m 90 #[.val (.ref f1), .val (.int (Int32.ofNat near2_102)), .val (.int (Int32.ofNat (opn near2_102)))] [(.ref f1), (.ref aO), (.int (Int32.ofNat near2_102)), (.ref aO)])) rfl rfl (hb hby d8_90)
  have f116 : Arv Z h109 aO kO .int (Int32.ofNat n) (own_LN opn n) (.int (0 : Int32)) := (P_V_aO.other W109 (Ne.symm P_ne_f1_aO))
  obtain ⟨cl117, Ar117, Q117, S117, M117, H117, G117⟩ := id f116
  have in118 : ¬ ((Int32.ofNat (oc - 1)) < 0 ∨ cl117.slots.size ≤ ((Int32.ofNat (oc - 1))).toNatClampNeg) := inb_of S117 ⟨nn32 (by omega), lt32 hlast (by omega)⟩
  have at119 : cl117.slots[((Int32.ofNat (oc - 1))).toNatClampNeg]? = some (.int (Int32.ofNat (opn (oc - 1)))) := by rw [n32 (by omega), H117 (oc - 1) (by rw [S117, n32 (by omega)]; exact hlast), own_LN_at _ hlast]
  obtain ⟨cl120, Ar120, Q120, S120, M120, H120, G120⟩ := id f116
  have in121 : ¬ ((Int32.ofNat near2_102) < 0 ∨ cl120.slots.size ≤ ((Int32.ofNat near2_102)).toNatClampNeg) := inb_of S120 ⟨nn32 (by omega), lt32 hnr (by omega)⟩
  obtain ⟨T122, h122, X122, e122, W122, st122⟩ := stI X115 hx hZ e115 Ar120 (j := (Int32.ofNat near2_102)) in121 (g := (mkF m 94 #[.val (.ref f1), .val (.int (Int32.ofNat near2_102)), .val (.int (Int32.ofNat (opn near2_102)))] [(.int (Int32.ofNat (opn (oc - 1)))), (.int (Int32.ofNat near2_102)), (.ref aO)])) rfl rfl (hb hby d8_94)
  have z123 : n0 ≤ h122.size := Nat.le_trans z110 (Keep.of_wr W122).1
  have k124 : Keep h0 h122 [f1, aO, aS] := k111.wr W122 (Or.inl (List.mem_of_getElem? (i := 1) rfl))
  have V122 : Arv Z h122 aO kO .int (Int32.ofNat n) (own_LN (own_up opn near2_102 (opn (oc - 1))) n) (.int (0 : Int32)) := own_LN_set opn n near2_102 (opn (oc - 1)) ▸ Arv.set Ar120 Q120 S120 M120 H120 G120 rfl W122 near2_102 (n32 (by omega)) (by rw [own_LN_len]; exact hnr)
  have N122 : Fr n0 _ := Fr.snoc X122 N109 P_G_aO
  have f125 : Fld Z h122 f1 "com/example/slotwright/slotwright/exchange/Frontier" "settled" "[Z" (.ref aS) := ((P_F_f1_settled.other W109 (Or.inr (slot_ne (Or.inr (hw _ (List.mem_of_getElem? (i := 21) rfl))) (Or.inl (hw _ (List.mem_of_getElem? (i := 44) rfl))) (by decide) (t := (.array .boolean)) (t' := .int) (by decide) (by decide)))).other W122 (Or.inl P_ne_f1_aO))
  obtain ⟨T126, X126, e126, st126⟩ := getF X122 hx hZ hown (host := "") (Or.inl (hw _ (List.mem_of_getElem? (i := 20) rfl))) Via.refl e122 f125 (g := (mkF m 96 #[.val (.ref f1), .val (.int (Int32.ofNat near2_102)), .val (.int (Int32.ofNat (opn near2_102)))] [(.ref f1)])) rfl rfl (hb hby d8_96)
  have f127 : Arv Z h122 aS kS .boolean (Int32.ofNat n) (own_LZ st n) (.int (0 : Int32)) := ((P_V_aS.other W109 (Ne.symm P_ne_f1_aS)).other W122 P_ne_aS_aO)
  obtain ⟨cl128, Ar128, Q128, S128, M128, H128, G128⟩ := id f127
  have in129 : ¬ ((Int32.ofNat (opn near2_102)) < 0 ∨ cl128.slots.size ≤ ((Int32.ofNat (opn near2_102))).toNatClampNeg) := inb_of S128 ⟨nn32 (by omega), lt32 hon (by omega)⟩
  obtain ⟨T130, h130, X130, e130, W130, st130⟩ := stZ X126 hx hZ e126 Ar128 (j := (Int32.ofNat (opn near2_102))) in129 (g := (mkF m 101 #[.val (.ref f1), .val (.int (Int32.ofNat near2_102)), .val (.int (Int32.ofNat (opn near2_102)))] [(.int (1 : Int32)), (.int (Int32.ofNat (opn near2_102))), (.ref aS)])) rfl rfl (hb hby d8_101)
  have z131 : n0 ≤ h130.size := Nat.le_trans z123 (Keep.of_wr W130).1
  have k132 : Keep h0 h130 [f1, aO, aS] := k124.wr W130 (Or.inl (List.mem_of_getElem? (i := 2) rfl))
  have V130 : Arv Z h130 aS kS .boolean (Int32.ofNat n) (own_LZ (own_up st (opn near2_102) 1) n) (.int (0 : Int32)) := own_LZ_set st n (opn near2_102) 1 ▸ Arv.set Ar128 Q128 S128 M128 H128 G128 (fits_nar_bool _) W130 (opn near2_102) (n32 (by omega)) (by rw [own_LZ_len]; exact hon)
  have N130 : Fr n0 _ := Fr.snoc X130 N122 P_G_aS
  have pre133 : ∀ t_, Steps p.tables e below (T130.setTop (mkF m 103 #[.val (.ref f1), .val (.int (Int32.ofNat near2_102)), .val (.int (Int32.ofNat (opn near2_102)))] [(.int (Int32.ofNat (opn near2_102)))])) t_ → Steps p.tables e below (s₁.setTop (entryFrame m #[(.ref f1)] 3)) t_ := fun t_ kt => pre0 t_ (by
      show Steps p.tables e below (s₁.setTop (mkF m 0 #[.val (.ref f1), .unset, .unset] [])) _
      refine XS.aloadN X0.here hx rfl (hb hby d8_0) rfl rfl ?_
      show Steps p.tables e below (s₁.setTop (mkF m 1 #[.val (.ref f1), .unset, .unset] [(.ref f1)])) _
      refine st101 _ ?_
      show Steps p.tables e below (T101.setTop (mkF m 4 #[.val (.ref f1), .unset, .unset] [(.int (Int32.ofNat oc))])) _
      refine XS.ifYes X101.here hx rfl (pc0 := 4) (pc' := 17) rfl (hb hby d8_4) rfl ((if0 _ _).trans (feq (fun q => absurd ((eq32_iff (by omega) (by omega)).mp q : oc = 0) (by omega) : ¬ ((Int32.ofNat oc) = (0 : Int32)))).2) (by decide) (by decide) ?_
      show Steps p.tables e below (T101.setTop (mkF m 17 #[.val (.ref f1), .unset, .unset] [])) _
      refine XS.iconst X101.here hx rfl (hb hby d8_17) ?_
      show Steps p.tables e below (T101.setTop (mkF m 18 #[.val (.ref f1), .unset, .unset] [(.int (0 : Int32))])) _
      refine XS.istoreN X101.here hx rfl (hb hby d8_18) rfl (l' := #[.val (.ref f1), .val (.int (0 : Int32)), .unset]) rfl ?_
      show Steps p.tables e below (T101.setTop (mkF m 19 #[.val (.ref f1), .val (.int (0 : Int32)), .unset] [])) _
      refine XS.iconst X101.here hx rfl (hb hby d8_19) ?_
      show Steps p.tables e below (T101.setTop (mkF m 20 #[.val (.ref f1), .val (.int (0 : Int32)), .unset] [(.int (1 : Int32))])) _
      refine XS.istoreN X101.here hx rfl (hb hby d8_20) rfl (l' := #[.val (.ref f1), .val (.int (0 : Int32)), .val (.int (1 : Int32))]) rfl ?_
      show Steps p.tables e below (T101.setTop (mkF m 21 #[.val (.ref f1), .val (.int (0 : Int32)), .val (.int (1 : Int32))] [])) _
      refine st102 _ ?_
      show Steps p.tables e below (T102.setTop (mkF m 21 #[.val (.ref f1), .val (.int (Int32.ofNat near2_102)), .val (.int (Int32.ofNat oc))] [])) _
      refine XS.iloadN X102.here hx rfl (hb hby d8_21) rfl ?_
      show Steps p.tables e below (T102.setTop (mkF m 22 #[.val (.ref f1), .val (.int (Int32.ofNat near2_102)), .val (.int (Int32.ofNat oc))] [(.int (Int32.ofNat oc))])) _
      refine XS.aloadN X102.here hx rfl (hb hby d8_22) rfl rfl ?_
      show Steps p.tables e below (T102.setTop (mkF m 23 #[.val (.ref f1), .val (.int (Int32.ofNat near2_102)), .val (.int (Int32.ofNat oc))] [(.ref f1), (.int (Int32.ofNat oc))])) _
      refine st103 _ ?_
      show Steps p.tables e below (T103.setTop (mkF m 26 #[.val (.ref f1), .val (.int (Int32.ofNat near2_102)), .val (.int (Int32.ofNat oc))] [(.int (Int32.ofNat oc)), (.int (Int32.ofNat oc))])) _
      refine XS.icmpYes X103.here hx rfl (pc0 := 26) (pc' := 63) rfl (hb hby d8_26) rfl (flt (nlt32 (Nat.le_refl _) (by omega) : ¬ ((Int32.ofNat oc) < (Int32.ofNat oc)))).2.1 (by decide) (by decide) ?_
      show Steps p.tables e below (T103.setTop (mkF m 63 #[.val (.ref f1), .val (.int (Int32.ofNat near2_102)), .val (.int (Int32.ofNat oc))] [])) _
      refine XS.aloadN X103.here hx rfl (hb hby d8_63) rfl rfl ?_
      show Steps p.tables e below (T103.setTop (mkF m 64 #[.val (.ref f1), .val (.int (Int32.ofNat near2_102)), .val (.int (Int32.ofNat oc))] [(.ref f1)])) _
      refine st104 _ ?_
      show Steps p.tables e below (T104.setTop (mkF m 67 #[.val (.ref f1), .val (.int (Int32.ofNat near2_102)), .val (.int (Int32.ofNat oc))] [(.ref aO)])) _
      refine XS.iloadN X104.here hx rfl (hb hby d8_67) rfl ?_
      show Steps p.tables e below (T104.setTop (mkF m 68 #[.val (.ref f1), .val (.int (Int32.ofNat near2_102)), .val (.int (Int32.ofNat oc))] [(.int (Int32.ofNat near2_102)), (.ref aO)])) _
      refine X104.iaload hx (j := (Int32.ofNat near2_102)) (v := (.int (Int32.ofNat (opn near2_102)))) (by rw [e104]; exact Ar105.1) (State.isArrayOf_alike hZ.alike Ar105.2.1) Ar105.2.2 in106 at107 (g := (mkF m 68 #[.val (.ref f1), .val (.int (Int32.ofNat near2_102)), .val (.int (Int32.ofNat oc))] [(.int (Int32.ofNat near2_102)), (.ref aO)])) rfl rfl (hb hby d8_68) _ ?_
      show Steps p.tables e below (T104.setTop (mkF m 69 #[.val (.ref f1), .val (.int (Int32.ofNat near2_102)), .val (.int (Int32.ofNat oc))] [(.int (Int32.ofNat (opn near2_102)))])) _
      refine XS.istoreN X104.here hx rfl (hb hby d8_69) rfl (l' := #[.val (.ref f1), .val (.int (Int32.ofNat near2_102)), .val (.int (Int32.ofNat (opn near2_102)))]) rfl ?_
      show Steps p.tables e below (T104.setTop (mkF m 70 #[.val (.ref f1), .val (.int (Int32.ofNat near2_102)), .val (.int (Int32.ofNat (opn near2_102)))] [])) _
      refine XS.aloadN X104.here hx rfl (hb hby d8_70) rfl rfl ?_
      show Steps p.tables e below (T104.setTop (mkF m 71 #[.val (.ref f1), .val (.int (Int32.ofNat near2_102)), .val (.int (Int32.ofNat (opn near2_102)))] [(.ref f1)])) _
      refine XS.dup X104.here hx rfl (hb hby d8_71) rfl rfl ?_
      show Steps p.tables e below (T104.setTop (mkF m 72 #[.val (.ref f1), .val (.int (Int32.ofNat near2_102)), .val (.int (Int32.ofNat (opn near2_102)))] [(.ref f1), (.ref f1)])) _
      refine st108 _ ?_
      show Steps p.tables e below (T108.setTop (mkF m 75 #[.val (.ref f1), .val (.int (Int32.ofNat near2_102)), .val (.int (Int32.ofNat (opn near2_102)))] [(.int (Int32.ofNat oc)), (.ref f1)])) _
      refine XS.iconst X108.here hx rfl (hb hby d8_75) ?_
      show Steps p.tables e below (T108.setTop (mkF m 76 #[.val (.ref f1), .val (.int (Int32.ofNat near2_102)), .val (.int (Int32.ofNat (opn near2_102)))] [(.int (1 : Int32)), (.int (Int32.ofNat oc)), (.ref f1)])) _
      refine XS.isub X108.here hx rfl (hb hby d8_76) rfl ?_
      show Steps p.tables e below (T108.setTop (mkF m 77 #[.val (.ref f1), .val (.int (Int32.ofNat near2_102)), .val (.int (Int32.ofNat (opn near2_102)))] [(.int ((Int32.ofNat oc) - (1 : Int32))), (.ref f1)])) _
      rw [hdec]
      show Steps p.tables e below (T108.setTop (mkF m 77 #[.val (.ref f1), .val (.int (Int32.ofNat near2_102)), .val (.int (Int32.ofNat (opn near2_102)))] [(.int (Int32.ofNat (oc - 1))), (.ref f1)])) _
      refine st109 _ ?_
      show Steps p.tables e below (T109.setTop (mkF m 80 #[.val (.ref f1), .val (.int (Int32.ofNat near2_102)), .val (.int (Int32.ofNat (opn near2_102)))] [])) _
      refine XS.aloadN X109.here hx rfl (hb hby d8_80) rfl rfl ?_
      show Steps p.tables e below (T109.setTop (mkF m 81 #[.val (.ref f1), .val (.int (Int32.ofNat near2_102)), .val (.int (Int32.ofNat (opn near2_102)))] [(.ref f1)])) _
      refine st113 _ ?_
      show Steps p.tables e below (T113.setTop (mkF m 84 #[.val (.ref f1), .val (.int (Int32.ofNat near2_102)), .val (.int (Int32.ofNat (opn near2_102)))] [(.ref aO)])) _
      refine XS.iloadN X113.here hx rfl (hb hby d8_84) rfl ?_
      show Steps p.tables e below (T113.setTop (mkF m 85 #[.val (.ref f1), .val (.int (Int32.ofNat near2_102)), .val (.int (Int32.ofNat (opn near2_102)))] [(.int (Int32.ofNat near2_102)), (.ref aO)])) _
      refine XS.aloadN X113.here hx rfl (hb hby d8_85) rfl rfl ?_
      show Steps p.tables e below (T113.setTop (mkF m 86 #[.val (.ref f1), .val (.int (Int32.ofNat near2_102)), .val (.int (Int32.ofNat (opn near2_102)))] [(.ref f1), (.int (Int32.ofNat near2_102)), (.ref aO)])) _
      refine st114 _ ?_
      show Steps p.tables e below (T114.setTop (mkF m 89 #[.val (.ref f1), .val (.int (Int32.ofNat near2_102)), .val (.int (Int32.ofNat (opn near2_102)))] [(.ref aO), (.int (Int32.ofNat near2_102)), (.ref aO)])) _
      refine XS.aloadN X114.here hx rfl (hb hby d8_89) rfl rfl ?_
      show Steps p.tables e below (T114.setTop (mkF m 90 #[.val (.ref f1), .val (.int (Int32.ofNat near2_102)), .val (.int (Int32.ofNat (opn near2_102)))] [(.ref f1), (.ref aO), (.int (Int32.ofNat near2_102)), (.ref aO)])) _
      refine st115 _ ?_
      show Steps p.tables e below (T115.setTop (mkF m 93 #[.val (.ref f1), .val (.int (Int32.ofNat near2_102)), .val (.int (Int32.ofNat (opn near2_102)))] [(.int (Int32.ofNat (oc - 1))), (.ref aO), (.int (Int32.ofNat near2_102)), (.ref aO)])) _
      refine X115.iaload hx (j := (Int32.ofNat (oc - 1))) (v := (.int (Int32.ofNat (opn (oc - 1))))) (by rw [e115]; exact Ar117.1) (State.isArrayOf_alike hZ.alike Ar117.2.1) Ar117.2.2 in118 at119 (g := (mkF m 93 #[.val (.ref f1), .val (.int (Int32.ofNat near2_102)), .val (.int (Int32.ofNat (opn near2_102)))] [(.int (Int32.ofNat (oc - 1))), (.ref aO), (.int (Int32.ofNat near2_102)), (.ref aO)])) rfl rfl (hb hby d8_93) _ ?_
      show Steps p.tables e below (T115.setTop (mkF m 94 #[.val (.ref f1), .val (.int (Int32.ofNat near2_102)), .val (.int (Int32.ofNat (opn near2_102)))] [(.int (Int32.ofNat (opn (oc - 1)))), (.int (Int32.ofNat near2_102)), (.ref aO)])) _
      refine st122 _ ?_
      show Steps p.tables e below (T122.setTop (mkF m 95 #[.val (.ref f1), .val (.int (Int32.ofNat near2_102)), .val (.int (Int32.ofNat (opn near2_102)))] [])) _
      refine XS.aloadN X122.here hx rfl (hb hby d8_95) rfl rfl ?_
      show Steps p.tables e below (T122.setTop (mkF m 96 #[.val (.ref f1), .val (.int (Int32.ofNat near2_102)), .val (.int (Int32.ofNat (opn near2_102)))] [(.ref f1)])) _
      refine st126 _ ?_
      show Steps p.tables e below (T126.setTop (mkF m 99 #[.val (.ref f1), .val (.int (Int32.ofNat near2_102)), .val (.int (Int32.ofNat (opn near2_102)))] [(.ref aS)])) _
      refine XS.iloadN X126.here hx rfl (hb hby d8_99) rfl ?_
      show Steps p.tables e below (T126.setTop (mkF m 100 #[.val (.ref f1), .val (.int (Int32.ofNat near2_102)), .val (.int (Int32.ofNat (opn near2_102)))] [(.int (Int32.ofNat (opn near2_102))), (.ref aS)])) _
      refine XS.iconst X126.here hx rfl (hb hby d8_100) ?_
      show Steps p.tables e below (T126.setTop (mkF m 101 #[.val (.ref f1), .val (.int (Int32.ofNat near2_102)), .val (.int (Int32.ofNat (opn near2_102)))] [(.int (1 : Int32)), (.int (Int32.ofNat (opn near2_102))), (.ref aS)])) _
      refine st130 _ ?_
      show Steps p.tables e below (T130.setTop (mkF m 102 #[.val (.ref f1), .val (.int (Int32.ofNat near2_102)), .val (.int (Int32.ofNat (opn near2_102)))] [])) _
      refine XS.iloadN X130.here hx rfl (hb hby d8_102) rfl ?_
      exact kt)
  have f134 : Exa Z h130 f1 "com/example/slotwright/slotwright/exchange/Frontier" := (((P_E_f1.wr W109).wr W122).wr W130)
  have f135 : Fld Z h130 f1 "com/example/slotwright/slotwright/exchange/Frontier" "distance" "[D" (.ref aD) := (((P_F_f1_distance.other W109 (Or.inr (slot_ne (Or.inr (hw _ (List.mem_of_getElem? (i := 13) rfl))) (Or.inl (hw _ (List.mem_of_getElem? (i := 44) rfl))) (by decide) (t := (.array .double)) (t' := .int) (by decide) (by decide)))).other W122 (Or.inl P_ne_f1_aO)).other W130 (Or.inl P_ne_f1_aS))
  have f136 : Fld Z h130 f1 "com/example/slotwright/slotwright/exchange/Frontier" "settled" "[Z" (.ref aS) := (f125.other W130 (Or.inl P_ne_f1_aS))
  have f137 : Fld Z h130 f1 "com/example/slotwright/slotwright/exchange/Frontier" "reached" "[I" (.ref aR) := (((P_F_f1_reached.other W109 (Or.inr (slot_ne (Or.inr (hw _ (List.mem_of_getElem? (i := 24) rfl))) (Or.inl (hw _ (List.mem_of_getElem? (i := 44) rfl))) (by decide) (t := (.array .int)) (t' := .int) (by decide) (by decide)))).other W122 (Or.inl P_ne_f1_aO)).other W130 (Or.inl P_ne_f1_aS))
  have f138 : Fld Z h130 f1 "com/example/slotwright/slotwright/exchange/Frontier" "open" "[I" (.ref aO) := ((f112.other W122 (Or.inl P_ne_f1_aO)).other W130 (Or.inl P_ne_f1_aS))
  have f139 : Fld Z h130 f1 "com/example/slotwright/slotwright/exchange/Frontier" "reachedCount" "I" (.int (Int32.ofNat rc)) := (((P_F_f1_reachedCount.other W109 (Or.inr (slot_ne (Or.inl (hw _ (List.mem_of_getElem? (i := 42) rfl))) (Or.inl (hw _ (List.mem_of_getElem? (i := 44) rfl))) (by decide) (t := .int) (t' := .int) (by decide) (by decide)))).other W122 (Or.inl P_ne_f1_aO)).other W130 (Or.inl P_ne_f1_aS))
  have f140 : Fld Z h130 f1 "com/example/slotwright/slotwright/exchange/Frontier" "openCount" "I" (.int (Int32.ofNat (oc - 1))) := ((F109.other W122 (Or.inl P_ne_f1_aO)).other W130 (Or.inl P_ne_f1_aS))
  have f141 : Arv Z h130 aD kD .double (Int32.ofNat n) (own_LD dist n) (.double (0 : UInt64)) := (((P_V_aD.other W109 (Ne.symm P_ne_f1_aD)).other W122 P_ne_aD_aO).other W130 P_ne_aD_aS)
  have f142 : Arv Z h130 aR kR .int (Int32.ofNat n) (own_LN rch n) (.int (0 : Int32)) := (((P_V_aR.other W109 (Ne.symm P_ne_f1_aR)).other W122 P_ne_aR_aO).other W130 (Ne.symm P_ne_aS_aR))
  have f143 : Arv Z h130 aO kO .int (Int32.ofNat n) (own_LN (own_up opn near2_102 (opn (oc - 1))) n) (.int (0 : Int32)) := (V122.other W130 (Ne.symm P_ne_aS_aO))
  obtain ⟨fs, hr, hrun, hended, hW, hsame⟩ := X130.leave (v := some (.int (Int32.ofNat (opn near2_102)))) (fun h => by rw [Bd.returns] at h; cases h)
  refine ⟨_, _, pre133 _ ?_, hrun, hended, _, _, rfl, ?_, ⟨_, rfl⟩, hW, hsame.mono (by decide) (by decide)⟩
  · show Steps p.tables e below (T130.setTop (mkF m 103 #[.val (.ref f1), .val (.int (Int32.ofNat near2_102)), .val (.int (Int32.ofNat (opn near2_102)))] [(.int (Int32.ofNat (opn near2_102)))])) _
    exact retI X130 hx Bd.returns (hb hby d8_103) hr
  · show QFsettle Z f1 aD aS aR aO kD kS kR kO n dist st rch rc opn oc h0 n0 _ T130.heap _
    rw [e130]
    exact ⟨near2_102, rfl, N130, k132, f134, f135, f136, f137, f138, f139, f140, f141, V130, f142, f143, x102_0⟩
theorem ef_FisEmpty (m : MethodId) (f1 : Addr) : entryFrame m #[(.ref f1)] 1 = mkF m 0 #[.val (.ref f1)] [] := by first | (simp [entryFrame, mkF, argsToLocals, Value.category]; done) | rfl
theorem d10_0 : decode prog_39_method_3_code 0 = .ok (.aload_n 0, 1) := by decide +kernel
theorem d10_1 : decode prog_39_method_3_code 1 = .ok (.getfield 51, 3) := by decide +kernel
theorem d10_4 : decode prog_39_method_3_code 4 = .ok (.ifCond .ne 7, 3) := by decide +kernel
theorem d10_7 : decode prog_39_method_3_code 7 = .ok (.iconst 1, 1) := by decide +kernel
theorem d10_8 : decode prog_39_method_3_code 8 = .ok (.goto 4, 3) := by decide +kernel
theorem d10_12 : decode prog_39_method_3_code 12 = .ok (.ireturn, 1) := by decide +kernel
theorem d10_11 : decode prog_39_method_3_code 11 = .ok (.iconst 0, 1) := by decide +kernel
def QFisEmpty (Z : State) (f1 : Addr) (x1 : Int32) (h0 : Heap) (n0 : Nat) (v : Option Value) (h : Heap) (L : List Loc) : Prop := ∃ (r : Int32), v = some (.int r) ∧ Fr n0 L ∧ h = h0 ∧ (x1 = (0 : Int32) → r = (1 : Int32)) ∧ (¬ (x1 = (0 : Int32)) → r = (0 : Int32))
set_option maxRecDepth 65536 in
set_option maxHeartbeats 40000000 in
theorem rmFisEmpty (l : Launch) (Z : State) (a0 : Array Value) (hw : ∀ d ∈ tables_1, d.before a0 Z = true) (ws : List Jvm.Cond) (f1 : Addr) (x1 : Int32) (h0 : Heap) (n0 : Nat) (Z0 : n0 ≤ h0.size) (P_F_f1_openCount : Fld Z h0 f1 "com/example/slotwright/slotwright/exchange/Frontier" "openCount" "I" (.int x1)) :
    MetFree l (⟨"com/example/slotwright/slotwright/exchange/Frontier", "isEmpty", "()Z"⟩ : MethodName) (head1 (Jvm.Cond.code (⟨"com/example/slotwright/slotwright/exchange/Frontier", "isEmpty", "()Z"⟩ : MethodName) prog_39_method_3_code 1 (some .boolean) :: ws) ({ frames := 0, cells := 0, slots := 0, locals := 0 } : Room)) (fun a U => a = #[(.ref f1)] ∧ Z.Warmed39 U.vm ∧ U.heap = h0) (fun _ _ _ _ _ => True) (fun _ U o U' => ∃ v L, o = .returned v ∧ QFisEmpty Z f1 x1 h0 n0 v U'.heap L ∧ FrameEnd U o U' L ({ frames := 0, cells := 0, slots := 0, locals := 0 } : Room).cells ({ frames := 0, cells := 0, slots := 0, locals := 0 } : Room).slots) := by
  refine MetFree.of_bodySF (plainFor_of_name pn_com_example_slotwright_slotwright_exchange_Frontier) hisR ?_
  intro p e s m args below meth c s₁ Bd hml0 hP hK
  obtain ⟨rfl, hZ, hh⟩ := hP
  have hx := Bd.exec
  have hby := Bd.bytes
  have hml : c.maxLocals = 1 := hml0
  have hown : s.vm.findClass "com/example/slotwright/slotwright/exchange/Frontier" = some m.cls := findClass_of_methodNamed Bd.named
  have hnm := (name_of_methodNamed Bd.named Bd.method).1
  have X0 : Stand p l e ({ frames := 0, cells := 0, slots := 0, locals := 0 } : Room) s m #[(.ref f1)] below meth c s₁ [] 0 0 := Stand.of_body Bd
  have e0 : s₁.heap = h0 := by rw [← hh, Bd.state]; rfl
  have N0 := Fr.nil n0
  have pre0 : ∀ t_, Steps p.tables e below (s₁.setTop (mkF m 0 #[.val (.ref f1)] [])) t_ → Steps p.tables e below (s₁.setTop (entryFrame m #[(.ref f1)] 1)) t_ := fun t_ k => castTop (ef_FisEmpty m f1) k
  obtain ⟨T101, X101, e101, st101⟩ := getF X0 hx hZ hown (host := "") (Or.inl (hw _ (List.mem_of_getElem? (i := 43) rfl))) Via.refl e0 P_F_f1_openCount (g := (mkF m 1 #[.val (.ref f1)] [(.ref f1)])) rfl rfl (hb hby d10_1)
  have pre102 : ∀ t_, Steps p.tables e below (T101.setTop (mkF m 4 #[.val (.ref f1)] [(.int x1)])) t_ → Steps p.tables e below (s₁.setTop (entryFrame m #[(.ref f1)] 1)) t_ := fun t_ kt => pre0 t_ (by
      show Steps p.tables e below (s₁.setTop (mkF m 0 #[.val (.ref f1)] [])) _
      refine XS.aloadN X0.here hx rfl (hb hby d10_0) rfl rfl ?_
      show Steps p.tables e below (s₁.setTop (mkF m 1 #[.val (.ref f1)] [(.ref f1)])) _
      refine st101 _ ?_
      exact kt)
  by_cases hz : x1 = (0 : Int32)
  · skip
    have pre103 : ∀ t_, Steps p.tables e below (T101.setTop (mkF m 12 #[.val (.ref f1)] [(.int (1 : Int32))])) t_ → Steps p.tables e below (s₁.setTop (entryFrame m #[(.ref f1)] 1)) t_ := fun t_ kt => pre102 t_ (by
        show Steps p.tables e below (T101.setTop (mkF m 4 #[.val (.ref f1)] [(.int x1)])) _
        refine XS.ifNo X101.here hx rfl (hb hby d10_4) rfl ((if0 _ _).trans (teq (hz : x1 = (0 : Int32))).2) ?_
        show Steps p.tables e below (T101.setTop (mkF m 7 #[.val (.ref f1)] [])) _
        refine XS.iconst X101.here hx rfl (hb hby d10_7) ?_
        show Steps p.tables e below (T101.setTop (mkF m 8 #[.val (.ref f1)] [(.int (1 : Int32))])) _
        refine XS.goto X101.here hx rfl (pc0 := 8) (pc' := 12) rfl (hb hby d10_8) (by decide) (by decide) ?_
        exact kt)
    obtain ⟨fs, hr, hrun, hended, hW, hsame⟩ := X101.leave (v := some (.int (1 : Int32))) (fun h => by rw [Bd.returns] at h; cases h)
    refine ⟨_, _, pre103 _ ?_, hrun, hended, _, _, rfl, ?_, ⟨_, rfl⟩, hW, hsame.mono (by decide) (by decide)⟩
    · show Steps p.tables e below (T101.setTop (mkF m 12 #[.val (.ref f1)] [(.int (1 : Int32))])) _
      exact retN X101 hx (t := .boolean) Bd.returns (by simp) (hb hby d10_12) hr
    · show QFisEmpty Z f1 x1 h0 n0 _ T101.heap _
      rw [e101]
      exact ⟨(1 : Int32), rfl, N0, rfl, fun _ => rfl, fun q => absurd hz q⟩
  · skip
    have pre104 : ∀ t_, Steps p.tables e below (T101.setTop (mkF m 12 #[.val (.ref f1)] [(.int (0 : Int32))])) t_ → Steps p.tables e below (s₁.setTop (entryFrame m #[(.ref f1)] 1)) t_ := fun t_ kt => pre102 t_ (by
        show Steps p.tables e below (T101.setTop (mkF m 4 #[.val (.ref f1)] [(.int x1)])) _
        refine XS.ifYes X101.here hx rfl (pc0 := 4) (pc' := 11) rfl (hb hby d10_4) rfl ((if0 _ _).trans (feq (hz : ¬ (x1 = (0 : Int32)))).2) (by decide) (by decide) ?_
        show Steps p.tables e below (T101.setTop (mkF m 11 #[.val (.ref f1)] [])) _
        refine XS.iconst X101.here hx rfl (hb hby d10_11) ?_
        exact kt)
    obtain ⟨fs, hr, hrun, hended, hW, hsame⟩ := X101.leave (v := some (.int (0 : Int32))) (fun h => by rw [Bd.returns] at h; cases h)
    refine ⟨_, _, pre104 _ ?_, hrun, hended, _, _, rfl, ?_, ⟨_, rfl⟩, hW, hsame.mono (by decide) (by decide)⟩
    · show Steps p.tables e below (T101.setTop (mkF m 12 #[.val (.ref f1)] [(.int (0 : Int32))])) _
      exact retN X101 hx (t := .boolean) Bd.returns (by simp) (hb hby d10_12) hr
    · show QFisEmpty Z f1 x1 h0 n0 _ T101.heap _
      rw [e101]
      exact ⟨(0 : Int32), rfl, N0, rfl, fun q => absurd q hz, fun _ => rfl⟩
theorem ef_Fstl (m : MethodId) (f1 : Addr) : entryFrame m #[(.ref f1), (.int (Int32.ofNat vv))] 2 = mkF m 0 #[.val (.ref f1), .val (.int (Int32.ofNat vv))] [] := by first | (simp [entryFrame, mkF, argsToLocals, Value.category]; done) | rfl
theorem d9_0 : decode prog_39_method_6_code 0 = .ok (.aload_n 0, 1) := by decide +kernel
theorem d9_1 : decode prog_39_method_6_code 1 = .ok (.getfield 23, 3) := by decide +kernel
theorem d9_4 : decode prog_39_method_6_code 4 = .ok (.iload_n 1, 1) := by decide +kernel
theorem d9_5 : decode prog_39_method_6_code 5 = .ok (.baload, 1) := by decide +kernel
theorem d9_6 : decode prog_39_method_6_code 6 = .ok (.ireturn, 1) := by decide +kernel
def QFstl (Z : State) (f1 : Addr) (aS : Addr) (kS : ClassId) (n : Nat) (st : Nat → Int32) (vv : Nat) (h0 : Heap) (n0 : Nat) (v : Option Value) (h : Heap) (L : List Loc) : Prop := v = some (.int (nar .boolean (st vv))) ∧ Fr n0 L ∧ h = h0
set_option maxRecDepth 65536 in
set_option maxHeartbeats 40000000 in
theorem rmFstl (l : Launch) (Z : State) (a0 : Array Value) (hw : ∀ d ∈ tables_1, d.before a0 Z = true) (ws : List Jvm.Cond) (f1 : Addr) (aS : Addr) (kS : ClassId) (n : Nat) (st : Nat → Int32) (vv : Nat) (h0 : Heap) (n0 : Nat) (Z0 : n0 ≤ h0.size) (P_F_f1_settled : Fld Z h0 f1 "com/example/slotwright/slotwright/exchange/Frontier" "settled" "[Z" (.ref aS)) (P_V_aS : Arv Z h0 aS kS .boolean (Int32.ofNat n) (own_LZ st n) (.int (0 : Int32))) (hn : n ≤ 4) (hv : vv < n) :
    MetFree l (⟨"com/example/slotwright/slotwright/exchange/Frontier", "isSettled", "(I)Z"⟩ : MethodName) (head1 (Jvm.Cond.code (⟨"com/example/slotwright/slotwright/exchange/Frontier", "isSettled", "(I)Z"⟩ : MethodName) prog_39_method_6_code 2 (some .boolean) :: ws) ({ frames := 0, cells := 0, slots := 0, locals := 0 } : Room)) (fun a U => a = #[(.ref f1), (.int (Int32.ofNat vv))] ∧ Z.Warmed39 U.vm ∧ U.heap = h0) (fun _ _ _ _ _ => True) (fun _ U o U' => ∃ v L, o = .returned v ∧ QFstl Z f1 aS kS n st vv h0 n0 v U'.heap L ∧ FrameEnd U o U' L ({ frames := 0, cells := 0, slots := 0, locals := 0 } : Room).cells ({ frames := 0, cells := 0, slots := 0, locals := 0 } : Room).slots) := by
  refine MetFree.of_bodySF (plainFor_of_name pn_com_example_slotwright_slotwright_exchange_Frontier) hisR ?_
  intro p e s m args below meth c s₁ Bd hml0 hP hK
  obtain ⟨rfl, hZ, hh⟩ := hP
  have hx := Bd.exec
  have hby := Bd.bytes
  have hml : c.maxLocals = 2 := hml0
  have hown : s.vm.findClass "com/example/slotwright/slotwright/exchange/Frontier" = some m.cls := findClass_of_methodNamed Bd.named
  have hnm := (name_of_methodNamed Bd.named Bd.method).1
  have X0 : Stand p l e ({ frames := 0, cells := 0, slots := 0, locals := 0 } : Room) s m #[(.ref f1), (.int (Int32.ofNat vv))] below meth c s₁ [] 0 0 := Stand.of_body Bd
  have e0 : s₁.heap = h0 := by rw [← hh, Bd.state]; rfl
  have N0 := Fr.nil n0
  have pre0 : ∀ t_, Steps p.tables e below (s₁.setTop (mkF m 0 #[.val (.ref f1), .val (.int (Int32.ofNat vv))] [])) t_ → Steps p.tables e below (s₁.setTop (entryFrame m #[(.ref f1), (.int (Int32.ofNat vv))] 2)) t_ := fun t_ k => castTop (ef_Fstl m f1) k
  obtain ⟨T101, X101, e101, st101⟩ := getF X0 hx hZ hown (host := "") (Or.inl (hw _ (List.mem_of_getElem? (i := 20) rfl))) Via.refl e0 P_F_f1_settled (g := (mkF m 1 #[.val (.ref f1), .val (.int (Int32.ofNat vv))] [(.ref f1)])) rfl rfl (hb hby d9_1)
  obtain ⟨cl102, Ar102, Q102, S102, M102, H102, G102⟩ := id P_V_aS
  have in103 : ¬ ((Int32.ofNat vv) < 0 ∨ cl102.slots.size ≤ ((Int32.ofNat vv)).toNatClampNeg) := inb_of S102 ⟨nn32 (by omega), lt32 hv (by omega)⟩
  have at104 : cl102.slots[((Int32.ofNat vv)).toNatClampNeg]? = some (.int (st vv)) := by rw [n32 (by omega), H102 vv (by rw [S102, n32 (by omega)]; exact hv), own_LZ_at _ hv]
  have pre105 : ∀ t_, Steps p.tables e below (T101.setTop (mkF m 6 #[.val (.ref f1), .val (.int (Int32.ofNat vv))] [(.int (st vv))])) t_ → Steps p.tables e below (s₁.setTop (entryFrame m #[(.ref f1), (.int (Int32.ofNat vv))] 2)) t_ := fun t_ kt => pre0 t_ (by
      show Steps p.tables e below (s₁.setTop (mkF m 0 #[.val (.ref f1), .val (.int (Int32.ofNat vv))] [])) _
      refine XS.aloadN X0.here hx rfl (hb hby d9_0) rfl rfl ?_
      show Steps p.tables e below (s₁.setTop (mkF m 1 #[.val (.ref f1), .val (.int (Int32.ofNat vv))] [(.ref f1)])) _
      refine st101 _ ?_
      show Steps p.tables e below (T101.setTop (mkF m 4 #[.val (.ref f1), .val (.int (Int32.ofNat vv))] [(.ref aS)])) _
      refine XS.iloadN X101.here hx rfl (hb hby d9_4) rfl ?_
      show Steps p.tables e below (T101.setTop (mkF m 5 #[.val (.ref f1), .val (.int (Int32.ofNat vv))] [(.int (Int32.ofNat vv)), (.ref aS)])) _
      refine X101.baloadBooleans hx (j := (Int32.ofNat vv)) (v := (.int (st vv))) (by rw [e101]; exact Ar102.1) (State.isArrayOf_alike hZ.alike Ar102.2.1) Ar102.2.2 in103 at104 (g := (mkF m 5 #[.val (.ref f1), .val (.int (Int32.ofNat vv))] [(.int (Int32.ofNat vv)), (.ref aS)])) rfl rfl (hb hby d9_5) _ ?_
      exact kt)
  obtain ⟨fs, hr, hrun, hended, hW, hsame⟩ := X101.leave (v := some (.int (nar .boolean (st vv)))) (fun h => by rw [Bd.returns] at h; cases h)
  refine ⟨_, _, pre105 _ ?_, hrun, hended, _, _, rfl, ?_, ⟨_, rfl⟩, hW, hsame.mono (by decide) (by decide)⟩
  · show Steps p.tables e below (T101.setTop (mkF m 6 #[.val (.ref f1), .val (.int (Int32.ofNat vv))] [(.int (st vv))])) _
    exact retN X101 hx (t := .boolean) Bd.returns (by simp) (hb hby d9_6) hr
  · show QFstl Z f1 aS kS n st vv h0 n0 _ T101.heap _
    rw [e101]
    exact ⟨rfl, N0, rfl⟩
theorem ef_min (m : MethodId) (q1 : Int64) (q2 : Int64) : entryFrame m #[(.long q1), (.long q2)] 4 = mkF m 0 #[.val (.long q1), .second, .val (.long q2), .second] [] := by first | (simp [entryFrame, mkF, argsToLocals, Value.category]; done) | rfl
theorem d7_0 : decode jdk_29_method_70_code 0 = .ok (.lload_n 0, 1) := by decide +kernel
theorem d7_1 : decode jdk_29_method_70_code 1 = .ok (.lload_n 2, 1) := by decide +kernel
theorem d7_2 : decode jdk_29_method_70_code 2 = .ok (.lcmp, 1) := by decide +kernel
theorem d7_3 : decode jdk_29_method_70_code 3 = .ok (.ifCond .gt 7, 3) := by decide +kernel
theorem d7_10 : decode jdk_29_method_70_code 10 = .ok (.lload_n 2, 1) := by decide +kernel
theorem d7_11 : decode jdk_29_method_70_code 11 = .ok (.lreturn, 1) := by decide +kernel
theorem d7_6 : decode jdk_29_method_70_code 6 = .ok (.lload_n 0, 1) := by decide +kernel
theorem d7_7 : decode jdk_29_method_70_code 7 = .ok (.goto 4, 3) := by decide +kernel
def Qmin (Z : State) (q1 : Int64) (q2 : Int64) (h0 : Heap) (n0 : Nat) (v : Option Value) (h : Heap) (L : List Loc) : Prop := ∃ (r : Int64), v = some (.long r) ∧ Fr n0 L ∧ h = h0 ∧ ((¬ ((0 : Int32) < (lcmpW q1 q2)) ∧ r = q1) ∨ ((0 : Int32) < (lcmpW q1 q2) ∧ r = q2))
set_option maxRecDepth 65536 in
set_option maxHeartbeats 40000000 in
theorem rmmin (l : Launch) (Z : State) (a0 : Array Value) (hw : ∀ d ∈ tables_1, d.before a0 Z = true) (ws : List Jvm.Cond) (q1 : Int64) (q2 : Int64) (h0 : Heap) (n0 : Nat) (Z0 : n0 ≤ h0.size) :
    MetFree l (⟨"java/lang/Math", "min", "(JJ)J"⟩ : MethodName) (head1 (Jvm.Cond.code (⟨"java/lang/Math", "min", "(JJ)J"⟩ : MethodName) jdk_29_method_70_code 4 (some .long) :: ws) ({ frames := 0, cells := 0, slots := 0, locals := 0 } : Room)) (fun a U => a = #[(.long q1), (.long q2)] ∧ Z.Warmed39 U.vm ∧ U.heap = h0) (fun _ _ _ _ _ => True) (fun _ U o U' => ∃ v L, o = .returned v ∧ Qmin Z q1 q2 h0 n0 v U'.heap L ∧ FrameEnd U o U' L ({ frames := 0, cells := 0, slots := 0, locals := 0 } : Room).cells ({ frames := 0, cells := 0, slots := 0, locals := 0 } : Room).slots) := by
  refine MetFree.of_bodySF (Jvm.Free.JP.mathPlain rfl (by decide +kernel)) hisR ?_
  intro p e s m args below meth c s₁ Bd hml0 hP hK
  obtain ⟨rfl, hZ, hh⟩ := hP
  have hx := Bd.exec
  have hby := Bd.bytes
  have hml : c.maxLocals = 4 := hml0
  have hown : s.vm.findClass "java/lang/Math" = some m.cls := findClass_of_methodNamed Bd.named
  have hnm := (name_of_methodNamed Bd.named Bd.method).1
  have X0 : Stand p l e ({ frames := 0, cells := 0, slots := 0, locals := 0 } : Room) s m #[(.long q1), (.long q2)] below meth c s₁ [] 0 0 := Stand.of_body Bd
  have e0 : s₁.heap = h0 := by rw [← hh, Bd.state]; rfl
  have N0 := Fr.nil n0
  have pre0 : ∀ t_, Steps p.tables e below (s₁.setTop (mkF m 0 #[.val (.long q1), .second, .val (.long q2), .second] [])) t_ → Steps p.tables e below (s₁.setTop (entryFrame m #[(.long q1), (.long q2)] 4)) t_ := fun t_ k => castTop (ef_min m q1 q2) k
  have pre101 : ∀ t_, Steps p.tables e below (s₁.setTop (mkF m 3 #[.val (.long q1), .second, .val (.long q2), .second] [(.int (lcmpW q1 q2))])) t_ → Steps p.tables e below (s₁.setTop (entryFrame m #[(.long q1), (.long q2)] 4)) t_ := fun t_ kt => pre0 t_ (by
      show Steps p.tables e below (s₁.setTop (mkF m 0 #[.val (.long q1), .second, .val (.long q2), .second] [])) _
      refine XS.lloadN X0.here hx rfl (hb hby d7_0) rfl ?_
      show Steps p.tables e below (s₁.setTop (mkF m 1 #[.val (.long q1), .second, .val (.long q2), .second] [(.long q1)])) _
      refine XS.lloadN X0.here hx rfl (hb hby d7_1) rfl ?_
      show Steps p.tables e below (s₁.setTop (mkF m 2 #[.val (.long q1), .second, .val (.long q2), .second] [(.long q2), (.long q1)])) _
      refine XS.lcmp X0.here hx rfl (hb hby d7_2) rfl ?_
      exact kt)
  by_cases hc : (0 : Int32) < (lcmpW q1 q2)
  · skip
    have pre102 : ∀ t_, Steps p.tables e below (s₁.setTop (mkF m 11 #[.val (.long q1), .second, .val (.long q2), .second] [(.long q2)])) t_ → Steps p.tables e below (s₁.setTop (entryFrame m #[(.long q1), (.long q2)] 4)) t_ := fun t_ kt => pre101 t_ (by
        show Steps p.tables e below (s₁.setTop (mkF m 3 #[.val (.long q1), .second, .val (.long q2), .second] [(.int (lcmpW q1 q2))])) _
        refine XS.ifYes X0.here hx rfl (pc0 := 3) (pc' := 10) rfl (hb hby d7_3) rfl ((if0 _ _).trans (tlt (hc : (0 : Int32) < (lcmpW q1 q2))).2.2.1) (by decide) (by decide) ?_
        show Steps p.tables e below (s₁.setTop (mkF m 10 #[.val (.long q1), .second, .val (.long q2), .second] [])) _
        refine XS.lloadN X0.here hx rfl (hb hby d7_10) rfl ?_
        exact kt)
    obtain ⟨fs, hr, hrun, hended, hW, hsame⟩ := X0.leave (v := some (.long q2)) (fun h => by rw [Bd.returns] at h; cases h)
    refine ⟨_, _, pre102 _ ?_, hrun, hended, _, _, rfl, ?_, ⟨_, rfl⟩, hW, hsame.mono (by decide) (by decide)⟩
    · show Steps p.tables e below (s₁.setTop (mkF m 11 #[.val (.long q1), .second, .val (.long q2), .second] [(.long q2)])) _
      exact own_retJ X0 hx Bd.returns (hb hby d7_11) hr
    · show Qmin Z q1 q2 h0 n0 _ s₁.heap _
      rw [e0]
      exact ⟨q2, rfl, N0, rfl, Or.inr ⟨hc, rfl⟩⟩
  · skip
    have pre103 : ∀ t_, Steps p.tables e below (s₁.setTop (mkF m 11 #[.val (.long q1), .second, .val (.long q2), .second] [(.long q1)])) t_ → Steps p.tables e below (s₁.setTop (entryFrame m #[(.long q1), (.long q2)] 4)) t_ := fun t_ kt => pre101 t_ (by
        show Steps p.tables e below (s₁.setTop (mkF m 3 #[.val (.long q1), .second, .val (.long q2), .second] [(.int (lcmpW q1 q2))])) _
        refine XS.ifNo X0.here hx rfl (hb hby d7_3) rfl ((if0 _ _).trans (flt (hc : ¬ ((0 : Int32) < (lcmpW q1 q2)))).2.2.1) ?_
        show Steps p.tables e below (s₁.setTop (mkF m 6 #[.val (.long q1), .second, .val (.long q2), .second] [])) _
        refine XS.lloadN X0.here hx rfl (hb hby d7_6) rfl ?_
        show Steps p.tables e below (s₁.setTop (mkF m 7 #[.val (.long q1), .second, .val (.long q2), .second] [(.long q1)])) _
        refine XS.goto X0.here hx rfl (pc0 := 7) (pc' := 11) rfl (hb hby d7_7) (by decide) (by decide) ?_
        exact kt)
    obtain ⟨fs, hr, hrun, hended, hW, hsame⟩ := X0.leave (v := some (.long q1)) (fun h => by rw [Bd.returns] at h; cases h)
    refine ⟨_, _, pre103 _ ?_, hrun, hended, _, _, rfl, ?_, ⟨_, rfl⟩, hW, hsame.mono (by decide) (by decide)⟩
    · show Steps p.tables e below (s₁.setTop (mkF m 11 #[.val (.long q1), .second, .val (.long q2), .second] [(.long q1)])) _
      exact own_retJ X0 hx Bd.returns (hb hby d7_11) hr
    · show Qmin Z q1 q2 h0 n0 _ s₁.heap _
      rw [e0]
      exact ⟨q1, rfl, N0, rfl, Or.inl ⟨hc, rfl⟩⟩
def own_LJ (f : Nat → Int64) (n : Nat) : List Value := vals (fun j => .long (f j)) n
theorem own_LJ_at (f : Nat → Int64) {n j : Nat} (h : j < n) (d : Value) : (own_LJ f n).getD j d = .long (f j) := vals_at _ h d
theorem own_LJ_len (f : Nat → Int64) (n : Nat) : (own_LJ f n).length = n := vals_len _ _
theorem own_LJ_set (f : Nat → Int64) (n v : Nat) (x : Int64) : (own_LJ f n).set v (.long x) = own_LJ (own_up f v x) n := by
  unfold own_LJ; rw [vals_set]; refine vals_congr fun j _ => ?_
  unfold own_up; by_cases q : j = v
  · rw [if_pos q, if_pos q]
  · rw [if_neg q, if_neg q]
def own_sel (a b c : Int64) (j : Nat) : Int64 := if j = 0 then a else if j = 1 then b else c
def own_S (x : Int64) : Prop := -2147483648 ≤ x.toInt ∧ x.toInt ≤ 2147483647
theorem own_Si (a : Int32) : own_S a.toInt64 := by have := rng32 a; unfold own_S; rw [c_i2l]; omega
theorem own_sels {a b c : Int64} (ha : own_S a) (hb' : own_S b) (hc : own_S c) (j : Nat) : own_S (own_sel a b c j) := by
  unfold own_sel; split
  · exact ha
  · split
    · exact hb'
    · exact hc
theorem own_Sz {x : Int64} (h : own_S x) : OwnFP.zv (FP.l2d x) = x.toInt * (FP.Core.one64 : Int) := OwnFP.zv_dint (FP.Core.l2d_int (by unfold own_S at h; omega))
theorem own_Scmp {x y : Int64} (hx : own_S x) (hy : own_S y) : cmpValue (FP.dcmp (FP.l2d x) (FP.l2d y)) .g < 0 ↔ x.toInt < y.toInt := by
  rw [own_near_zv (Fl.l2d_fin x).noNaN (Fl.l2d_fin y).noNaN, own_Sz hx, own_Sz hy]
  exact Int.mul_lt_mul_right OwnFP.one_pos
theorem own_RR_fresh {v : Nat} {d : UInt64} {dist : Nat → UInt64} {st : Nat → Int32} {rch : Nat → Nat} {rc : Nat} {opn : Nat → Nat} {oc : Nat} {dist2 : Nat → UInt64} {rch2 : Nat → Nat} {rc2 : Nat} {opn2 : Nat → Nat} {oc2 : Nat} (h : own_RR v d dist st rch rc opn oc dist2 rch2 rc2 opn2 oc2) (h0 : st v = 0) (hi : dist v = own_inf) : dist2 = own_up dist v d ∧ opn2 = own_up opn oc v ∧ oc2 = oc + 1 := by
  rcases h with ⟨q, -⟩ | ⟨-, -, a, -, -, b, c⟩ | ⟨-, q, -⟩ | ⟨-, q, -⟩
  · exact absurd h0 q
  · exact ⟨a, b, c⟩
  · exact absurd hi q
  · exact absurd hi q
theorem own_RR_old {v : Nat} {d : UInt64} {dist : Nat → UInt64} {st : Nat → Int32} {rch : Nat → Nat} {rc : Nat} {opn : Nat → Nat} {oc : Nat} {dist2 : Nat → UInt64} {rch2 : Nat → Nat} {rc2 : Nat} {opn2 : Nat → Nat} {oc2 : Nat} (h : own_RR v d dist st rch rc opn oc dist2 rch2 rc2 opn2 oc2) (h0 : st v = 0) (hi : dist v ≠ own_inf) : ((cmpValue (FP.dcmp d (dist v)) .g < 0 ∧ dist2 = own_up dist v d) ∨ (¬ (cmpValue (FP.dcmp d (dist v)) .g < 0) ∧ dist2 = dist)) ∧ opn2 = opn ∧ oc2 = oc := by
  rcases h with ⟨q, -⟩ | ⟨-, q, -⟩ | ⟨-, -, a, b, -, -, c, e⟩ | ⟨-, -, a, b, -, -, c, e⟩
  · exact absurd h0 q
  · exact absurd q hi
  · exact ⟨Or.inl ⟨a, b⟩, c, e⟩
  · exact ⟨Or.inr ⟨a, b⟩, c, e⟩
/-- the open ones are all unlike -/
def own_inj (opn : Nat → Nat) (oc : Nat) : Prop := ∀ i k, i < oc → k < oc → opn i = opn k → i = k
theorem own_rem {opn : Nat → Nat} {oc near : Nat} (h : own_inj opn oc) (hn : near < oc) :
    own_inj (own_up opn near (opn (oc - 1))) (oc - 1) ∧ (∀ k, k < oc - 1 → own_up opn near (opn (oc - 1)) k ≠ opn near) ∧ (∀ j, j ≠ opn near → (∃ k, k < oc ∧ opn k = j) → ∃ k, k < oc - 1 ∧ own_up opn near (opn (oc - 1)) k = j) ∧ (∀ k, k < oc - 1 → ∃ i, i < oc ∧ own_up opn near (opn (oc - 1)) k = opn i) := by
  have src : ∀ k, k < oc - 1 → ∃ i, i < oc ∧ own_up opn near (opn (oc - 1)) k = opn i ∧ i ≠ near ∧ (k ≠ near → i = k) ∧ (k = near → i = oc - 1) := by
    intro k hk
    by_cases q : k = near
    · exact ⟨oc - 1, by omega, by rw [q, own_up_eq], by omega, fun z => absurd q z, fun _ => rfl⟩
    · exact ⟨k, by omega, by rw [own_up_ne _ _ q], q, fun _ => rfl, fun z => absurd z q⟩
  refine ⟨?_, ?_, ?_, ?_⟩
  · intro i k hi hk e
    obtain ⟨i', a1, a2, a3, a4, a5⟩ := src i hi
    obtain ⟨k', b1, b2, b3, b4, b5⟩ := src k hk
    rw [a2, b2] at e
    have := h i' k' a1 b1 e
    by_cases p : i = near
    · by_cases q : k = near
      · omega
      · have := a5 p; have := b4 q; omega
    · by_cases q : k = near
      · have := a4 p; have := b5 q; omega
      · have := a4 p; have := b4 q; omega
  · intro k hk e
    obtain ⟨i', a1, a2, a3, -⟩ := src k hk
    rw [a2] at e
    exact a3 (h i' near a1 hn e)
  · intro j hj ⟨k, hk, e⟩
    by_cases q : k = near
    · rw [q] at e; exact absurd e.symm hj
    · by_cases z : k = oc - 1
      · refine ⟨near, ?_, ?_⟩
        · have : near ≠ oc - 1 := fun y => q (by omega)
          omega
        · rw [own_up_eq, ← z]; exact e
      · exact ⟨k, by omega, by rw [own_up_ne _ _ q]; exact e⟩
  · intro k hk
    obtain ⟨i', a1, a2, -⟩ := src k hk
    exact ⟨i', a1, a2⟩
theorem own_min {dist : Nat → UInt64} {D : Nat → Int64} {opn : Nat → Nat} {oc near : Nat} (hd : ∀ j, j < 3 → dist j = FP.l2d (D j)) (hs : ∀ j, own_S (D j)) (hop : ∀ k, k < oc → opn k < 3) (hN : own_near dist opn oc near) {j : Nat} (h : ∃ k, k < oc ∧ opn k = j) : (D (opn near)).toInt ≤ (D j).toInt := by
  obtain ⟨k, hk, e⟩ := h
  have q := hN.2 k hk
  rw [hd _ (hop k hk), hd _ (hop near hN.1), own_Scmp (hs _) (hs _), e] at q
  omega
theorem own_lgt {x y : Int64} (h : x.toInt ≤ y.toInt) : ¬ ((0 : Int32) < lcmpW x y) := fun q => by
  have := Int64.lt_iff_toInt_lt.mp ((lw_gt x y).mp q)
  omega
theorem own_k6 (x : Int32) : ((x &&& (2147483647 : Int32)) % (6 : Int32)) = (0 : Int32) ∨ ((x &&& (2147483647 : Int32)) % (6 : Int32)) = (1 : Int32) ∨ ((x &&& (2147483647 : Int32)) % (6 : Int32)) = (2 : Int32) ∨ ((x &&& (2147483647 : Int32)) % (6 : Int32)) = (3 : Int32) ∨ ((x &&& (2147483647 : Int32)) % (6 : Int32)) = (4 : Int32) ∨ ((x &&& (2147483647 : Int32)) % (6 : Int32)) = (5 : Int32) := by
  have h0 := (c_and x 2147483647 (by decide)).1
  have h2 := (c_irem (x &&& 2147483647) 6 6 rfl).1 h0
  have e : ∀ k : Int32, ((x &&& (2147483647 : Int32)) % (6 : Int32)).toInt = k.toInt → ((x &&& (2147483647 : Int32)) % (6 : Int32)) = k := fun k q => Int32.toInt_inj.mp q
  have : (x &&& (2147483647 : Int32)).toInt % 6 = 0 ∨ (x &&& (2147483647 : Int32)).toInt % 6 = 1 ∨ (x &&& (2147483647 : Int32)).toInt % 6 = 2 ∨ (x &&& (2147483647 : Int32)).toInt % 6 = 3 ∨ (x &&& (2147483647 : Int32)).toInt % 6 = 4 ∨ (x &&& (2147483647 : Int32)).toInt % 6 = 5 := by omega
  rcases this with q | q | q | q | q | q
  · exact Or.inl (e 0 (h2.trans q))
  · exact Or.inr (Or.inl (e 1 (h2.trans q)))
  · exact Or.inr (Or.inr (Or.inl (e 2 (h2.trans q))))
  · exact Or.inr (Or.inr (Or.inr (Or.inl (e 3 (h2.trans q)))))
  · exact Or.inr (Or.inr (Or.inr (Or.inr (Or.inl (e 4 (h2.trans q))))))
  · exact Or.inr (Or.inr (Or.inr (Or.inr (Or.inr (e 5 (h2.trans q))))))
theorem own_k3 (x : Int32) : ∃ v, v < 3 ∧ ((x &&& (2147483647 : Int32)) % (3 : Int32)) = Int32.ofNat v := by
  have h0 := (c_and x 2147483647 (by decide)).1
  have h2 := (c_irem (x &&& 2147483647) 3 3 rfl).1 h0
  exact ⟨((x &&& (2147483647 : Int32)) % (3 : Int32)).toInt.toNat, by omega, of_int (by omega)⟩
theorem own_third : ∀ a, a < 3 → ∀ b, b < 3 → a ≠ b → ((3 : Int32) - (Int32.ofNat a)) - (Int32.ofNat b) = Int32.ofNat (3 - a - b) := by decide
theorem own_next : ∀ a, a < 3 → ((Int32.ofNat a) + (1 : Int32)) % (3 : Int32) = Int32.ofNat ((a + 1) % 3) := by decide
/-- after the three reaches and the fourth -/
theorem own_four {x0 x1 x2 q : Nat} {D : Nat → Int64} {e r : Int64} {dist4 : Nat → UInt64} (h0 : x0 < 3) (h1 : x1 < 3) (h2 : x2 < 3) (n1 : x0 ≠ x1) (n2 : x0 ≠ x2) (n3 : x1 ≠ x2) (hq : q < 3) (hs : ∀ j, own_S (D j)) (he : own_S e)
    (h : (cmpValue (FP.dcmp (FP.l2d e) (own_up (own_up (own_up (fun _ => own_inf) x0 (FP.l2d (D x0))) x1 (FP.l2d (D x1))) x2 (FP.l2d (D x2)) q)) .g < 0 ∧ dist4 = own_up (own_up (own_up (own_up (fun _ => own_inf) x0 (FP.l2d (D x0))) x1 (FP.l2d (D x1))) x2 (FP.l2d (D x2))) q (FP.l2d e)) ∨ (¬ (cmpValue (FP.dcmp (FP.l2d e) (own_up (own_up (own_up (fun _ => own_inf) x0 (FP.l2d (D x0))) x1 (FP.l2d (D x1))) x2 (FP.l2d (D x2)) q)) .g < 0) ∧ dist4 = own_up (own_up (own_up (fun _ => own_inf) x0 (FP.l2d (D x0))) x1 (FP.l2d (D x1))) x2 (FP.l2d (D x2))))
    (hm : (¬ ((0 : Int32) < (lcmpW (D q) e)) ∧ r = D q) ∨ ((0 : Int32) < (lcmpW (D q) e) ∧ r = e)) : ∀ j, j < 3 → dist4 j = FP.l2d (own_up D q r j) := by
  have d3 : ∀ j, j < 3 → own_up (own_up (own_up (fun _ => own_inf) x0 (FP.l2d (D x0))) x1 (FP.l2d (D x1))) x2 (FP.l2d (D x2)) j = FP.l2d (D j) := by
    intro j hj
    by_cases a : j = x2
    · rw [a, own_up_eq]
    · rw [own_up_ne _ _ a]
      by_cases b : j = x1
      · rw [b, own_up_eq]
      · rw [own_up_ne _ _ b]
        have : j = x0 := by omega
        rw [this, own_up_eq]
  rw [d3 q hq, own_Scmp he (hs q)] at h
  have hm' : ((D q).toInt ≤ e.toInt ∧ r = D q) ∨ (e.toInt < (D q).toInt ∧ r = e) := by
    rcases hm with ⟨a, b⟩ | ⟨a, b⟩
    · refine Or.inl ⟨?_, b⟩
      rw [lw_gt, Int64.lt_iff_toInt_lt] at a; omega
    · exact Or.inr ⟨Int64.lt_iff_toInt_lt.mp ((lw_gt _ _).mp a), b⟩
  intro j hj
  rcases h with ⟨a, b⟩ | ⟨a, b⟩
  · rw [b]
    rcases hm' with ⟨c, -⟩ | ⟨-, c⟩
    · omega
    · rw [c]
      by_cases z : j = q
      · rw [z, own_up_eq, own_up_eq]
      · rw [own_up_ne _ _ z, own_up_ne _ _ z]; exact d3 j hj
  · rw [b, d3 j hj]
    rcases hm' with ⟨-, c⟩ | ⟨c, -⟩
    · rw [c]
      by_cases z : j = q
      · rw [z, own_up_eq]
      · rw [own_up_ne _ _ z]
    · omega
theorem own_D2 {D : Nat → Int64} {q : Nat} {e r : Int64} (hs : ∀ j, own_S (D j)) (he : own_S e) (hm : (¬ ((0 : Int32) < (lcmpW (D q) e)) ∧ r = D q) ∨ ((0 : Int32) < (lcmpW (D q) e) ∧ r = e)) (j : Nat) : own_S (own_up D q r j) := by
  by_cases z : j = q
  · rw [z, own_up_eq]
    rcases hm with ⟨-, c⟩ | ⟨-, c⟩
    · rw [c]; exact hs q
    · rw [c]; exact he
  · rw [own_up_ne _ _ z]; exact hs j
theorem own_opn {x0 x1 x2 : Nat} (n1 : x0 ≠ x1) (n2 : x0 ≠ x2) (n3 : x1 ≠ x2) (h0 : x0 < 3) (h1 : x1 < 3) (h2 : x2 < 3) : own_inj (own_up (own_up (own_up (fun _ => 0) 0 x0) 1 x1) 2 x2) 3 ∧ (∀ j, j < 3 → ∃ k, k < 3 ∧ own_up (own_up (own_up (fun _ => 0) 0 x0) 1 x1) 2 x2 k = j) := by
  have a0 : own_up (own_up (own_up (fun _ => 0) 0 x0) 1 x1) 2 x2 0 = x0 := by unfold own_up; simp
  have a1 : own_up (own_up (own_up (fun _ => 0) 0 x0) 1 x1) 2 x2 1 = x1 := by unfold own_up; simp
  have a2 : own_up (own_up (own_up (fun _ => 0) 0 x0) 1 x1) 2 x2 2 = x2 := by unfold own_up; simp
  refine ⟨?_, ?_⟩
  · intro i k hi hk e
    have ci : i = 0 ∨ i = 1 ∨ i = 2 := by omega
    have ck : k = 0 ∨ k = 1 ∨ k = 2 := by omega
    rcases ci with rfl | rfl | rfl <;> rcases ck with rfl | rfl | rfl <;> first | rfl | (rw [a0, a1] at e; omega) | (rw [a0, a2] at e; omega) | (rw [a1, a0] at e; omega) | (rw [a1, a2] at e; omega) | (rw [a2, a0] at e; omega) | (rw [a2, a1] at e; omega)
  · intro j hj
    have : j = x0 ∨ j = x1 ∨ j = x2 := by omega
    rcases this with rfl | rfl | rfl
    · exact ⟨0, by omega, a0⟩
    · exact ⟨1, by omega, a1⟩
    · exact ⟨2, by omega, a2⟩
theorem ef_0 (m : MethodId) (p1 : Int32) (p2 : Int32) (p3 : Int32) (p4 : Int32) (p5 : Int32) (p6 : Int32) : entryFrame m #[(.int p1), (.int p2), (.int p3), (.int p4), (.int p5), (.int p6)] maxLocals = mkF m 0 #[.val (.int p1), .val (.int p2), .val (.int p3), .val (.int p4), .val (.int p5), .val (.int p6), .unset, .unset, .unset, .unset, .unset, .unset, .unset, .unset, .unset, .unset, .unset, .unset, .unset] [] := by first | (simp [entryFrame, mkF, argsToLocals, Value.category, maxLocals]; done) | rfl
theorem pd__28I_29V : parseMethodDescriptor "(I)V" = some ⟨[.int], none⟩ := by decide +kernel
theorem pd__28ID_29Z : parseMethodDescriptor "(ID)Z" = some ⟨[.int, .double], some .boolean⟩ := by decide +kernel
theorem pd__28JJ_29J : parseMethodDescriptor "(JJ)J" = some ⟨[.long, .long], some .long⟩ := by decide +kernel
theorem pd__28_29I : parseMethodDescriptor "()I" = some ⟨[], some .int⟩ := by decide +kernel
theorem pd__28I_29Z : parseMethodDescriptor "(I)Z" = some ⟨[.int], some .boolean⟩ := by decide +kernel
theorem pd__28_29Z : parseMethodDescriptor "()Z" = some ⟨[], some .boolean⟩ := by decide +kernel
theorem pn_com_example_slotwright_slotwright_exchange_FrontierSettleNearestPinLaw : plainName "com/example/slotwright/slotwright/exchange/FrontierSettleNearestPinLaw" = true := by first | (simp [plainName, overriddenIn]; done) | decide +kernel
def Q0 (Z : State) (p1 : Int32) (p2 : Int32) (p3 : Int32) (p4 : Int32) (p5 : Int32) (p6 : Int32) (h0 : Heap) (n0 : Nat) (v : Option Value) (h : Heap) (L : List Loc) : Prop := v = some (.int (1 : Int32)) ∧ Fr n0 L
set_option maxRecDepth 65536 in
set_option maxHeartbeats 40000000 in
theorem rm0 (l : Launch) (Z : State) (a0 : Array Value) (hw : ∀ d ∈ tables_1, d.before a0 Z = true) (ws : List Jvm.Cond) (p1 : Int32) (p2 : Int32) (p3 : Int32) (p4 : Int32) (p5 : Int32) (p6 : Int32) (h0 : Heap) (n0 : Nat) (Z0 : n0 ≤ h0.size) :
    MetFree l x (head1 (Jvm.Cond.code x code maxLocals ret :: ws) room_1) (fun a U => a = #[(.int p1), (.int p2), (.int p3), (.int p4), (.int p5), (.int p6)] ∧ Z.Warmed39 U.vm ∧ U.heap = h0) (fun _ _ _ _ _ => True) (fun _ U o U' => ∃ v L, o = .returned v ∧ Q0 Z p1 p2 p3 p4 p5 p6 h0 n0 v U'.heap L ∧ FrameEnd U o U' L 24 128) := by
  refine MetFree.of_bodySF (plainFor_of_name pn_com_example_slotwright_slotwright_exchange_FrontierSettleNearestPinLaw) hisR ?_
  intro p e s m args below meth c s₁ Bd hml0 hP hK
  obtain ⟨rfl, hZ, hh⟩ := hP
  have hx := Bd.exec
  have hby := Bd.bytes
  have hml : c.maxLocals = 19 := hml0
  have hown : s.vm.findClass "com/example/slotwright/slotwright/exchange/FrontierSettleNearestPinLaw" = some m.cls := findClass_of_methodNamed Bd.named
  have hnm := (name_of_methodNamed Bd.named Bd.method).1
  have X0 : Stand p l e room_1 s m #[(.int p1), (.int p2), (.int p3), (.int p4), (.int p5), (.int p6)] below meth c s₁ [] 0 0 := Stand.of_body Bd
  have e0 : s₁.heap = h0 := by rw [← hh, Bd.state]; rfl
  have N0 := Fr.nil n0
  have pre0 : ∀ t_, Steps p.tables e below (s₁.setTop (mkF m 0 #[.val (.int p1), .val (.int p2), .val (.int p3), .val (.int p4), .val (.int p5), .val (.int p6), .unset, .unset, .unset, .unset, .unset, .unset, .unset, .unset, .unset, .unset, .unset, .unset, .unset] [])) t_ → Steps p.tables e below (s₁.setTop (entryFrame m #[(.int p1), (.int p2), (.int p3), (.int p4), (.int p5), (.int p6)] maxLocals)) t_ := fun t_ k => castTop (ef_0 m p1 p2 p3 p4 p5 p6) k
  have hsD : ∀ j, own_S ((own_sel p1.toInt64 p2.toInt64 p3.toInt64) j) := own_sels (own_Si p1) (own_Si p2) (own_Si p3)
  have hsE := own_Si p4
  obtain ⟨qq, hq, eq_⟩ := own_k3 p6
  obtain ⟨T101, h101, k101, X101, e101, E101, A101, st101⟩ := newP X0 hx hZ (hw _ (List.mem_of_getElem? (i := 0) rfl)) e0 (g := (mkF m 1 #[.val (.int p1), .val (.int p2), .val (.int p3), .val (.int p4), .val (.int p5), .val (.int p6), .unset, .unset, .unset, .unset, .unset, .unset, .unset, .unset, .unset, .unset, .unset, .unset, .unset] [(.int (3 : Int32))])) rfl (hb hby at_1) rfl (by decide) (cap := 3) (by decide) (by decide) (by decide) (by decide)
  obtain ⟨b101, g101⟩ : ∃ z, z = h0.size := ⟨_, rfl⟩
  rw [← g101] at A101 st101
  have g_b101 : n0 ≤ b101 := Nat.le_trans Z0 (Nat.le_of_eq g101.symm)
  have z102 : n0 ≤ h101.size := Nat.le_trans Z0 E101.1
  have V101 : Arv Z h101 b101 k101 .long (3 : Int32) [(.long (0 : Int64)), (.long (0 : Int64)), (.long (0 : Int64))] (.long (0 : Int64)) := (Arv.new A101 (by decide)).pad (pad_rep [] (.long (0 : Int64)) 3)
  obtain ⟨cl103, Ar103, Q103, S103, M103, H103, G103⟩ := id V101
  have in104 : ¬ ((0 : Int32) < 0 ∨ cl103.slots.size ≤ ((0 : Int32)).toNatClampNeg) := inb_of S103 ⟨by decide, by decide⟩
  obtain ⟨T105, h105, X105, e105, W105, st105⟩ := stJ X101 hx hZ e101 Ar103 (j := (0 : Int32)) in104 (g := (mkF m 7 #[.val (.int p1), .val (.int p2), .val (.int p3), .val (.int p4), .val (.int p5), .val (.int p6), .unset, .unset, .unset, .unset, .unset, .unset, .unset, .unset, .unset, .unset, .unset, .unset, .unset] [(.long (p1.toInt64)), (.int (0 : Int32)), (.ref b101), (.ref b101)])) rfl rfl (hb hby at_7)
  have z106 : n0 ≤ h105.size := Nat.le_trans z102 (Keep.of_wr W105).1
  have V105 : Arv Z h105 b101 k101 .long (3 : Int32) [(.long (p1.toInt64)), (.long (0 : Int64)), (.long (0 : Int64))] (.long (0 : Int64)) := Arv.set Ar103 Q103 S103 M103 H103 G103 rfl W105 0 rfl (Nat.le_of_ble_eq_true rfl)
  have N105 : Fr n0 _ := Fr.snoc X105 N0 g_b101
  obtain ⟨cl107, Ar107, Q107, S107, M107, H107, G107⟩ := id V105
  have in108 : ¬ ((1 : Int32) < 0 ∨ cl107.slots.size ≤ ((1 : Int32)).toNatClampNeg) := inb_of S107 ⟨by decide, by decide⟩
  obtain ⟨T109, h109, X109, e109, W109, st109⟩ := stJ X105 hx hZ e105 Ar107 (j := (1 : Int32)) in108 (g := (mkF m 12 #[.val (.int p1), .val (.int p2), .val (.int p3), .val (.int p4), .val (.int p5), .val (.int p6), .unset, .unset, .unset, .unset, .unset, .unset, .unset, .unset, .unset, .unset, .unset, .unset, .unset] [(.long (p2.toInt64)), (.int (1 : Int32)), (.ref b101), (.ref b101)])) rfl rfl (hb hby at_12)
  have z110 : n0 ≤ h109.size := Nat.le_trans z106 (Keep.of_wr W109).1
  have V109 : Arv Z h109 b101 k101 .long (3 : Int32) [(.long (p1.toInt64)), (.long (p2.toInt64)), (.long (0 : Int64))] (.long (0 : Int64)) := Arv.set Ar107 Q107 S107 M107 H107 G107 rfl W109 1 rfl (Nat.le_of_ble_eq_true rfl)
  have N109 : Fr n0 _ := Fr.snoc X109 N105 g_b101
  obtain ⟨cl111, Ar111, Q111, S111, M111, H111, G111⟩ := id V109
  have in112 : ¬ ((2 : Int32) < 0 ∨ cl111.slots.size ≤ ((2 : Int32)).toNatClampNeg) := inb_of S111 ⟨by decide, by decide⟩
  obtain ⟨T113, h113, X113, e113, W113, st113⟩ := stJ X109 hx hZ e109 Ar111 (j := (2 : Int32)) in112 (g := (mkF m 17 #[.val (.int p1), .val (.int p2), .val (.int p3), .val (.int p4), .val (.int p5), .val (.int p6), .unset, .unset, .unset, .unset, .unset, .unset, .unset, .unset, .unset, .unset, .unset, .unset, .unset] [(.long (p3.toInt64)), (.int (2 : Int32)), (.ref b101), (.ref b101)])) rfl rfl (hb hby at_17)
  have z114 : n0 ≤ h113.size := Nat.le_trans z110 (Keep.of_wr W113).1
  have V113 : Arv Z h113 b101 k101 .long (3 : Int32) [(.long (p1.toInt64)), (.long (p2.toInt64)), (.long (p3.toInt64))] (.long (0 : Int64)) := Arv.set Ar111 Q111 S111 M111 H111 G111 rfl W113 2 rfl (Nat.le_of_ble_eq_true rfl)
  have N113 : Fr n0 _ := Fr.snoc X113 N109 g_b101
  have r115 : Arv Z h113 b101 k101 .long (3 : Int32) (own_LJ (own_sel p1.toInt64 p2.toInt64 p3.toInt64) 3) (.long (0 : Int64)) := V113
  have pre116 : ∀ t_, Steps p.tables e below (T113.setTop (mkF m 20 #[.val (.int p1), .val (.int p2), .val (.int p3), .val (.int p4), .val (.int p5), .val (.int p6), .val (.ref b101), .unset, .unset, .unset, .unset, .unset, .unset, .unset, .unset, .unset, .unset, .unset, .unset] [])) t_ → Steps p.tables e below (s₁.setTop (entryFrame m #[(.int p1), (.int p2), (.int p3), (.int p4), (.int p5), (.int p6)] maxLocals)) t_ := fun t_ kt => pre0 t_ (by
      show Steps p.tables e below (s₁.setTop (mkF m 0 #[.val (.int p1), .val (.int p2), .val (.int p3), .val (.int p4), .val (.int p5), .val (.int p6), .unset, .unset, .unset, .unset, .unset, .unset, .unset, .unset, .unset, .unset, .unset, .unset, .unset] [])) _
      refine XS.iconst X0.here hx rfl (hb hby at_0) ?_
      show Steps p.tables e below (s₁.setTop (mkF m 1 #[.val (.int p1), .val (.int p2), .val (.int p3), .val (.int p4), .val (.int p5), .val (.int p6), .unset, .unset, .unset, .unset, .unset, .unset, .unset, .unset, .unset, .unset, .unset, .unset, .unset] [(.int (3 : Int32))])) _
      refine st101 _ ?_
      show Steps p.tables e below (T101.setTop (mkF m 3 #[.val (.int p1), .val (.int p2), .val (.int p3), .val (.int p4), .val (.int p5), .val (.int p6), .unset, .unset, .unset, .unset, .unset, .unset, .unset, .unset, .unset, .unset, .unset, .unset, .unset] [(.ref b101)])) _
      refine XS.dup X101.here hx rfl (hb hby at_3) rfl rfl ?_
      show Steps p.tables e below (T101.setTop (mkF m 4 #[.val (.int p1), .val (.int p2), .val (.int p3), .val (.int p4), .val (.int p5), .val (.int p6), .unset, .unset, .unset, .unset, .unset, .unset, .unset, .unset, .unset, .unset, .unset, .unset, .unset] [(.ref b101), (.ref b101)])) _
      refine XS.iconst X101.here hx rfl (hb hby at_4) ?_
      show Steps p.tables e below (T101.setTop (mkF m 5 #[.val (.int p1), .val (.int p2), .val (.int p3), .val (.int p4), .val (.int p5), .val (.int p6), .unset, .unset, .unset, .unset, .unset, .unset, .unset, .unset, .unset, .unset, .unset, .unset, .unset] [(.int (0 : Int32)), (.ref b101), (.ref b101)])) _
      refine XS.iloadN X101.here hx rfl (hb hby at_5) rfl ?_
      show Steps p.tables e below (T101.setTop (mkF m 6 #[.val (.int p1), .val (.int p2), .val (.int p3), .val (.int p4), .val (.int p5), .val (.int p6), .unset, .unset, .unset, .unset, .unset, .unset, .unset, .unset, .unset, .unset, .unset, .unset, .unset] [(.int p1), (.int (0 : Int32)), (.ref b101), (.ref b101)])) _
      refine XS.i2l X101.here hx rfl (hb hby at_6) rfl ?_
      show Steps p.tables e below (T101.setTop (mkF m 7 #[.val (.int p1), .val (.int p2), .val (.int p3), .val (.int p4), .val (.int p5), .val (.int p6), .unset, .unset, .unset, .unset, .unset, .unset, .unset, .unset, .unset, .unset, .unset, .unset, .unset] [(.long (p1.toInt64)), (.int (0 : Int32)), (.ref b101), (.ref b101)])) _
      refine st105 _ ?_
      show Steps p.tables e below (T105.setTop (mkF m 8 #[.val (.int p1), .val (.int p2), .val (.int p3), .val (.int p4), .val (.int p5), .val (.int p6), .unset, .unset, .unset, .unset, .unset, .unset, .unset, .unset, .unset, .unset, .unset, .unset, .unset] [(.ref b101)])) _
      refine XS.dup X105.here hx rfl (hb hby at_8) rfl rfl ?_
      show Steps p.tables e below (T105.setTop (mkF m 9 #[.val (.int p1), .val (.int p2), .val (.int p3), .val (.int p4), .val (.int p5), .val (.int p6), .unset, .unset, .unset, .unset, .unset, .unset, .unset, .unset, .unset, .unset, .unset, .unset, .unset] [(.ref b101), (.ref b101)])) _
      refine XS.iconst X105.here hx rfl (hb hby at_9) ?_
      show Steps p.tables e below (T105.setTop (mkF m 10 #[.val (.int p1), .val (.int p2), .val (.int p3), .val (.int p4), .val (.int p5), .val (.int p6), .unset, .unset, .unset, .unset, .unset, .unset, .unset, .unset, .unset, .unset, .unset, .unset, .unset] [(.int (1 : Int32)), (.ref b101), (.ref b101)])) _
      refine XS.iloadN X105.here hx rfl (hb hby at_10) rfl ?_
      show Steps p.tables e below (T105.setTop (mkF m 11 #[.val (.int p1), .val (.int p2), .val (.int p3), .val (.int p4), .val (.int p5), .val (.int p6), .unset, .unset, .unset, .unset, .unset, .unset, .unset, .unset, .unset, .unset, .unset, .unset, .unset] [(.int p2), (.int (1 : Int32)), (.ref b101), (.ref b101)])) _
      refine XS.i2l X105.here hx rfl (hb hby at_11) rfl ?_
      show Steps p.tables e below (T105.setTop (mkF m 12 #[.val (.int p1), .val (.int p2), .val (.int p3), .val (.int p4), .val (.int p5), .val (.int p6), .unset, .unset, .unset, .unset, .unset, .unset, .unset, .unset, .unset, .unset, .unset, .unset, .unset] [(.long (p2.toInt64)), (.int (1 : Int32)), (.ref b101), (.ref b101)])) _
      refine st109 _ ?_
      show Steps p.tables e below (T109.setTop (mkF m 13 #[.val (.int p1), .val (.int p2), .val (.int p3), .val (.int p4), .val (.int p5), .val (.int p6), .unset, .unset, .unset, .unset, .unset, .unset, .unset, .unset, .unset, .unset, .unset, .unset, .unset] [(.ref b101)])) _
      refine XS.dup X109.here hx rfl (hb hby at_13) rfl rfl ?_
      show Steps p.tables e below (T109.setTop (mkF m 14 #[.val (.int p1), .val (.int p2), .val (.int p3), .val (.int p4), .val (.int p5), .val (.int p6), .unset, .unset, .unset, .unset, .unset, .unset, .unset, .unset, .unset, .unset, .unset, .unset, .unset] [(.ref b101), (.ref b101)])) _
      refine XS.iconst X109.here hx rfl (hb hby at_14) ?_
      show Steps p.tables e below (T109.setTop (mkF m 15 #[.val (.int p1), .val (.int p2), .val (.int p3), .val (.int p4), .val (.int p5), .val (.int p6), .unset, .unset, .unset, .unset, .unset, .unset, .unset, .unset, .unset, .unset, .unset, .unset, .unset] [(.int (2 : Int32)), (.ref b101), (.ref b101)])) _
      refine XS.iloadN X109.here hx rfl (hb hby at_15) rfl ?_
      show Steps p.tables e below (T109.setTop (mkF m 16 #[.val (.int p1), .val (.int p2), .val (.int p3), .val (.int p4), .val (.int p5), .val (.int p6), .unset, .unset, .unset, .unset, .unset, .unset, .unset, .unset, .unset, .unset, .unset, .unset, .unset] [(.int p3), (.int (2 : Int32)), (.ref b101), (.ref b101)])) _
      refine XS.i2l X109.here hx rfl (hb hby at_16) rfl ?_
      show Steps p.tables e below (T109.setTop (mkF m 17 #[.val (.int p1), .val (.int p2), .val (.int p3), .val (.int p4), .val (.int p5), .val (.int p6), .unset, .unset, .unset, .unset, .unset, .unset, .unset, .unset, .unset, .unset, .unset, .unset, .unset] [(.long (p3.toInt64)), (.int (2 : Int32)), (.ref b101), (.ref b101)])) _
      refine st113 _ ?_
      show Steps p.tables e below (T113.setTop (mkF m 18 #[.val (.int p1), .val (.int p2), .val (.int p3), .val (.int p4), .val (.int p5), .val (.int p6), .unset, .unset, .unset, .unset, .unset, .unset, .unset, .unset, .unset, .unset, .unset, .unset, .unset] [(.ref b101)])) _
      refine XS.astore X113.here hx rfl (hb hby at_18) rfl rfl (l' := #[.val (.int p1), .val (.int p2), .val (.int p3), .val (.int p4), .val (.int p5), .val (.int p6), .val (.ref b101), .unset, .unset, .unset, .unset, .unset, .unset, .unset, .unset, .unset, .unset, .unset, .unset]) rfl ?_
      exact kt)
  obtain ⟨r_, o1_, o2_, x0, x1, x2, hx3, pre117⟩ : ∃ (r_ : Int32) (o1_ : Int32) (o2_ : Int32) (x0 : Nat) (x1 : Nat) (x2 : Nat), (x0 < 3 ∧ x1 < 3 ∧ x2 < 3 ∧ x0 ≠ x1 ∧ x0 ≠ x2 ∧ x1 ≠ x2) ∧ ∀ t_, Steps p.tables e below (T113.setTop (mkF m 85 #[.val (.int p1), .val (.int p2), .val (.int p3), .val (.int p4), .val (.int p5), .val (.int p6), .val (.ref b101), .val (.int r_), .val (.int (Int32.ofNat x0)), .val (.int o1_), .val (.int o2_), .val (.int (Int32.ofNat x1)), .val (.int (Int32.ofNat x2)), .unset, .unset, .unset, .unset, .unset, .unset] [])) t_ → Steps p.tables e below (s₁.setTop (entryFrame m #[(.int p1), (.int p2), (.int p3), (.int p4), (.int p5), (.int p6)] maxLocals)) t_ := by
    rcases own_k6 p5 with hk | hk | hk | hk | hk | hk
    · skip
      have pre118 : ∀ t_, Steps p.tables e below (T113.setTop (mkF m 85 #[.val (.int p1), .val (.int p2), .val (.int p3), .val (.int p4), .val (.int p5), .val (.int p6), .val (.ref b101), .val (.int (0 : Int32)), .val (.int (0 : Int32)), .val (.int (1 : Int32)), .val (.int (2 : Int32)), .val (.int (1 : Int32)), .val (.int (2 : Int32)), .unset, .unset, .unset, .unset, .unset, .unset] [])) t_ → Steps p.tables e below (s₁.setTop (entryFrame m #[(.int p1), (.int p2), (.int p3), (.int p4), (.int p5), (.int p6)] maxLocals)) t_ := fun t_ kt => pre116 t_ (by
          show Steps p.tables e below (T113.setTop (mkF m 20 #[.val (.int p1), .val (.int p2), .val (.int p3), .val (.int p4), .val (.int p5), .val (.int p6), .val (.ref b101), .unset, .unset, .unset, .unset, .unset, .unset, .unset, .unset, .unset, .unset, .unset, .unset] [])) _
          refine XS.iload X113.here hx rfl (hb hby at_20) rfl ?_
          show Steps p.tables e below (T113.setTop (mkF m 22 #[.val (.int p1), .val (.int p2), .val (.int p3), .val (.int p4), .val (.int p5), .val (.int p6), .val (.ref b101), .unset, .unset, .unset, .unset, .unset, .unset, .unset, .unset, .unset, .unset, .unset, .unset] [(.int p5)])) _
          refine X113.ldcInt hx hown (mvT hZ (hw _ (List.mem_of_getElem? (i := 1) rfl))) (g := (mkF m 22 #[.val (.int p1), .val (.int p2), .val (.int p3), .val (.int p4), .val (.int p5), .val (.int p6), .val (.ref b101), .unset, .unset, .unset, .unset, .unset, .unset, .unset, .unset, .unset, .unset, .unset, .unset] [(.int p5)])) rfl (hb hby at_22) _ ?_
          show Steps p.tables e below (T113.setTop (mkF m 24 #[.val (.int p1), .val (.int p2), .val (.int p3), .val (.int p4), .val (.int p5), .val (.int p6), .val (.ref b101), .unset, .unset, .unset, .unset, .unset, .unset, .unset, .unset, .unset, .unset, .unset, .unset] [(.int (2147483647 : Int32)), (.int p5)])) _
          refine XS.iand X113.here hx rfl (hb hby at_24) rfl ?_
          show Steps p.tables e below (T113.setTop (mkF m 25 #[.val (.int p1), .val (.int p2), .val (.int p3), .val (.int p4), .val (.int p5), .val (.int p6), .val (.ref b101), .unset, .unset, .unset, .unset, .unset, .unset, .unset, .unset, .unset, .unset, .unset, .unset] [(.int (p5 &&& (2147483647 : Int32)))])) _
          refine XS.bipush X113.here hx rfl (hb hby at_25) ?_
          show Steps p.tables e below (T113.setTop (mkF m 27 #[.val (.int p1), .val (.int p2), .val (.int p3), .val (.int p4), .val (.int p5), .val (.int p6), .val (.ref b101), .unset, .unset, .unset, .unset, .unset, .unset, .unset, .unset, .unset, .unset, .unset, .unset] [(.int (6 : Int32)), (.int (p5 &&& (2147483647 : Int32)))])) _
          refine iremM X113 hx rfl (hb hby at_27) rfl (by decide) ?_
          show Steps p.tables e below (T113.setTop (mkF m 28 #[.val (.int p1), .val (.int p2), .val (.int p3), .val (.int p4), .val (.int p5), .val (.int p6), .val (.ref b101), .unset, .unset, .unset, .unset, .unset, .unset, .unset, .unset, .unset, .unset, .unset, .unset] [(.int ((p5 &&& (2147483647 : Int32)) % (6 : Int32)))])) _
          rw [hk]
          show Steps p.tables e below (T113.setTop (mkF m 28 #[.val (.int p1), .val (.int p2), .val (.int p3), .val (.int p4), .val (.int p5), .val (.int p6), .val (.ref b101), .unset, .unset, .unset, .unset, .unset, .unset, .unset, .unset, .unset, .unset, .unset, .unset] [(.int (0 : Int32))])) _
          refine XS.istore X113.here hx rfl (hb hby at_28) rfl (l' := #[.val (.int p1), .val (.int p2), .val (.int p3), .val (.int p4), .val (.int p5), .val (.int p6), .val (.ref b101), .val (.int (0 : Int32)), .unset, .unset, .unset, .unset, .unset, .unset, .unset, .unset, .unset, .unset, .unset]) rfl ?_
          show Steps p.tables e below (T113.setTop (mkF m 30 #[.val (.int p1), .val (.int p2), .val (.int p3), .val (.int p4), .val (.int p5), .val (.int p6), .val (.ref b101), .val (.int (0 : Int32)), .unset, .unset, .unset, .unset, .unset, .unset, .unset, .unset, .unset, .unset, .unset] [])) _
          refine XS.iload X113.here hx rfl (hb hby at_30) rfl ?_
          show Steps p.tables e below (T113.setTop (mkF m 32 #[.val (.int p1), .val (.int p2), .val (.int p3), .val (.int p4), .val (.int p5), .val (.int p6), .val (.ref b101), .val (.int (0 : Int32)), .unset, .unset, .unset, .unset, .unset, .unset, .unset, .unset, .unset, .unset, .unset] [(.int (0 : Int32))])) _
          refine XS.iconst X113.here hx rfl (hb hby at_32) ?_
          show Steps p.tables e below (T113.setTop (mkF m 33 #[.val (.int p1), .val (.int p2), .val (.int p3), .val (.int p4), .val (.int p5), .val (.int p6), .val (.ref b101), .val (.int (0 : Int32)), .unset, .unset, .unset, .unset, .unset, .unset, .unset, .unset, .unset, .unset, .unset] [(.int (2 : Int32)), (.int (0 : Int32))])) _
          refine XS.idiv X113.here hx rfl (hb hby at_33) rfl (by decide) ?_
          show Steps p.tables e below (T113.setTop (mkF m 34 #[.val (.int p1), .val (.int p2), .val (.int p3), .val (.int p4), .val (.int p5), .val (.int p6), .val (.ref b101), .val (.int (0 : Int32)), .unset, .unset, .unset, .unset, .unset, .unset, .unset, .unset, .unset, .unset, .unset] [(.int ((0 : Int32) / (2 : Int32)))])) _
          rw [(by decide : ((0 : Int32) / (2 : Int32)) = (0 : Int32))]
          show Steps p.tables e below (T113.setTop (mkF m 34 #[.val (.int p1), .val (.int p2), .val (.int p3), .val (.int p4), .val (.int p5), .val (.int p6), .val (.ref b101), .val (.int (0 : Int32)), .unset, .unset, .unset, .unset, .unset, .unset, .unset, .unset, .unset, .unset, .unset] [(.int (0 : Int32))])) _
          refine XS.istore X113.here hx rfl (hb hby at_34) rfl (l' := #[.val (.int p1), .val (.int p2), .val (.int p3), .val (.int p4), .val (.int p5), .val (.int p6), .val (.ref b101), .val (.int (0 : Int32)), .val (.int (0 : Int32)), .unset, .unset, .unset, .unset, .unset, .unset, .unset, .unset, .unset, .unset]) rfl ?_
          show Steps p.tables e below (T113.setTop (mkF m 36 #[.val (.int p1), .val (.int p2), .val (.int p3), .val (.int p4), .val (.int p5), .val (.int p6), .val (.ref b101), .val (.int (0 : Int32)), .val (.int (0 : Int32)), .unset, .unset, .unset, .unset, .unset, .unset, .unset, .unset, .unset, .unset] [])) _
          refine XS.iload X113.here hx rfl (hb hby at_36) rfl ?_
          show Steps p.tables e below (T113.setTop (mkF m 38 #[.val (.int p1), .val (.int p2), .val (.int p3), .val (.int p4), .val (.int p5), .val (.int p6), .val (.ref b101), .val (.int (0 : Int32)), .val (.int (0 : Int32)), .unset, .unset, .unset, .unset, .unset, .unset, .unset, .unset, .unset, .unset] [(.int (0 : Int32))])) _
          refine XS.ifNo X113.here hx rfl (hb hby at_38) rfl ((if0 _ _).trans (teq ((by decide) : (0 : Int32) = (0 : Int32))).2) ?_
          show Steps p.tables e below (T113.setTop (mkF m 41 #[.val (.int p1), .val (.int p2), .val (.int p3), .val (.int p4), .val (.int p5), .val (.int p6), .val (.ref b101), .val (.int (0 : Int32)), .val (.int (0 : Int32)), .unset, .unset, .unset, .unset, .unset, .unset, .unset, .unset, .unset, .unset] [])) _
          refine XS.iconst X113.here hx rfl (hb hby at_41) ?_
          show Steps p.tables e below (T113.setTop (mkF m 42 #[.val (.int p1), .val (.int p2), .val (.int p3), .val (.int p4), .val (.int p5), .val (.int p6), .val (.ref b101), .val (.int (0 : Int32)), .val (.int (0 : Int32)), .unset, .unset, .unset, .unset, .unset, .unset, .unset, .unset, .unset, .unset] [(.int (1 : Int32))])) _
          refine XS.goto X113.here hx rfl (pc0 := 42) (pc' := 46) rfl (hb hby at_42) (by decide) (by decide) ?_
          show Steps p.tables e below (T113.setTop (mkF m 46 #[.val (.int p1), .val (.int p2), .val (.int p3), .val (.int p4), .val (.int p5), .val (.int p6), .val (.ref b101), .val (.int (0 : Int32)), .val (.int (0 : Int32)), .unset, .unset, .unset, .unset, .unset, .unset, .unset, .unset, .unset, .unset] [(.int (1 : Int32))])) _
          refine XS.istore X113.here hx rfl (hb hby at_46) rfl (l' := #[.val (.int p1), .val (.int p2), .val (.int p3), .val (.int p4), .val (.int p5), .val (.int p6), .val (.ref b101), .val (.int (0 : Int32)), .val (.int (0 : Int32)), .val (.int (1 : Int32)), .unset, .unset, .unset, .unset, .unset, .unset, .unset, .unset, .unset]) rfl ?_
          show Steps p.tables e below (T113.setTop (mkF m 48 #[.val (.int p1), .val (.int p2), .val (.int p3), .val (.int p4), .val (.int p5), .val (.int p6), .val (.ref b101), .val (.int (0 : Int32)), .val (.int (0 : Int32)), .val (.int (1 : Int32)), .unset, .unset, .unset, .unset, .unset, .unset, .unset, .unset, .unset] [])) _
          refine XS.iload X113.here hx rfl (hb hby at_48) rfl ?_
          show Steps p.tables e below (T113.setTop (mkF m 50 #[.val (.int p1), .val (.int p2), .val (.int p3), .val (.int p4), .val (.int p5), .val (.int p6), .val (.ref b101), .val (.int (0 : Int32)), .val (.int (0 : Int32)), .val (.int (1 : Int32)), .unset, .unset, .unset, .unset, .unset, .unset, .unset, .unset, .unset] [(.int (0 : Int32))])) _
          refine XS.iconst X113.here hx rfl (hb hby at_50) ?_
          show Steps p.tables e below (T113.setTop (mkF m 51 #[.val (.int p1), .val (.int p2), .val (.int p3), .val (.int p4), .val (.int p5), .val (.int p6), .val (.ref b101), .val (.int (0 : Int32)), .val (.int (0 : Int32)), .val (.int (1 : Int32)), .unset, .unset, .unset, .unset, .unset, .unset, .unset, .unset, .unset] [(.int (2 : Int32)), (.int (0 : Int32))])) _
          refine XS.icmpYes X113.here hx rfl (pc0 := 51) (pc' := 58) rfl (hb hby at_51) rfl (feq ((by decide) : ¬ ((0 : Int32) = (2 : Int32)))).2 (by decide) (by decide) ?_
          show Steps p.tables e below (T113.setTop (mkF m 58 #[.val (.int p1), .val (.int p2), .val (.int p3), .val (.int p4), .val (.int p5), .val (.int p6), .val (.ref b101), .val (.int (0 : Int32)), .val (.int (0 : Int32)), .val (.int (1 : Int32)), .unset, .unset, .unset, .unset, .unset, .unset, .unset, .unset, .unset] [])) _
          refine XS.iconst X113.here hx rfl (hb hby at_58) ?_
          show Steps p.tables e below (T113.setTop (mkF m 59 #[.val (.int p1), .val (.int p2), .val (.int p3), .val (.int p4), .val (.int p5), .val (.int p6), .val (.ref b101), .val (.int (0 : Int32)), .val (.int (0 : Int32)), .val (.int (1 : Int32)), .unset, .unset, .unset, .unset, .unset, .unset, .unset, .unset, .unset] [(.int (2 : Int32))])) _
          refine XS.istore X113.here hx rfl (hb hby at_59) rfl (l' := #[.val (.int p1), .val (.int p2), .val (.int p3), .val (.int p4), .val (.int p5), .val (.int p6), .val (.ref b101), .val (.int (0 : Int32)), .val (.int (0 : Int32)), .val (.int (1 : Int32)), .val (.int (2 : Int32)), .unset, .unset, .unset, .unset, .unset, .unset, .unset, .unset]) rfl ?_
          show Steps p.tables e below (T113.setTop (mkF m 61 #[.val (.int p1), .val (.int p2), .val (.int p3), .val (.int p4), .val (.int p5), .val (.int p6), .val (.ref b101), .val (.int (0 : Int32)), .val (.int (0 : Int32)), .val (.int (1 : Int32)), .val (.int (2 : Int32)), .unset, .unset, .unset, .unset, .unset, .unset, .unset, .unset] [])) _
          refine XS.iload X113.here hx rfl (hb hby at_61) rfl ?_
          show Steps p.tables e below (T113.setTop (mkF m 63 #[.val (.int p1), .val (.int p2), .val (.int p3), .val (.int p4), .val (.int p5), .val (.int p6), .val (.ref b101), .val (.int (0 : Int32)), .val (.int (0 : Int32)), .val (.int (1 : Int32)), .val (.int (2 : Int32)), .unset, .unset, .unset, .unset, .unset, .unset, .unset, .unset] [(.int (1 : Int32))])) _
          refine XS.istore X113.here hx rfl (hb hby at_63) rfl (l' := #[.val (.int p1), .val (.int p2), .val (.int p3), .val (.int p4), .val (.int p5), .val (.int p6), .val (.ref b101), .val (.int (0 : Int32)), .val (.int (0 : Int32)), .val (.int (1 : Int32)), .val (.int (2 : Int32)), .val (.int (1 : Int32)), .unset, .unset, .unset, .unset, .unset, .unset, .unset]) rfl ?_
          show Steps p.tables e below (T113.setTop (mkF m 65 #[.val (.int p1), .val (.int p2), .val (.int p3), .val (.int p4), .val (.int p5), .val (.int p6), .val (.ref b101), .val (.int (0 : Int32)), .val (.int (0 : Int32)), .val (.int (1 : Int32)), .val (.int (2 : Int32)), .val (.int (1 : Int32)), .unset, .unset, .unset, .unset, .unset, .unset, .unset] [])) _
          refine XS.iload X113.here hx rfl (hb hby at_65) rfl ?_
          show Steps p.tables e below (T113.setTop (mkF m 67 #[.val (.int p1), .val (.int p2), .val (.int p3), .val (.int p4), .val (.int p5), .val (.int p6), .val (.ref b101), .val (.int (0 : Int32)), .val (.int (0 : Int32)), .val (.int (1 : Int32)), .val (.int (2 : Int32)), .val (.int (1 : Int32)), .unset, .unset, .unset, .unset, .unset, .unset, .unset] [(.int (2 : Int32))])) _
          refine XS.istore X113.here hx rfl (hb hby at_67) rfl (l' := #[.val (.int p1), .val (.int p2), .val (.int p3), .val (.int p4), .val (.int p5), .val (.int p6), .val (.ref b101), .val (.int (0 : Int32)), .val (.int (0 : Int32)), .val (.int (1 : Int32)), .val (.int (2 : Int32)), .val (.int (1 : Int32)), .val (.int (2 : Int32)), .unset, .unset, .unset, .unset, .unset, .unset]) rfl ?_
          show Steps p.tables e below (T113.setTop (mkF m 69 #[.val (.int p1), .val (.int p2), .val (.int p3), .val (.int p4), .val (.int p5), .val (.int p6), .val (.ref b101), .val (.int (0 : Int32)), .val (.int (0 : Int32)), .val (.int (1 : Int32)), .val (.int (2 : Int32)), .val (.int (1 : Int32)), .val (.int (2 : Int32)), .unset, .unset, .unset, .unset, .unset, .unset] [])) _
          refine XS.iload X113.here hx rfl (hb hby at_69) rfl ?_
          show Steps p.tables e below (T113.setTop (mkF m 71 #[.val (.int p1), .val (.int p2), .val (.int p3), .val (.int p4), .val (.int p5), .val (.int p6), .val (.ref b101), .val (.int (0 : Int32)), .val (.int (0 : Int32)), .val (.int (1 : Int32)), .val (.int (2 : Int32)), .val (.int (1 : Int32)), .val (.int (2 : Int32)), .unset, .unset, .unset, .unset, .unset, .unset] [(.int (0 : Int32))])) _
          refine XS.iconst X113.here hx rfl (hb hby at_71) ?_
          show Steps p.tables e below (T113.setTop (mkF m 72 #[.val (.int p1), .val (.int p2), .val (.int p3), .val (.int p4), .val (.int p5), .val (.int p6), .val (.ref b101), .val (.int (0 : Int32)), .val (.int (0 : Int32)), .val (.int (1 : Int32)), .val (.int (2 : Int32)), .val (.int (1 : Int32)), .val (.int (2 : Int32)), .unset, .unset, .unset, .unset, .unset, .unset] [(.int (1 : Int32)), (.int (0 : Int32))])) _
          refine XS.iand X113.here hx rfl (hb hby at_72) rfl ?_
          show Steps p.tables e below (T113.setTop (mkF m 73 #[.val (.int p1), .val (.int p2), .val (.int p3), .val (.int p4), .val (.int p5), .val (.int p6), .val (.ref b101), .val (.int (0 : Int32)), .val (.int (0 : Int32)), .val (.int (1 : Int32)), .val (.int (2 : Int32)), .val (.int (1 : Int32)), .val (.int (2 : Int32)), .unset, .unset, .unset, .unset, .unset, .unset] [(.int ((0 : Int32) &&& (1 : Int32)))])) _
          rw [(by decide : ((0 : Int32) &&& (1 : Int32)) = (0 : Int32))]
          show Steps p.tables e below (T113.setTop (mkF m 73 #[.val (.int p1), .val (.int p2), .val (.int p3), .val (.int p4), .val (.int p5), .val (.int p6), .val (.ref b101), .val (.int (0 : Int32)), .val (.int (0 : Int32)), .val (.int (1 : Int32)), .val (.int (2 : Int32)), .val (.int (1 : Int32)), .val (.int (2 : Int32)), .unset, .unset, .unset, .unset, .unset, .unset] [(.int (0 : Int32))])) _
          refine XS.iconst X113.here hx rfl (hb hby at_73) ?_
          show Steps p.tables e below (T113.setTop (mkF m 74 #[.val (.int p1), .val (.int p2), .val (.int p3), .val (.int p4), .val (.int p5), .val (.int p6), .val (.ref b101), .val (.int (0 : Int32)), .val (.int (0 : Int32)), .val (.int (1 : Int32)), .val (.int (2 : Int32)), .val (.int (1 : Int32)), .val (.int (2 : Int32)), .unset, .unset, .unset, .unset, .unset, .unset] [(.int (1 : Int32)), (.int (0 : Int32))])) _
          refine XS.icmpYes X113.here hx rfl (pc0 := 74) (pc' := 85) rfl (hb hby at_74) rfl (feq ((by decide) : ¬ ((0 : Int32) = (1 : Int32)))).2 (by decide) (by decide) ?_
          exact kt)
      exact ⟨(0 : Int32), (1 : Int32), (2 : Int32), 0, 1, 2, (by decide), pre118⟩
    · skip
      have pre119 : ∀ t_, Steps p.tables e below (T113.setTop (mkF m 85 #[.val (.int p1), .val (.int p2), .val (.int p3), .val (.int p4), .val (.int p5), .val (.int p6), .val (.ref b101), .val (.int (1 : Int32)), .val (.int (0 : Int32)), .val (.int (1 : Int32)), .val (.int (2 : Int32)), .val (.int (2 : Int32)), .val (.int (1 : Int32)), .unset, .unset, .unset, .unset, .unset, .unset] [])) t_ → Steps p.tables e below (s₁.setTop (entryFrame m #[(.int p1), (.int p2), (.int p3), (.int p4), (.int p5), (.int p6)] maxLocals)) t_ := fun t_ kt => pre116 t_ (by
          show Steps p.tables e below (T113.setTop (mkF m 20 #[.val (.int p1), .val (.int p2), .val (.int p3), .val (.int p4), .val (.int p5), .val (.int p6), .val (.ref b101), .unset, .unset, .unset, .unset, .unset, .unset, .unset, .unset, .unset, .unset, .unset, .unset] [])) _
          refine XS.iload X113.here hx rfl (hb hby at_20) rfl ?_
          show Steps p.tables e below (T113.setTop (mkF m 22 #[.val (.int p1), .val (.int p2), .val (.int p3), .val (.int p4), .val (.int p5), .val (.int p6), .val (.ref b101), .unset, .unset, .unset, .unset, .unset, .unset, .unset, .unset, .unset, .unset, .unset, .unset] [(.int p5)])) _
          refine X113.ldcInt hx hown (mvT hZ (hw _ (List.mem_of_getElem? (i := 1) rfl))) (g := (mkF m 22 #[.val (.int p1), .val (.int p2), .val (.int p3), .val (.int p4), .val (.int p5), .val (.int p6), .val (.ref b101), .unset, .unset, .unset, .unset, .unset, .unset, .unset, .unset, .unset, .unset, .unset, .unset] [(.int p5)])) rfl (hb hby at_22) _ ?_
          show Steps p.tables e below (T113.setTop (mkF m 24 #[.val (.int p1), .val (.int p2), .val (.int p3), .val (.int p4), .val (.int p5), .val (.int p6), .val (.ref b101), .unset, .unset, .unset, .unset, .unset, .unset, .unset, .unset, .unset, .unset, .unset, .unset] [(.int (2147483647 : Int32)), (.int p5)])) _
          refine XS.iand X113.here hx rfl (hb hby at_24) rfl ?_
          show Steps p.tables e below (T113.setTop (mkF m 25 #[.val (.int p1), .val (.int p2), .val (.int p3), .val (.int p4), .val (.int p5), .val (.int p6), .val (.ref b101), .unset, .unset, .unset, .unset, .unset, .unset, .unset, .unset, .unset, .unset, .unset, .unset] [(.int (p5 &&& (2147483647 : Int32)))])) _
          refine XS.bipush X113.here hx rfl (hb hby at_25) ?_
          show Steps p.tables e below (T113.setTop (mkF m 27 #[.val (.int p1), .val (.int p2), .val (.int p3), .val (.int p4), .val (.int p5), .val (.int p6), .val (.ref b101), .unset, .unset, .unset, .unset, .unset, .unset, .unset, .unset, .unset, .unset, .unset, .unset] [(.int (6 : Int32)), (.int (p5 &&& (2147483647 : Int32)))])) _
          refine iremM X113 hx rfl (hb hby at_27) rfl (by decide) ?_
          show Steps p.tables e below (T113.setTop (mkF m 28 #[.val (.int p1), .val (.int p2), .val (.int p3), .val (.int p4), .val (.int p5), .val (.int p6), .val (.ref b101), .unset, .unset, .unset, .unset, .unset, .unset, .unset, .unset, .unset, .unset, .unset, .unset] [(.int ((p5 &&& (2147483647 : Int32)) % (6 : Int32)))])) _
          rw [hk]
          show Steps p.tables e below (T113.setTop (mkF m 28 #[.val (.int p1), .val (.int p2), .val (.int p3), .val (.int p4), .val (.int p5), .val (.int p6), .val (.ref b101), .unset, .unset, .unset, .unset, .unset, .unset, .unset, .unset, .unset, .unset, .unset, .unset] [(.int (1 : Int32))])) _
          refine XS.istore X113.here hx rfl (hb hby at_28) rfl (l' := #[.val (.int p1), .val (.int p2), .val (.int p3), .val (.int p4), .val (.int p5), .val (.int p6), .val (.ref b101), .val (.int (1 : Int32)), .unset, .unset, .unset, .unset, .unset, .unset, .unset, .unset, .unset, .unset, .unset]) rfl ?_
          show Steps p.tables e below (T113.setTop (mkF m 30 #[.val (.int p1), .val (.int p2), .val (.int p3), .val (.int p4), .val (.int p5), .val (.int p6), .val (.ref b101), .val (.int (1 : Int32)), .unset, .unset, .unset, .unset, .unset, .unset, .unset, .unset, .unset, .unset, .unset] [])) _
          refine XS.iload X113.here hx rfl (hb hby at_30) rfl ?_
          show Steps p.tables e below (T113.setTop (mkF m 32 #[.val (.int p1), .val (.int p2), .val (.int p3), .val (.int p4), .val (.int p5), .val (.int p6), .val (.ref b101), .val (.int (1 : Int32)), .unset, .unset, .unset, .unset, .unset, .unset, .unset, .unset, .unset, .unset, .unset] [(.int (1 : Int32))])) _
          refine XS.iconst X113.here hx rfl (hb hby at_32) ?_
          show Steps p.tables e below (T113.setTop (mkF m 33 #[.val (.int p1), .val (.int p2), .val (.int p3), .val (.int p4), .val (.int p5), .val (.int p6), .val (.ref b101), .val (.int (1 : Int32)), .unset, .unset, .unset, .unset, .unset, .unset, .unset, .unset, .unset, .unset, .unset] [(.int (2 : Int32)), (.int (1 : Int32))])) _
          refine XS.idiv X113.here hx rfl (hb hby at_33) rfl (by decide) ?_
          show Steps p.tables e below (T113.setTop (mkF m 34 #[.val (.int p1), .val (.int p2), .val (.int p3), .val (.int p4), .val (.int p5), .val (.int p6), .val (.ref b101), .val (.int (1 : Int32)), .unset, .unset, .unset, .unset, .unset, .unset, .unset, .unset, .unset, .unset, .unset] [(.int ((1 : Int32) / (2 : Int32)))])) _
          rw [(by decide : ((1 : Int32) / (2 : Int32)) = (0 : Int32))]
          show Steps p.tables e below (T113.setTop (mkF m 34 #[.val (.int p1), .val (.int p2), .val (.int p3), .val (.int p4), .val (.int p5), .val (.int p6), .val (.ref b101), .val (.int (1 : Int32)), .unset, .unset, .unset, .unset, .unset, .unset, .unset, .unset, .unset, .unset, .unset] [(.int (0 : Int32))])) _
          refine XS.istore X113.here hx rfl (hb hby at_34) rfl (l' := #[.val (.int p1), .val (.int p2), .val (.int p3), .val (.int p4), .val (.int p5), .val (.int p6), .val (.ref b101), .val (.int (1 : Int32)), .val (.int (0 : Int32)), .unset, .unset, .unset, .unset, .unset, .unset, .unset, .unset, .unset, .unset]) rfl ?_
          show Steps p.tables e below (T113.setTop (mkF m 36 #[.val (.int p1), .val (.int p2), .val (.int p3), .val (.int p4), .val (.int p5), .val (.int p6), .val (.ref b101), .val (.int (1 : Int32)), .val (.int (0 : Int32)), .unset, .unset, .unset, .unset, .unset, .unset, .unset, .unset, .unset, .unset] [])) _
          refine XS.iload X113.here hx rfl (hb hby at_36) rfl ?_
          show Steps p.tables e below (T113.setTop (mkF m 38 #[.val (.int p1), .val (.int p2), .val (.int p3), .val (.int p4), .val (.int p5), .val (.int p6), .val (.ref b101), .val (.int (1 : Int32)), .val (.int (0 : Int32)), .unset, .unset, .unset, .unset, .unset, .unset, .unset, .unset, .unset, .unset] [(.int (0 : Int32))])) _
          refine XS.ifNo X113.here hx rfl (hb hby at_38) rfl ((if0 _ _).trans (teq ((by decide) : (0 : Int32) = (0 : Int32))).2) ?_
          show Steps p.tables e below (T113.setTop (mkF m 41 #[.val (.int p1), .val (.int p2), .val (.int p3), .val (.int p4), .val (.int p5), .val (.int p6), .val (.ref b101), .val (.int (1 : Int32)), .val (.int (0 : Int32)), .unset, .unset, .unset, .unset, .unset, .unset, .unset, .unset, .unset, .unset] [])) _
          refine XS.iconst X113.here hx rfl (hb hby at_41) ?_
          show Steps p.tables e below (T113.setTop (mkF m 42 #[.val (.int p1), .val (.int p2), .val (.int p3), .val (.int p4), .val (.int p5), .val (.int p6), .val (.ref b101), .val (.int (1 : Int32)), .val (.int (0 : Int32)), .unset, .unset, .unset, .unset, .unset, .unset, .unset, .unset, .unset, .unset] [(.int (1 : Int32))])) _
          refine XS.goto X113.here hx rfl (pc0 := 42) (pc' := 46) rfl (hb hby at_42) (by decide) (by decide) ?_
          show Steps p.tables e below (T113.setTop (mkF m 46 #[.val (.int p1), .val (.int p2), .val (.int p3), .val (.int p4), .val (.int p5), .val (.int p6), .val (.ref b101), .val (.int (1 : Int32)), .val (.int (0 : Int32)), .unset, .unset, .unset, .unset, .unset, .unset, .unset, .unset, .unset, .unset] [(.int (1 : Int32))])) _
          refine XS.istore X113.here hx rfl (hb hby at_46) rfl (l' := #[.val (.int p1), .val (.int p2), .val (.int p3), .val (.int p4), .val (.int p5), .val (.int p6), .val (.ref b101), .val (.int (1 : Int32)), .val (.int (0 : Int32)), .val (.int (1 : Int32)), .unset, .unset, .unset, .unset, .unset, .unset, .unset, .unset, .unset]) rfl ?_
          show Steps p.tables e below (T113.setTop (mkF m 48 #[.val (.int p1), .val (.int p2), .val (.int p3), .val (.int p4), .val (.int p5), .val (.int p6), .val (.ref b101), .val (.int (1 : Int32)), .val (.int (0 : Int32)), .val (.int (1 : Int32)), .unset, .unset, .unset, .unset, .unset, .unset, .unset, .unset, .unset] [])) _
          refine XS.iload X113.here hx rfl (hb hby at_48) rfl ?_
          show Steps p.tables e below (T113.setTop (mkF m 50 #[.val (.int p1), .val (.int p2), .val (.int p3), .val (.int p4), .val (.int p5), .val (.int p6), .val (.ref b101), .val (.int (1 : Int32)), .val (.int (0 : Int32)), .val (.int (1 : Int32)), .unset, .unset, .unset, .unset, .unset, .unset, .unset, .unset, .unset] [(.int (0 : Int32))])) _
          refine XS.iconst X113.here hx rfl (hb hby at_50) ?_
          show Steps p.tables e below (T113.setTop (mkF m 51 #[.val (.int p1), .val (.int p2), .val (.int p3), .val (.int p4), .val (.int p5), .val (.int p6), .val (.ref b101), .val (.int (1 : Int32)), .val (.int (0 : Int32)), .val (.int (1 : Int32)), .unset, .unset, .unset, .unset, .unset, .unset, .unset, .unset, .unset] [(.int (2 : Int32)), (.int (0 : Int32))])) _
          refine XS.icmpYes X113.here hx rfl (pc0 := 51) (pc' := 58) rfl (hb hby at_51) rfl (feq ((by decide) : ¬ ((0 : Int32) = (2 : Int32)))).2 (by decide) (by decide) ?_
          show Steps p.tables e below (T113.setTop (mkF m 58 #[.val (.int p1), .val (.int p2), .val (.int p3), .val (.int p4), .val (.int p5), .val (.int p6), .val (.ref b101), .val (.int (1 : Int32)), .val (.int (0 : Int32)), .val (.int (1 : Int32)), .unset, .unset, .unset, .unset, .unset, .unset, .unset, .unset, .unset] [])) _
          refine XS.iconst X113.here hx rfl (hb hby at_58) ?_
          show Steps p.tables e below (T113.setTop (mkF m 59 #[.val (.int p1), .val (.int p2), .val (.int p3), .val (.int p4), .val (.int p5), .val (.int p6), .val (.ref b101), .val (.int (1 : Int32)), .val (.int (0 : Int32)), .val (.int (1 : Int32)), .unset, .unset, .unset, .unset, .unset, .unset, .unset, .unset, .unset] [(.int (2 : Int32))])) _
          refine XS.istore X113.here hx rfl (hb hby at_59) rfl (l' := #[.val (.int p1), .val (.int p2), .val (.int p3), .val (.int p4), .val (.int p5), .val (.int p6), .val (.ref b101), .val (.int (1 : Int32)), .val (.int (0 : Int32)), .val (.int (1 : Int32)), .val (.int (2 : Int32)), .unset, .unset, .unset, .unset, .unset, .unset, .unset, .unset]) rfl ?_
          show Steps p.tables e below (T113.setTop (mkF m 61 #[.val (.int p1), .val (.int p2), .val (.int p3), .val (.int p4), .val (.int p5), .val (.int p6), .val (.ref b101), .val (.int (1 : Int32)), .val (.int (0 : Int32)), .val (.int (1 : Int32)), .val (.int (2 : Int32)), .unset, .unset, .unset, .unset, .unset, .unset, .unset, .unset] [])) _
          refine XS.iload X113.here hx rfl (hb hby at_61) rfl ?_
          show Steps p.tables e below (T113.setTop (mkF m 63 #[.val (.int p1), .val (.int p2), .val (.int p3), .val (.int p4), .val (.int p5), .val (.int p6), .val (.ref b101), .val (.int (1 : Int32)), .val (.int (0 : Int32)), .val (.int (1 : Int32)), .val (.int (2 : Int32)), .unset, .unset, .unset, .unset, .unset, .unset, .unset, .unset] [(.int (1 : Int32))])) _
          refine XS.istore X113.here hx rfl (hb hby at_63) rfl (l' := #[.val (.int p1), .val (.int p2), .val (.int p3), .val (.int p4), .val (.int p5), .val (.int p6), .val (.ref b101), .val (.int (1 : Int32)), .val (.int (0 : Int32)), .val (.int (1 : Int32)), .val (.int (2 : Int32)), .val (.int (1 : Int32)), .unset, .unset, .unset, .unset, .unset, .unset, .unset]) rfl ?_
          show Steps p.tables e below (T113.setTop (mkF m 65 #[.val (.int p1), .val (.int p2), .val (.int p3), .val (.int p4), .val (.int p5), .val (.int p6), .val (.ref b101), .val (.int (1 : Int32)), .val (.int (0 : Int32)), .val (.int (1 : Int32)), .val (.int (2 : Int32)), .val (.int (1 : Int32)), .unset, .unset, .unset, .unset, .unset, .unset, .unset] [])) _
          refine XS.iload X113.here hx rfl (hb hby at_65) rfl ?_
          show Steps p.tables e below (T113.setTop (mkF m 67 #[.val (.int p1), .val (.int p2), .val (.int p3), .val (.int p4), .val (.int p5), .val (.int p6), .val (.ref b101), .val (.int (1 : Int32)), .val (.int (0 : Int32)), .val (.int (1 : Int32)), .val (.int (2 : Int32)), .val (.int (1 : Int32)), .unset, .unset, .unset, .unset, .unset, .unset, .unset] [(.int (2 : Int32))])) _
          refine XS.istore X113.here hx rfl (hb hby at_67) rfl (l' := #[.val (.int p1), .val (.int p2), .val (.int p3), .val (.int p4), .val (.int p5), .val (.int p6), .val (.ref b101), .val (.int (1 : Int32)), .val (.int (0 : Int32)), .val (.int (1 : Int32)), .val (.int (2 : Int32)), .val (.int (1 : Int32)), .val (.int (2 : Int32)), .unset, .unset, .unset, .unset, .unset, .unset]) rfl ?_
          show Steps p.tables e below (T113.setTop (mkF m 69 #[.val (.int p1), .val (.int p2), .val (.int p3), .val (.int p4), .val (.int p5), .val (.int p6), .val (.ref b101), .val (.int (1 : Int32)), .val (.int (0 : Int32)), .val (.int (1 : Int32)), .val (.int (2 : Int32)), .val (.int (1 : Int32)), .val (.int (2 : Int32)), .unset, .unset, .unset, .unset, .unset, .unset] [])) _
          refine XS.iload X113.here hx rfl (hb hby at_69) rfl ?_
          show Steps p.tables e below (T113.setTop (mkF m 71 #[.val (.int p1), .val (.int p2), .val (.int p3), .val (.int p4), .val (.int p5), .val (.int p6), .val (.ref b101), .val (.int (1 : Int32)), .val (.int (0 : Int32)), .val (.int (1 : Int32)), .val (.int (2 : Int32)), .val (.int (1 : Int32)), .val (.int (2 : Int32)), .unset, .unset, .unset, .unset, .unset, .unset] [(.int (1 : Int32))])) _
          refine XS.iconst X113.here hx rfl (hb hby at_71) ?_
          show Steps p.tables e below (T113.setTop (mkF m 72 #[.val (.int p1), .val (.int p2), .val (.int p3), .val (.int p4), .val (.int p5), .val (.int p6), .val (.ref b101), .val (.int (1 : Int32)), .val (.int (0 : Int32)), .val (.int (1 : Int32)), .val (.int (2 : Int32)), .val (.int (1 : Int32)), .val (.int (2 : Int32)), .unset, .unset, .unset, .unset, .unset, .unset] [(.int (1 : Int32)), (.int (1 : Int32))])) _
          refine XS.iand X113.here hx rfl (hb hby at_72) rfl ?_
          show Steps p.tables e below (T113.setTop (mkF m 73 #[.val (.int p1), .val (.int p2), .val (.int p3), .val (.int p4), .val (.int p5), .val (.int p6), .val (.ref b101), .val (.int (1 : Int32)), .val (.int (0 : Int32)), .val (.int (1 : Int32)), .val (.int (2 : Int32)), .val (.int (1 : Int32)), .val (.int (2 : Int32)), .unset, .unset, .unset, .unset, .unset, .unset] [(.int ((1 : Int32) &&& (1 : Int32)))])) _
          rw [(by decide : ((1 : Int32) &&& (1 : Int32)) = (1 : Int32))]
          show Steps p.tables e below (T113.setTop (mkF m 73 #[.val (.int p1), .val (.int p2), .val (.int p3), .val (.int p4), .val (.int p5), .val (.int p6), .val (.ref b101), .val (.int (1 : Int32)), .val (.int (0 : Int32)), .val (.int (1 : Int32)), .val (.int (2 : Int32)), .val (.int (1 : Int32)), .val (.int (2 : Int32)), .unset, .unset, .unset, .unset, .unset, .unset] [(.int (1 : Int32))])) _
          refine XS.iconst X113.here hx rfl (hb hby at_73) ?_
          show Steps p.tables e below (T113.setTop (mkF m 74 #[.val (.int p1), .val (.int p2), .val (.int p3), .val (.int p4), .val (.int p5), .val (.int p6), .val (.ref b101), .val (.int (1 : Int32)), .val (.int (0 : Int32)), .val (.int (1 : Int32)), .val (.int (2 : Int32)), .val (.int (1 : Int32)), .val (.int (2 : Int32)), .unset, .unset, .unset, .unset, .unset, .unset] [(.int (1 : Int32)), (.int (1 : Int32))])) _
          refine XS.icmpNo X113.here hx rfl (hb hby at_74) rfl (teq ((by decide) : (1 : Int32) = (1 : Int32))).2 ?_
          show Steps p.tables e below (T113.setTop (mkF m 77 #[.val (.int p1), .val (.int p2), .val (.int p3), .val (.int p4), .val (.int p5), .val (.int p6), .val (.ref b101), .val (.int (1 : Int32)), .val (.int (0 : Int32)), .val (.int (1 : Int32)), .val (.int (2 : Int32)), .val (.int (1 : Int32)), .val (.int (2 : Int32)), .unset, .unset, .unset, .unset, .unset, .unset] [])) _
          refine XS.iload X113.here hx rfl (hb hby at_77) rfl ?_
          show Steps p.tables e below (T113.setTop (mkF m 79 #[.val (.int p1), .val (.int p2), .val (.int p3), .val (.int p4), .val (.int p5), .val (.int p6), .val (.ref b101), .val (.int (1 : Int32)), .val (.int (0 : Int32)), .val (.int (1 : Int32)), .val (.int (2 : Int32)), .val (.int (1 : Int32)), .val (.int (2 : Int32)), .unset, .unset, .unset, .unset, .unset, .unset] [(.int (2 : Int32))])) _
          refine XS.istore X113.here hx rfl (hb hby at_79) rfl (l' := #[.val (.int p1), .val (.int p2), .val (.int p3), .val (.int p4), .val (.int p5), .val (.int p6), .val (.ref b101), .val (.int (1 : Int32)), .val (.int (0 : Int32)), .val (.int (1 : Int32)), .val (.int (2 : Int32)), .val (.int (2 : Int32)), .val (.int (2 : Int32)), .unset, .unset, .unset, .unset, .unset, .unset]) rfl ?_
          show Steps p.tables e below (T113.setTop (mkF m 81 #[.val (.int p1), .val (.int p2), .val (.int p3), .val (.int p4), .val (.int p5), .val (.int p6), .val (.ref b101), .val (.int (1 : Int32)), .val (.int (0 : Int32)), .val (.int (1 : Int32)), .val (.int (2 : Int32)), .val (.int (2 : Int32)), .val (.int (2 : Int32)), .unset, .unset, .unset, .unset, .unset, .unset] [])) _
          refine XS.iload X113.here hx rfl (hb hby at_81) rfl ?_
          show Steps p.tables e below (T113.setTop (mkF m 83 #[.val (.int p1), .val (.int p2), .val (.int p3), .val (.int p4), .val (.int p5), .val (.int p6), .val (.ref b101), .val (.int (1 : Int32)), .val (.int (0 : Int32)), .val (.int (1 : Int32)), .val (.int (2 : Int32)), .val (.int (2 : Int32)), .val (.int (2 : Int32)), .unset, .unset, .unset, .unset, .unset, .unset] [(.int (1 : Int32))])) _
          refine XS.istore X113.here hx rfl (hb hby at_83) rfl (l' := #[.val (.int p1), .val (.int p2), .val (.int p3), .val (.int p4), .val (.int p5), .val (.int p6), .val (.ref b101), .val (.int (1 : Int32)), .val (.int (0 : Int32)), .val (.int (1 : Int32)), .val (.int (2 : Int32)), .val (.int (2 : Int32)), .val (.int (1 : Int32)), .unset, .unset, .unset, .unset, .unset, .unset]) rfl ?_
          exact kt)
      exact ⟨(1 : Int32), (1 : Int32), (2 : Int32), 0, 2, 1, (by decide), pre119⟩
    · skip
      have pre120 : ∀ t_, Steps p.tables e below (T113.setTop (mkF m 85 #[.val (.int p1), .val (.int p2), .val (.int p3), .val (.int p4), .val (.int p5), .val (.int p6), .val (.ref b101), .val (.int (2 : Int32)), .val (.int (1 : Int32)), .val (.int (0 : Int32)), .val (.int (2 : Int32)), .val (.int (0 : Int32)), .val (.int (2 : Int32)), .unset, .unset, .unset, .unset, .unset, .unset] [])) t_ → Steps p.tables e below (s₁.setTop (entryFrame m #[(.int p1), (.int p2), (.int p3), (.int p4), (.int p5), (.int p6)] maxLocals)) t_ := fun t_ kt => pre116 t_ (by
          show Steps p.tables e below (T113.setTop (mkF m 20 #[.val (.int p1), .val (.int p2), .val (.int p3), .val (.int p4), .val (.int p5), .val (.int p6), .val (.ref b101), .unset, .unset, .unset, .unset, .unset, .unset, .unset, .unset, .unset, .unset, .unset, .unset] [])) _
          refine XS.iload X113.here hx rfl (hb hby at_20) rfl ?_
          show Steps p.tables e below (T113.setTop (mkF m 22 #[.val (.int p1), .val (.int p2), .val (.int p3), .val (.int p4), .val (.int p5), .val (.int p6), .val (.ref b101), .unset, .unset, .unset, .unset, .unset, .unset, .unset, .unset, .unset, .unset, .unset, .unset] [(.int p5)])) _
          refine X113.ldcInt hx hown (mvT hZ (hw _ (List.mem_of_getElem? (i := 1) rfl))) (g := (mkF m 22 #[.val (.int p1), .val (.int p2), .val (.int p3), .val (.int p4), .val (.int p5), .val (.int p6), .val (.ref b101), .unset, .unset, .unset, .unset, .unset, .unset, .unset, .unset, .unset, .unset, .unset, .unset] [(.int p5)])) rfl (hb hby at_22) _ ?_
          show Steps p.tables e below (T113.setTop (mkF m 24 #[.val (.int p1), .val (.int p2), .val (.int p3), .val (.int p4), .val (.int p5), .val (.int p6), .val (.ref b101), .unset, .unset, .unset, .unset, .unset, .unset, .unset, .unset, .unset, .unset, .unset, .unset] [(.int (2147483647 : Int32)), (.int p5)])) _
          refine XS.iand X113.here hx rfl (hb hby at_24) rfl ?_
          show Steps p.tables e below (T113.setTop (mkF m 25 #[.val (.int p1), .val (.int p2), .val (.int p3), .val (.int p4), .val (.int p5), .val (.int p6), .val (.ref b101), .unset, .unset, .unset, .unset, .unset, .unset, .unset, .unset, .unset, .unset, .unset, .unset] [(.int (p5 &&& (2147483647 : Int32)))])) _
          refine XS.bipush X113.here hx rfl (hb hby at_25) ?_
          show Steps p.tables e below (T113.setTop (mkF m 27 #[.val (.int p1), .val (.int p2), .val (.int p3), .val (.int p4), .val (.int p5), .val (.int p6), .val (.ref b101), .unset, .unset, .unset, .unset, .unset, .unset, .unset, .unset, .unset, .unset, .unset, .unset] [(.int (6 : Int32)), (.int (p5 &&& (2147483647 : Int32)))])) _
          refine iremM X113 hx rfl (hb hby at_27) rfl (by decide) ?_
          show Steps p.tables e below (T113.setTop (mkF m 28 #[.val (.int p1), .val (.int p2), .val (.int p3), .val (.int p4), .val (.int p5), .val (.int p6), .val (.ref b101), .unset, .unset, .unset, .unset, .unset, .unset, .unset, .unset, .unset, .unset, .unset, .unset] [(.int ((p5 &&& (2147483647 : Int32)) % (6 : Int32)))])) _
          rw [hk]
          show Steps p.tables e below (T113.setTop (mkF m 28 #[.val (.int p1), .val (.int p2), .val (.int p3), .val (.int p4), .val (.int p5), .val (.int p6), .val (.ref b101), .unset, .unset, .unset, .unset, .unset, .unset, .unset, .unset, .unset, .unset, .unset, .unset] [(.int (2 : Int32))])) _
          refine XS.istore X113.here hx rfl (hb hby at_28) rfl (l' := #[.val (.int p1), .val (.int p2), .val (.int p3), .val (.int p4), .val (.int p5), .val (.int p6), .val (.ref b101), .val (.int (2 : Int32)), .unset, .unset, .unset, .unset, .unset, .unset, .unset, .unset, .unset, .unset, .unset]) rfl ?_
          show Steps p.tables e below (T113.setTop (mkF m 30 #[.val (.int p1), .val (.int p2), .val (.int p3), .val (.int p4), .val (.int p5), .val (.int p6), .val (.ref b101), .val (.int (2 : Int32)), .unset, .unset, .unset, .unset, .unset, .unset, .unset, .unset, .unset, .unset, .unset] [])) _
          refine XS.iload X113.here hx rfl (hb hby at_30) rfl ?_
          show Steps p.tables e below (T113.setTop (mkF m 32 #[.val (.int p1), .val (.int p2), .val (.int p3), .val (.int p4), .val (.int p5), .val (.int p6), .val (.ref b101), .val (.int (2 : Int32)), .unset, .unset, .unset, .unset, .unset, .unset, .unset, .unset, .unset, .unset, .unset] [(.int (2 : Int32))])) _
          refine XS.iconst X113.here hx rfl (hb hby at_32) ?_
          show Steps p.tables e below (T113.setTop (mkF m 33 #[.val (.int p1), .val (.int p2), .val (.int p3), .val (.int p4), .val (.int p5), .val (.int p6), .val (.ref b101), .val (.int (2 : Int32)), .unset, .unset, .unset, .unset, .unset, .unset, .unset, .unset, .unset, .unset, .unset] [(.int (2 : Int32)), (.int (2 : Int32))])) _
          refine XS.idiv X113.here hx rfl (hb hby at_33) rfl (by decide) ?_
          show Steps p.tables e below (T113.setTop (mkF m 34 #[.val (.int p1), .val (.int p2), .val (.int p3), .val (.int p4), .val (.int p5), .val (.int p6), .val (.ref b101), .val (.int (2 : Int32)), .unset, .unset, .unset, .unset, .unset, .unset, .unset, .unset, .unset, .unset, .unset] [(.int ((2 : Int32) / (2 : Int32)))])) _
          rw [(by decide : ((2 : Int32) / (2 : Int32)) = (1 : Int32))]
          show Steps p.tables e below (T113.setTop (mkF m 34 #[.val (.int p1), .val (.int p2), .val (.int p3), .val (.int p4), .val (.int p5), .val (.int p6), .val (.ref b101), .val (.int (2 : Int32)), .unset, .unset, .unset, .unset, .unset, .unset, .unset, .unset, .unset, .unset, .unset] [(.int (1 : Int32))])) _
          refine XS.istore X113.here hx rfl (hb hby at_34) rfl (l' := #[.val (.int p1), .val (.int p2), .val (.int p3), .val (.int p4), .val (.int p5), .val (.int p6), .val (.ref b101), .val (.int (2 : Int32)), .val (.int (1 : Int32)), .unset, .unset, .unset, .unset, .unset, .unset, .unset, .unset, .unset, .unset]) rfl ?_
          show Steps p.tables e below (T113.setTop (mkF m 36 #[.val (.int p1), .val (.int p2), .val (.int p3), .val (.int p4), .val (.int p5), .val (.int p6), .val (.ref b101), .val (.int (2 : Int32)), .val (.int (1 : Int32)), .unset, .unset, .unset, .unset, .unset, .unset, .unset, .unset, .unset, .unset] [])) _
          refine XS.iload X113.here hx rfl (hb hby at_36) rfl ?_
          show Steps p.tables e below (T113.setTop (mkF m 38 #[.val (.int p1), .val (.int p2), .val (.int p3), .val (.int p4), .val (.int p5), .val (.int p6), .val (.ref b101), .val (.int (2 : Int32)), .val (.int (1 : Int32)), .unset, .unset, .unset, .unset, .unset, .unset, .unset, .unset, .unset, .unset] [(.int (1 : Int32))])) _
          refine XS.ifYes X113.here hx rfl (pc0 := 38) (pc' := 45) rfl (hb hby at_38) rfl ((if0 _ _).trans (feq ((by decide) : ¬ ((1 : Int32) = (0 : Int32)))).2) (by decide) (by decide) ?_
          show Steps p.tables e below (T113.setTop (mkF m 45 #[.val (.int p1), .val (.int p2), .val (.int p3), .val (.int p4), .val (.int p5), .val (.int p6), .val (.ref b101), .val (.int (2 : Int32)), .val (.int (1 : Int32)), .unset, .unset, .unset, .unset, .unset, .unset, .unset, .unset, .unset, .unset] [])) _
          refine XS.iconst X113.here hx rfl (hb hby at_45) ?_
          show Steps p.tables e below (T113.setTop (mkF m 46 #[.val (.int p1), .val (.int p2), .val (.int p3), .val (.int p4), .val (.int p5), .val (.int p6), .val (.ref b101), .val (.int (2 : Int32)), .val (.int (1 : Int32)), .unset, .unset, .unset, .unset, .unset, .unset, .unset, .unset, .unset, .unset] [(.int (0 : Int32))])) _
          refine XS.istore X113.here hx rfl (hb hby at_46) rfl (l' := #[.val (.int p1), .val (.int p2), .val (.int p3), .val (.int p4), .val (.int p5), .val (.int p6), .val (.ref b101), .val (.int (2 : Int32)), .val (.int (1 : Int32)), .val (.int (0 : Int32)), .unset, .unset, .unset, .unset, .unset, .unset, .unset, .unset, .unset]) rfl ?_
          show Steps p.tables e below (T113.setTop (mkF m 48 #[.val (.int p1), .val (.int p2), .val (.int p3), .val (.int p4), .val (.int p5), .val (.int p6), .val (.ref b101), .val (.int (2 : Int32)), .val (.int (1 : Int32)), .val (.int (0 : Int32)), .unset, .unset, .unset, .unset, .unset, .unset, .unset, .unset, .unset] [])) _
          refine XS.iload X113.here hx rfl (hb hby at_48) rfl ?_
          show Steps p.tables e below (T113.setTop (mkF m 50 #[.val (.int p1), .val (.int p2), .val (.int p3), .val (.int p4), .val (.int p5), .val (.int p6), .val (.ref b101), .val (.int (2 : Int32)), .val (.int (1 : Int32)), .val (.int (0 : Int32)), .unset, .unset, .unset, .unset, .unset, .unset, .unset, .unset, .unset] [(.int (1 : Int32))])) _
          refine XS.iconst X113.here hx rfl (hb hby at_50) ?_
          show Steps p.tables e below (T113.setTop (mkF m 51 #[.val (.int p1), .val (.int p2), .val (.int p3), .val (.int p4), .val (.int p5), .val (.int p6), .val (.ref b101), .val (.int (2 : Int32)), .val (.int (1 : Int32)), .val (.int (0 : Int32)), .unset, .unset, .unset, .unset, .unset, .unset, .unset, .unset, .unset] [(.int (2 : Int32)), (.int (1 : Int32))])) _
          refine XS.icmpYes X113.here hx rfl (pc0 := 51) (pc' := 58) rfl (hb hby at_51) rfl (feq ((by decide) : ¬ ((1 : Int32) = (2 : Int32)))).2 (by decide) (by decide) ?_
          show Steps p.tables e below (T113.setTop (mkF m 58 #[.val (.int p1), .val (.int p2), .val (.int p3), .val (.int p4), .val (.int p5), .val (.int p6), .val (.ref b101), .val (.int (2 : Int32)), .val (.int (1 : Int32)), .val (.int (0 : Int32)), .unset, .unset, .unset, .unset, .unset, .unset, .unset, .unset, .unset] [])) _
          refine XS.iconst X113.here hx rfl (hb hby at_58) ?_
          show Steps p.tables e below (T113.setTop (mkF m 59 #[.val (.int p1), .val (.int p2), .val (.int p3), .val (.int p4), .val (.int p5), .val (.int p6), .val (.ref b101), .val (.int (2 : Int32)), .val (.int (1 : Int32)), .val (.int (0 : Int32)), .unset, .unset, .unset, .unset, .unset, .unset, .unset, .unset, .unset] [(.int (2 : Int32))])) _
          refine XS.istore X113.here hx rfl (hb hby at_59) rfl (l' := #[.val (.int p1), .val (.int p2), .val (.int p3), .val (.int p4), .val (.int p5), .val (.int p6), .val (.ref b101), .val (.int (2 : Int32)), .val (.int (1 : Int32)), .val (.int (0 : Int32)), .val (.int (2 : Int32)), .unset, .unset, .unset, .unset, .unset, .unset, .unset, .unset]) rfl ?_
          show Steps p.tables e below (T113.setTop (mkF m 61 #[.val (.int p1), .val (.int p2), .val (.int p3), .val (.int p4), .val (.int p5), .val (.int p6), .val (.ref b101), .val (.int (2 : Int32)), .val (.int (1 : Int32)), .val (.int (0 : Int32)), .val (.int (2 : Int32)), .unset, .unset, .unset, .unset, .unset, .unset, .unset, .unset] [])) _
          refine XS.iload X113.here hx rfl (hb hby at_61) rfl ?_
          show Steps p.tables e below (T113.setTop (mkF m 63 #[.val (.int p1), .val (.int p2), .val (.int p3), .val (.int p4), .val (.int p5), .val (.int p6), .val (.ref b101), .val (.int (2 : Int32)), .val (.int (1 : Int32)), .val (.int (0 : Int32)), .val (.int (2 : Int32)), .unset, .unset, .unset, .unset, .unset, .unset, .unset, .unset] [(.int (0 : Int32))])) _
          refine XS.istore X113.here hx rfl (hb hby at_63) rfl (l' := #[.val (.int p1), .val (.int p2), .val (.int p3), .val (.int p4), .val (.int p5), .val (.int p6), .val (.ref b101), .val (.int (2 : Int32)), .val (.int (1 : Int32)), .val (.int (0 : Int32)), .val (.int (2 : Int32)), .val (.int (0 : Int32)), .unset, .unset, .unset, .unset, .unset, .unset, .unset]) rfl ?_
          show Steps p.tables e below (T113.setTop (mkF m 65 #[.val (.int p1), .val (.int p2), .val (.int p3), .val (.int p4), .val (.int p5), .val (.int p6), .val (.ref b101), .val (.int (2 : Int32)), .val (.int (1 : Int32)), .val (.int (0 : Int32)), .val (.int (2 : Int32)), .val (.int (0 : Int32)), .unset, .unset, .unset, .unset, .unset, .unset, .unset] [])) _
          refine XS.iload X113.here hx rfl (hb hby at_65) rfl ?_
          show Steps p.tables e below (T113.setTop (mkF m 67 #[.val (.int p1), .val (.int p2), .val (.int p3), .val (.int p4), .val (.int p5), .val (.int p6), .val (.ref b101), .val (.int (2 : Int32)), .val (.int (1 : Int32)), .val (.int (0 : Int32)), .val (.int (2 : Int32)), .val (.int (0 : Int32)), .unset, .unset, .unset, .unset, .unset, .unset, .unset] [(.int (2 : Int32))])) _
          refine XS.istore X113.here hx rfl (hb hby at_67) rfl (l' := #[.val (.int p1), .val (.int p2), .val (.int p3), .val (.int p4), .val (.int p5), .val (.int p6), .val (.ref b101), .val (.int (2 : Int32)), .val (.int (1 : Int32)), .val (.int (0 : Int32)), .val (.int (2 : Int32)), .val (.int (0 : Int32)), .val (.int (2 : Int32)), .unset, .unset, .unset, .unset, .unset, .unset]) rfl ?_
          show Steps p.tables e below (T113.setTop (mkF m 69 #[.val (.int p1), .val (.int p2), .val (.int p3), .val (.int p4), .val (.int p5), .val (.int p6), .val (.ref b101), .val (.int (2 : Int32)), .val (.int (1 : Int32)), .val (.int (0 : Int32)), .val (.int (2 : Int32)), .val (.int (0 : Int32)), .val (.int (2 : Int32)), .unset, .unset, .unset, .unset, .unset, .unset] [])) _
          refine XS.iload X113.here hx rfl (hb hby at_69) rfl ?_
          show Steps p.tables e below (T113.setTop (mkF m 71 #[.val (.int p1), .val (.int p2), .val (.int p3), .val (.int p4), .val (.int p5), .val (.int p6), .val (.ref b101), .val (.int (2 : Int32)), .val (.int (1 : Int32)), .val (.int (0 : Int32)), .val (.int (2 : Int32)), .val (.int (0 : Int32)), .val (.int (2 : Int32)), .unset, .unset, .unset, .unset, .unset, .unset] [(.int (2 : Int32))])) _
          refine XS.iconst X113.here hx rfl (hb hby at_71) ?_
          show Steps p.tables e below (T113.setTop (mkF m 72 #[.val (.int p1), .val (.int p2), .val (.int p3), .val (.int p4), .val (.int p5), .val (.int p6), .val (.ref b101), .val (.int (2 : Int32)), .val (.int (1 : Int32)), .val (.int (0 : Int32)), .val (.int (2 : Int32)), .val (.int (0 : Int32)), .val (.int (2 : Int32)), .unset, .unset, .unset, .unset, .unset, .unset] [(.int (1 : Int32)), (.int (2 : Int32))])) _
          refine XS.iand X113.here hx rfl (hb hby at_72) rfl ?_
          show Steps p.tables e below (T113.setTop (mkF m 73 #[.val (.int p1), .val (.int p2), .val (.int p3), .val (.int p4), .val (.int p5), .val (.int p6), .val (.ref b101), .val (.int (2 : Int32)), .val (.int (1 : Int32)), .val (.int (0 : Int32)), .val (.int (2 : Int32)), .val (.int (0 : Int32)), .val (.int (2 : Int32)), .unset, .unset, .unset, .unset, .unset, .unset] [(.int ((2 : Int32) &&& (1 : Int32)))])) _
          rw [(by decide : ((2 : Int32) &&& (1 : Int32)) = (0 : Int32))]
          show Steps p.tables e below (T113.setTop (mkF m 73 #[.val (.int p1), .val (.int p2), .val (.int p3), .val (.int p4), .val (.int p5), .val (.int p6), .val (.ref b101), .val (.int (2 : Int32)), .val (.int (1 : Int32)), .val (.int (0 : Int32)), .val (.int (2 : Int32)), .val (.int (0 : Int32)), .val (.int (2 : Int32)), .unset, .unset, .unset, .unset, .unset, .unset] [(.int (0 : Int32))])) _
          refine XS.iconst X113.here hx rfl (hb hby at_73) ?_
          show Steps p.tables e below (T113.setTop (mkF m 74 #[.val (.int p1), .val (.int p2), .val (.int p3), .val (.int p4), .val (.int p5), .val (.int p6), .val (.ref b101), .val (.int (2 : Int32)), .val (.int (1 : Int32)), .val (.int (0 : Int32)), .val (.int (2 : Int32)), .val (.int (0 : Int32)), .val (.int (2 : Int32)), .unset, .unset, .unset, .unset, .unset, .unset] [(.int (1 : Int32)), (.int (0 : Int32))])) _
          refine XS.icmpYes X113.here hx rfl (pc0 := 74) (pc' := 85) rfl (hb hby at_74) rfl (feq ((by decide) : ¬ ((0 : Int32) = (1 : Int32)))).2 (by decide) (by decide) ?_
          exact kt)
      exact ⟨(2 : Int32), (0 : Int32), (2 : Int32), 1, 0, 2, (by decide), pre120⟩
    · skip
      have pre121 : ∀ t_, Steps p.tables e below (T113.setTop (mkF m 85 #[.val (.int p1), .val (.int p2), .val (.int p3), .val (.int p4), .val (.int p5), .val (.int p6), .val (.ref b101), .val (.int (3 : Int32)), .val (.int (1 : Int32)), .val (.int (0 : Int32)), .val (.int (2 : Int32)), .val (.int (2 : Int32)), .val (.int (0 : Int32)), .unset, .unset, .unset, .unset, .unset, .unset] [])) t_ → Steps p.tables e below (s₁.setTop (entryFrame m #[(.int p1), (.int p2), (.int p3), (.int p4), (.int p5), (.int p6)] maxLocals)) t_ := fun t_ kt => pre116 t_ (by
          show Steps p.tables e below (T113.setTop (mkF m 20 #[.val (.int p1), .val (.int p2), .val (.int p3), .val (.int p4), .val (.int p5), .val (.int p6), .val (.ref b101), .unset, .unset, .unset, .unset, .unset, .unset, .unset, .unset, .unset, .unset, .unset, .unset] [])) _
          refine XS.iload X113.here hx rfl (hb hby at_20) rfl ?_
          show Steps p.tables e below (T113.setTop (mkF m 22 #[.val (.int p1), .val (.int p2), .val (.int p3), .val (.int p4), .val (.int p5), .val (.int p6), .val (.ref b101), .unset, .unset, .unset, .unset, .unset, .unset, .unset, .unset, .unset, .unset, .unset, .unset] [(.int p5)])) _
          refine X113.ldcInt hx hown (mvT hZ (hw _ (List.mem_of_getElem? (i := 1) rfl))) (g := (mkF m 22 #[.val (.int p1), .val (.int p2), .val (.int p3), .val (.int p4), .val (.int p5), .val (.int p6), .val (.ref b101), .unset, .unset, .unset, .unset, .unset, .unset, .unset, .unset, .unset, .unset, .unset, .unset] [(.int p5)])) rfl (hb hby at_22) _ ?_
          show Steps p.tables e below (T113.setTop (mkF m 24 #[.val (.int p1), .val (.int p2), .val (.int p3), .val (.int p4), .val (.int p5), .val (.int p6), .val (.ref b101), .unset, .unset, .unset, .unset, .unset, .unset, .unset, .unset, .unset, .unset, .unset, .unset] [(.int (2147483647 : Int32)), (.int p5)])) _
          refine XS.iand X113.here hx rfl (hb hby at_24) rfl ?_
          show Steps p.tables e below (T113.setTop (mkF m 25 #[.val (.int p1), .val (.int p2), .val (.int p3), .val (.int p4), .val (.int p5), .val (.int p6), .val (.ref b101), .unset, .unset, .unset, .unset, .unset, .unset, .unset, .unset, .unset, .unset, .unset, .unset] [(.int (p5 &&& (2147483647 : Int32)))])) _
          refine XS.bipush X113.here hx rfl (hb hby at_25) ?_
          show Steps p.tables e below (T113.setTop (mkF m 27 #[.val (.int p1), .val (.int p2), .val (.int p3), .val (.int p4), .val (.int p5), .val (.int p6), .val (.ref b101), .unset, .unset, .unset, .unset, .unset, .unset, .unset, .unset, .unset, .unset, .unset, .unset] [(.int (6 : Int32)), (.int (p5 &&& (2147483647 : Int32)))])) _
          refine iremM X113 hx rfl (hb hby at_27) rfl (by decide) ?_
          show Steps p.tables e below (T113.setTop (mkF m 28 #[.val (.int p1), .val (.int p2), .val (.int p3), .val (.int p4), .val (.int p5), .val (.int p6), .val (.ref b101), .unset, .unset, .unset, .unset, .unset, .unset, .unset, .unset, .unset, .unset, .unset, .unset] [(.int ((p5 &&& (2147483647 : Int32)) % (6 : Int32)))])) _
          rw [hk]
          show Steps p.tables e below (T113.setTop (mkF m 28 #[.val (.int p1), .val (.int p2), .val (.int p3), .val (.int p4), .val (.int p5), .val (.int p6), .val (.ref b101), .unset, .unset, .unset, .unset, .unset, .unset, .unset, .unset, .unset, .unset, .unset, .unset] [(.int (3 : Int32))])) _
          refine XS.istore X113.here hx rfl (hb hby at_28) rfl (l' := #[.val (.int p1), .val (.int p2), .val (.int p3), .val (.int p4), .val (.int p5), .val (.int p6), .val (.ref b101), .val (.int (3 : Int32)), .unset, .unset, .unset, .unset, .unset, .unset, .unset, .unset, .unset, .unset, .unset]) rfl ?_
          show Steps p.tables e below (T113.setTop (mkF m 30 #[.val (.int p1), .val (.int p2), .val (.int p3), .val (.int p4), .val (.int p5), .val (.int p6), .val (.ref b101), .val (.int (3 : Int32)), .unset, .unset, .unset, .unset, .unset, .unset, .unset, .unset, .unset, .unset, .unset] [])) _
          refine XS.iload X113.here hx rfl (hb hby at_30) rfl ?_
          show Steps p.tables e below (T113.setTop (mkF m 32 #[.val (.int p1), .val (.int p2), .val (.int p3), .val (.int p4), .val (.int p5), .val (.int p6), .val (.ref b101), .val (.int (3 : Int32)), .unset, .unset, .unset, .unset, .unset, .unset, .unset, .unset, .unset, .unset, .unset] [(.int (3 : Int32))])) _
          refine XS.iconst X113.here hx rfl (hb hby at_32) ?_
          show Steps p.tables e below (T113.setTop (mkF m 33 #[.val (.int p1), .val (.int p2), .val (.int p3), .val (.int p4), .val (.int p5), .val (.int p6), .val (.ref b101), .val (.int (3 : Int32)), .unset, .unset, .unset, .unset, .unset, .unset, .unset, .unset, .unset, .unset, .unset] [(.int (2 : Int32)), (.int (3 : Int32))])) _
          refine XS.idiv X113.here hx rfl (hb hby at_33) rfl (by decide) ?_
          show Steps p.tables e below (T113.setTop (mkF m 34 #[.val (.int p1), .val (.int p2), .val (.int p3), .val (.int p4), .val (.int p5), .val (.int p6), .val (.ref b101), .val (.int (3 : Int32)), .unset, .unset, .unset, .unset, .unset, .unset, .unset, .unset, .unset, .unset, .unset] [(.int ((3 : Int32) / (2 : Int32)))])) _
          rw [(by decide : ((3 : Int32) / (2 : Int32)) = (1 : Int32))]
          show Steps p.tables e below (T113.setTop (mkF m 34 #[.val (.int p1), .val (.int p2), .val (.int p3), .val (.int p4), .val (.int p5), .val (.int p6), .val (.ref b101), .val (.int (3 : Int32)), .unset, .unset, .unset, .unset, .unset, .unset, .unset, .unset, .unset, .unset, .unset] [(.int (1 : Int32))])) _
          refine XS.istore X113.here hx rfl (hb hby at_34) rfl (l' := #[.val (.int p1), .val (.int p2), .val (.int p3), .val (.int p4), .val (.int p5), .val (.int p6), .val (.ref b101), .val (.int (3 : Int32)), .val (.int (1 : Int32)), .unset, .unset, .unset, .unset, .unset, .unset, .unset, .unset, .unset, .unset]) rfl ?_
          show Steps p.tables e below (T113.setTop (mkF m 36 #[.val (.int p1), .val (.int p2), .val (.int p3), .val (.int p4), .val (.int p5), .val (.int p6), .val (.ref b101), .val (.int (3 : Int32)), .val (.int (1 : Int32)), .unset, .unset, .unset, .unset, .unset, .unset, .unset, .unset, .unset, .unset] [])) _
          refine XS.iload X113.here hx rfl (hb hby at_36) rfl ?_
          show Steps p.tables e below (T113.setTop (mkF m 38 #[.val (.int p1), .val (.int p2), .val (.int p3), .val (.int p4), .val (.int p5), .val (.int p6), .val (.ref b101), .val (.int (3 : Int32)), .val (.int (1 : Int32)), .unset, .unset, .unset, .unset, .unset, .unset, .unset, .unset, .unset, .unset] [(.int (1 : Int32))])) _
          refine XS.ifYes X113.here hx rfl (pc0 := 38) (pc' := 45) rfl (hb hby at_38) rfl ((if0 _ _).trans (feq ((by decide) : ¬ ((1 : Int32) = (0 : Int32)))).2) (by decide) (by decide) ?_
          show Steps p.tables e below (T113.setTop (mkF m 45 #[.val (.int p1), .val (.int p2), .val (.int p3), .val (.int p4), .val (.int p5), .val (.int p6), .val (.ref b101), .val (.int (3 : Int32)), .val (.int (1 : Int32)), .unset, .unset, .unset, .unset, .unset, .unset, .unset, .unset, .unset, .unset] [])) _
          refine XS.iconst X113.here hx rfl (hb hby at_45) ?_
          show Steps p.tables e below (T113.setTop (mkF m 46 #[.val (.int p1), .val (.int p2), .val (.int p3), .val (.int p4), .val (.int p5), .val (.int p6), .val (.ref b101), .val (.int (3 : Int32)), .val (.int (1 : Int32)), .unset, .unset, .unset, .unset, .unset, .unset, .unset, .unset, .unset, .unset] [(.int (0 : Int32))])) _
          refine XS.istore X113.here hx rfl (hb hby at_46) rfl (l' := #[.val (.int p1), .val (.int p2), .val (.int p3), .val (.int p4), .val (.int p5), .val (.int p6), .val (.ref b101), .val (.int (3 : Int32)), .val (.int (1 : Int32)), .val (.int (0 : Int32)), .unset, .unset, .unset, .unset, .unset, .unset, .unset, .unset, .unset]) rfl ?_
          show Steps p.tables e below (T113.setTop (mkF m 48 #[.val (.int p1), .val (.int p2), .val (.int p3), .val (.int p4), .val (.int p5), .val (.int p6), .val (.ref b101), .val (.int (3 : Int32)), .val (.int (1 : Int32)), .val (.int (0 : Int32)), .unset, .unset, .unset, .unset, .unset, .unset, .unset, .unset, .unset] [])) _
          refine XS.iload X113.here hx rfl (hb hby at_48) rfl ?_
          show Steps p.tables e below (T113.setTop (mkF m 50 #[.val (.int p1), .val (.int p2), .val (.int p3), .val (.int p4), .val (.int p5), .val (.int p6), .val (.ref b101), .val (.int (3 : Int32)), .val (.int (1 : Int32)), .val (.int (0 : Int32)), .unset, .unset, .unset, .unset, .unset, .unset, .unset, .unset, .unset] [(.int (1 : Int32))])) _
          refine XS.iconst X113.here hx rfl (hb hby at_50) ?_
          show Steps p.tables e below (T113.setTop (mkF m 51 #[.val (.int p1), .val (.int p2), .val (.int p3), .val (.int p4), .val (.int p5), .val (.int p6), .val (.ref b101), .val (.int (3 : Int32)), .val (.int (1 : Int32)), .val (.int (0 : Int32)), .unset, .unset, .unset, .unset, .unset, .unset, .unset, .unset, .unset] [(.int (2 : Int32)), (.int (1 : Int32))])) _
          refine XS.icmpYes X113.here hx rfl (pc0 := 51) (pc' := 58) rfl (hb hby at_51) rfl (feq ((by decide) : ¬ ((1 : Int32) = (2 : Int32)))).2 (by decide) (by decide) ?_
          show Steps p.tables e below (T113.setTop (mkF m 58 #[.val (.int p1), .val (.int p2), .val (.int p3), .val (.int p4), .val (.int p5), .val (.int p6), .val (.ref b101), .val (.int (3 : Int32)), .val (.int (1 : Int32)), .val (.int (0 : Int32)), .unset, .unset, .unset, .unset, .unset, .unset, .unset, .unset, .unset] [])) _
          refine XS.iconst X113.here hx rfl (hb hby at_58) ?_
          show Steps p.tables e below (T113.setTop (mkF m 59 #[.val (.int p1), .val (.int p2), .val (.int p3), .val (.int p4), .val (.int p5), .val (.int p6), .val (.ref b101), .val (.int (3 : Int32)), .val (.int (1 : Int32)), .val (.int (0 : Int32)), .unset, .unset, .unset, .unset, .unset, .unset, .unset, .unset, .unset] [(.int (2 : Int32))])) _
          refine XS.istore X113.here hx rfl (hb hby at_59) rfl (l' := #[.val (.int p1), .val (.int p2), .val (.int p3), .val (.int p4), .val (.int p5), .val (.int p6), .val (.ref b101), .val (.int (3 : Int32)), .val (.int (1 : Int32)), .val (.int (0 : Int32)), .val (.int (2 : Int32)), .unset, .unset, .unset, .unset, .unset, .unset, .unset, .unset]) rfl ?_
          show Steps p.tables e below (T113.setTop (mkF m 61 #[.val (.int p1), .val (.int p2), .val (.int p3), .val (.int p4), .val (.int p5), .val (.int p6), .val (.ref b101), .val (.int (3 : Int32)), .val (.int (1 : Int32)), .val (.int (0 : Int32)), .val (.int (2 : Int32)), .unset, .unset, .unset, .unset, .unset, .unset, .unset, .unset] [])) _
          refine XS.iload X113.here hx rfl (hb hby at_61) rfl ?_
          show Steps p.tables e below (T113.setTop (mkF m 63 #[.val (.int p1), .val (.int p2), .val (.int p3), .val (.int p4), .val (.int p5), .val (.int p6), .val (.ref b101), .val (.int (3 : Int32)), .val (.int (1 : Int32)), .val (.int (0 : Int32)), .val (.int (2 : Int32)), .unset, .unset, .unset, .unset, .unset, .unset, .unset, .unset] [(.int (0 : Int32))])) _
          refine XS.istore X113.here hx rfl (hb hby at_63) rfl (l' := #[.val (.int p1), .val (.int p2), .val (.int p3), .val (.int p4), .val (.int p5), .val (.int p6), .val (.ref b101), .val (.int (3 : Int32)), .val (.int (1 : Int32)), .val (.int (0 : Int32)), .val (.int (2 : Int32)), .val (.int (0 : Int32)), .unset, .unset, .unset, .unset, .unset, .unset, .unset]) rfl ?_
          show Steps p.tables e below (T113.setTop (mkF m 65 #[.val (.int p1), .val (.int p2), .val (.int p3), .val (.int p4), .val (.int p5), .val (.int p6), .val (.ref b101), .val (.int (3 : Int32)), .val (.int (1 : Int32)), .val (.int (0 : Int32)), .val (.int (2 : Int32)), .val (.int (0 : Int32)), .unset, .unset, .unset, .unset, .unset, .unset, .unset] [])) _
          refine XS.iload X113.here hx rfl (hb hby at_65) rfl ?_
          show Steps p.tables e below (T113.setTop (mkF m 67 #[.val (.int p1), .val (.int p2), .val (.int p3), .val (.int p4), .val (.int p5), .val (.int p6), .val (.ref b101), .val (.int (3 : Int32)), .val (.int (1 : Int32)), .val (.int (0 : Int32)), .val (.int (2 : Int32)), .val (.int (0 : Int32)), .unset, .unset, .unset, .unset, .unset, .unset, .unset] [(.int (2 : Int32))])) _
          refine XS.istore X113.here hx rfl (hb hby at_67) rfl (l' := #[.val (.int p1), .val (.int p2), .val (.int p3), .val (.int p4), .val (.int p5), .val (.int p6), .val (.ref b101), .val (.int (3 : Int32)), .val (.int (1 : Int32)), .val (.int (0 : Int32)), .val (.int (2 : Int32)), .val (.int (0 : Int32)), .val (.int (2 : Int32)), .unset, .unset, .unset, .unset, .unset, .unset]) rfl ?_
          show Steps p.tables e below (T113.setTop (mkF m 69 #[.val (.int p1), .val (.int p2), .val (.int p3), .val (.int p4), .val (.int p5), .val (.int p6), .val (.ref b101), .val (.int (3 : Int32)), .val (.int (1 : Int32)), .val (.int (0 : Int32)), .val (.int (2 : Int32)), .val (.int (0 : Int32)), .val (.int (2 : Int32)), .unset, .unset, .unset, .unset, .unset, .unset] [])) _
          refine XS.iload X113.here hx rfl (hb hby at_69) rfl ?_
          show Steps p.tables e below (T113.setTop (mkF m 71 #[.val (.int p1), .val (.int p2), .val (.int p3), .val (.int p4), .val (.int p5), .val (.int p6), .val (.ref b101), .val (.int (3 : Int32)), .val (.int (1 : Int32)), .val (.int (0 : Int32)), .val (.int (2 : Int32)), .val (.int (0 : Int32)), .val (.int (2 : Int32)), .unset, .unset, .unset, .unset, .unset, .unset] [(.int (3 : Int32))])) _
          refine XS.iconst X113.here hx rfl (hb hby at_71) ?_
          show Steps p.tables e below (T113.setTop (mkF m 72 #[.val (.int p1), .val (.int p2), .val (.int p3), .val (.int p4), .val (.int p5), .val (.int p6), .val (.ref b101), .val (.int (3 : Int32)), .val (.int (1 : Int32)), .val (.int (0 : Int32)), .val (.int (2 : Int32)), .val (.int (0 : Int32)), .val (.int (2 : Int32)), .unset, .unset, .unset, .unset, .unset, .unset] [(.int (1 : Int32)), (.int (3 : Int32))])) _
          refine XS.iand X113.here hx rfl (hb hby at_72) rfl ?_
          show Steps p.tables e below (T113.setTop (mkF m 73 #[.val (.int p1), .val (.int p2), .val (.int p3), .val (.int p4), .val (.int p5), .val (.int p6), .val (.ref b101), .val (.int (3 : Int32)), .val (.int (1 : Int32)), .val (.int (0 : Int32)), .val (.int (2 : Int32)), .val (.int (0 : Int32)), .val (.int (2 : Int32)), .unset, .unset, .unset, .unset, .unset, .unset] [(.int ((3 : Int32) &&& (1 : Int32)))])) _
          rw [(by decide : ((3 : Int32) &&& (1 : Int32)) = (1 : Int32))]
          show Steps p.tables e below (T113.setTop (mkF m 73 #[.val (.int p1), .val (.int p2), .val (.int p3), .val (.int p4), .val (.int p5), .val (.int p6), .val (.ref b101), .val (.int (3 : Int32)), .val (.int (1 : Int32)), .val (.int (0 : Int32)), .val (.int (2 : Int32)), .val (.int (0 : Int32)), .val (.int (2 : Int32)), .unset, .unset, .unset, .unset, .unset, .unset] [(.int (1 : Int32))])) _
          refine XS.iconst X113.here hx rfl (hb hby at_73) ?_
          show Steps p.tables e below (T113.setTop (mkF m 74 #[.val (.int p1), .val (.int p2), .val (.int p3), .val (.int p4), .val (.int p5), .val (.int p6), .val (.ref b101), .val (.int (3 : Int32)), .val (.int (1 : Int32)), .val (.int (0 : Int32)), .val (.int (2 : Int32)), .val (.int (0 : Int32)), .val (.int (2 : Int32)), .unset, .unset, .unset, .unset, .unset, .unset] [(.int (1 : Int32)), (.int (1 : Int32))])) _
          refine XS.icmpNo X113.here hx rfl (hb hby at_74) rfl (teq ((by decide) : (1 : Int32) = (1 : Int32))).2 ?_
          show Steps p.tables e below (T113.setTop (mkF m 77 #[.val (.int p1), .val (.int p2), .val (.int p3), .val (.int p4), .val (.int p5), .val (.int p6), .val (.ref b101), .val (.int (3 : Int32)), .val (.int (1 : Int32)), .val (.int (0 : Int32)), .val (.int (2 : Int32)), .val (.int (0 : Int32)), .val (.int (2 : Int32)), .unset, .unset, .unset, .unset, .unset, .unset] [])) _
          refine XS.iload X113.here hx rfl (hb hby at_77) rfl ?_
          show Steps p.tables e below (T113.setTop (mkF m 79 #[.val (.int p1), .val (.int p2), .val (.int p3), .val (.int p4), .val (.int p5), .val (.int p6), .val (.ref b101), .val (.int (3 : Int32)), .val (.int (1 : Int32)), .val (.int (0 : Int32)), .val (.int (2 : Int32)), .val (.int (0 : Int32)), .val (.int (2 : Int32)), .unset, .unset, .unset, .unset, .unset, .unset] [(.int (2 : Int32))])) _
          refine XS.istore X113.here hx rfl (hb hby at_79) rfl (l' := #[.val (.int p1), .val (.int p2), .val (.int p3), .val (.int p4), .val (.int p5), .val (.int p6), .val (.ref b101), .val (.int (3 : Int32)), .val (.int (1 : Int32)), .val (.int (0 : Int32)), .val (.int (2 : Int32)), .val (.int (2 : Int32)), .val (.int (2 : Int32)), .unset, .unset, .unset, .unset, .unset, .unset]) rfl ?_
          show Steps p.tables e below (T113.setTop (mkF m 81 #[.val (.int p1), .val (.int p2), .val (.int p3), .val (.int p4), .val (.int p5), .val (.int p6), .val (.ref b101), .val (.int (3 : Int32)), .val (.int (1 : Int32)), .val (.int (0 : Int32)), .val (.int (2 : Int32)), .val (.int (2 : Int32)), .val (.int (2 : Int32)), .unset, .unset, .unset, .unset, .unset, .unset] [])) _
          refine XS.iload X113.here hx rfl (hb hby at_81) rfl ?_
          show Steps p.tables e below (T113.setTop (mkF m 83 #[.val (.int p1), .val (.int p2), .val (.int p3), .val (.int p4), .val (.int p5), .val (.int p6), .val (.ref b101), .val (.int (3 : Int32)), .val (.int (1 : Int32)), .val (.int (0 : Int32)), .val (.int (2 : Int32)), .val (.int (2 : Int32)), .val (.int (2 : Int32)), .unset, .unset, .unset, .unset, .unset, .unset] [(.int (0 : Int32))])) _
          refine XS.istore X113.here hx rfl (hb hby at_83) rfl (l' := #[.val (.int p1), .val (.int p2), .val (.int p3), .val (.int p4), .val (.int p5), .val (.int p6), .val (.ref b101), .val (.int (3 : Int32)), .val (.int (1 : Int32)), .val (.int (0 : Int32)), .val (.int (2 : Int32)), .val (.int (2 : Int32)), .val (.int (0 : Int32)), .unset, .unset, .unset, .unset, .unset, .unset]) rfl ?_
          exact kt)
      exact ⟨(3 : Int32), (0 : Int32), (2 : Int32), 1, 2, 0, (by decide), pre121⟩
    · skip
      have pre122 : ∀ t_, Steps p.tables e below (T113.setTop (mkF m 85 #[.val (.int p1), .val (.int p2), .val (.int p3), .val (.int p4), .val (.int p5), .val (.int p6), .val (.ref b101), .val (.int (4 : Int32)), .val (.int (2 : Int32)), .val (.int (0 : Int32)), .val (.int (1 : Int32)), .val (.int (0 : Int32)), .val (.int (1 : Int32)), .unset, .unset, .unset, .unset, .unset, .unset] [])) t_ → Steps p.tables e below (s₁.setTop (entryFrame m #[(.int p1), (.int p2), (.int p3), (.int p4), (.int p5), (.int p6)] maxLocals)) t_ := fun t_ kt => pre116 t_ (by
          show Steps p.tables e below (T113.setTop (mkF m 20 #[.val (.int p1), .val (.int p2), .val (.int p3), .val (.int p4), .val (.int p5), .val (.int p6), .val (.ref b101), .unset, .unset, .unset, .unset, .unset, .unset, .unset, .unset, .unset, .unset, .unset, .unset] [])) _
          refine XS.iload X113.here hx rfl (hb hby at_20) rfl ?_
          show Steps p.tables e below (T113.setTop (mkF m 22 #[.val (.int p1), .val (.int p2), .val (.int p3), .val (.int p4), .val (.int p5), .val (.int p6), .val (.ref b101), .unset, .unset, .unset, .unset, .unset, .unset, .unset, .unset, .unset, .unset, .unset, .unset] [(.int p5)])) _
          refine X113.ldcInt hx hown (mvT hZ (hw _ (List.mem_of_getElem? (i := 1) rfl))) (g := (mkF m 22 #[.val (.int p1), .val (.int p2), .val (.int p3), .val (.int p4), .val (.int p5), .val (.int p6), .val (.ref b101), .unset, .unset, .unset, .unset, .unset, .unset, .unset, .unset, .unset, .unset, .unset, .unset] [(.int p5)])) rfl (hb hby at_22) _ ?_
          show Steps p.tables e below (T113.setTop (mkF m 24 #[.val (.int p1), .val (.int p2), .val (.int p3), .val (.int p4), .val (.int p5), .val (.int p6), .val (.ref b101), .unset, .unset, .unset, .unset, .unset, .unset, .unset, .unset, .unset, .unset, .unset, .unset] [(.int (2147483647 : Int32)), (.int p5)])) _
          refine XS.iand X113.here hx rfl (hb hby at_24) rfl ?_
          show Steps p.tables e below (T113.setTop (mkF m 25 #[.val (.int p1), .val (.int p2), .val (.int p3), .val (.int p4), .val (.int p5), .val (.int p6), .val (.ref b101), .unset, .unset, .unset, .unset, .unset, .unset, .unset, .unset, .unset, .unset, .unset, .unset] [(.int (p5 &&& (2147483647 : Int32)))])) _
          refine XS.bipush X113.here hx rfl (hb hby at_25) ?_
          show Steps p.tables e below (T113.setTop (mkF m 27 #[.val (.int p1), .val (.int p2), .val (.int p3), .val (.int p4), .val (.int p5), .val (.int p6), .val (.ref b101), .unset, .unset, .unset, .unset, .unset, .unset, .unset, .unset, .unset, .unset, .unset, .unset] [(.int (6 : Int32)), (.int (p5 &&& (2147483647 : Int32)))])) _
          refine iremM X113 hx rfl (hb hby at_27) rfl (by decide) ?_
          show Steps p.tables e below (T113.setTop (mkF m 28 #[.val (.int p1), .val (.int p2), .val (.int p3), .val (.int p4), .val (.int p5), .val (.int p6), .val (.ref b101), .unset, .unset, .unset, .unset, .unset, .unset, .unset, .unset, .unset, .unset, .unset, .unset] [(.int ((p5 &&& (2147483647 : Int32)) % (6 : Int32)))])) _
          rw [hk]
          show Steps p.tables e below (T113.setTop (mkF m 28 #[.val (.int p1), .val (.int p2), .val (.int p3), .val (.int p4), .val (.int p5), .val (.int p6), .val (.ref b101), .unset, .unset, .unset, .unset, .unset, .unset, .unset, .unset, .unset, .unset, .unset, .unset] [(.int (4 : Int32))])) _
          refine XS.istore X113.here hx rfl (hb hby at_28) rfl (l' := #[.val (.int p1), .val (.int p2), .val (.int p3), .val (.int p4), .val (.int p5), .val (.int p6), .val (.ref b101), .val (.int (4 : Int32)), .unset, .unset, .unset, .unset, .unset, .unset, .unset, .unset, .unset, .unset, .unset]) rfl ?_
          show Steps p.tables e below (T113.setTop (mkF m 30 #[.val (.int p1), .val (.int p2), .val (.int p3), .val (.int p4), .val (.int p5), .val (.int p6), .val (.ref b101), .val (.int (4 : Int32)), .unset, .unset, .unset, .unset, .unset, .unset, .unset, .unset, .unset, .unset, .unset] [])) _
          refine XS.iload X113.here hx rfl (hb hby at_30) rfl ?_
          show Steps p.tables e below (T113.setTop (mkF m 32 #[.val (.int p1), .val (.int p2), .val (.int p3), .val (.int p4), .val (.int p5), .val (.int p6), .val (.ref b101), .val (.int (4 : Int32)), .unset, .unset, .unset, .unset, .unset, .unset, .unset, .unset, .unset, .unset, .unset] [(.int (4 : Int32))])) _
          refine XS.iconst X113.here hx rfl (hb hby at_32) ?_
          show Steps p.tables e below (T113.setTop (mkF m 33 #[.val (.int p1), .val (.int p2), .val (.int p3), .val (.int p4), .val (.int p5), .val (.int p6), .val (.ref b101), .val (.int (4 : Int32)), .unset, .unset, .unset, .unset, .unset, .unset, .unset, .unset, .unset, .unset, .unset] [(.int (2 : Int32)), (.int (4 : Int32))])) _
          refine XS.idiv X113.here hx rfl (hb hby at_33) rfl (by decide) ?_
          show Steps p.tables e below (T113.setTop (mkF m 34 #[.val (.int p1), .val (.int p2), .val (.int p3), .val (.int p4), .val (.int p5), .val (.int p6), .val (.ref b101), .val (.int (4 : Int32)), .unset, .unset, .unset, .unset, .unset, .unset, .unset, .unset, .unset, .unset, .unset] [(.int ((4 : Int32) / (2 : Int32)))])) _
          rw [(by decide : ((4 : Int32) / (2 : Int32)) = (2 : Int32))]
          show Steps p.tables e below (T113.setTop (mkF m 34 #[.val (.int p1), .val (.int p2), .val (.int p3), .val (.int p4), .val (.int p5), .val (.int p6), .val (.ref b101), .val (.int (4 : Int32)), .unset, .unset, .unset, .unset, .unset, .unset, .unset, .unset, .unset, .unset, .unset] [(.int (2 : Int32))])) _
          refine XS.istore X113.here hx rfl (hb hby at_34) rfl (l' := #[.val (.int p1), .val (.int p2), .val (.int p3), .val (.int p4), .val (.int p5), .val (.int p6), .val (.ref b101), .val (.int (4 : Int32)), .val (.int (2 : Int32)), .unset, .unset, .unset, .unset, .unset, .unset, .unset, .unset, .unset, .unset]) rfl ?_
          show Steps p.tables e below (T113.setTop (mkF m 36 #[.val (.int p1), .val (.int p2), .val (.int p3), .val (.int p4), .val (.int p5), .val (.int p6), .val (.ref b101), .val (.int (4 : Int32)), .val (.int (2 : Int32)), .unset, .unset, .unset, .unset, .unset, .unset, .unset, .unset, .unset, .unset] [])) _
          refine XS.iload X113.here hx rfl (hb hby at_36) rfl ?_
          show Steps p.tables e below (T113.setTop (mkF m 38 #[.val (.int p1), .val (.int p2), .val (.int p3), .val (.int p4), .val (.int p5), .val (.int p6), .val (.ref b101), .val (.int (4 : Int32)), .val (.int (2 : Int32)), .unset, .unset, .unset, .unset, .unset, .unset, .unset, .unset, .unset, .unset] [(.int (2 : Int32))])) _
          refine XS.ifYes X113.here hx rfl (pc0 := 38) (pc' := 45) rfl (hb hby at_38) rfl ((if0 _ _).trans (feq ((by decide) : ¬ ((2 : Int32) = (0 : Int32)))).2) (by decide) (by decide) ?_
          show Steps p.tables e below (T113.setTop (mkF m 45 #[.val (.int p1), .val (.int p2), .val (.int p3), .val (.int p4), .val (.int p5), .val (.int p6), .val (.ref b101), .val (.int (4 : Int32)), .val (.int (2 : Int32)), .unset, .unset, .unset, .unset, .unset, .unset, .unset, .unset, .unset, .unset] [])) _
          refine XS.iconst X113.here hx rfl (hb hby at_45) ?_
          show Steps p.tables e below (T113.setTop (mkF m 46 #[.val (.int p1), .val (.int p2), .val (.int p3), .val (.int p4), .val (.int p5), .val (.int p6), .val (.ref b101), .val (.int (4 : Int32)), .val (.int (2 : Int32)), .unset, .unset, .unset, .unset, .unset, .unset, .unset, .unset, .unset, .unset] [(.int (0 : Int32))])) _
          refine XS.istore X113.here hx rfl (hb hby at_46) rfl (l' := #[.val (.int p1), .val (.int p2), .val (.int p3), .val (.int p4), .val (.int p5), .val (.int p6), .val (.ref b101), .val (.int (4 : Int32)), .val (.int (2 : Int32)), .val (.int (0 : Int32)), .unset, .unset, .unset, .unset, .unset, .unset, .unset, .unset, .unset]) rfl ?_
          show Steps p.tables e below (T113.setTop (mkF m 48 #[.val (.int p1), .val (.int p2), .val (.int p3), .val (.int p4), .val (.int p5), .val (.int p6), .val (.ref b101), .val (.int (4 : Int32)), .val (.int (2 : Int32)), .val (.int (0 : Int32)), .unset, .unset, .unset, .unset, .unset, .unset, .unset, .unset, .unset] [])) _
          refine XS.iload X113.here hx rfl (hb hby at_48) rfl ?_
          show Steps p.tables e below (T113.setTop (mkF m 50 #[.val (.int p1), .val (.int p2), .val (.int p3), .val (.int p4), .val (.int p5), .val (.int p6), .val (.ref b101), .val (.int (4 : Int32)), .val (.int (2 : Int32)), .val (.int (0 : Int32)), .unset, .unset, .unset, .unset, .unset, .unset, .unset, .unset, .unset] [(.int (2 : Int32))])) _
          refine XS.iconst X113.here hx rfl (hb hby at_50) ?_
          show Steps p.tables e below (T113.setTop (mkF m 51 #[.val (.int p1), .val (.int p2), .val (.int p3), .val (.int p4), .val (.int p5), .val (.int p6), .val (.ref b101), .val (.int (4 : Int32)), .val (.int (2 : Int32)), .val (.int (0 : Int32)), .unset, .unset, .unset, .unset, .unset, .unset, .unset, .unset, .unset] [(.int (2 : Int32)), (.int (2 : Int32))])) _
          refine XS.icmpNo X113.here hx rfl (hb hby at_51) rfl (teq ((by decide) : (2 : Int32) = (2 : Int32))).2 ?_
          show Steps p.tables e below (T113.setTop (mkF m 54 #[.val (.int p1), .val (.int p2), .val (.int p3), .val (.int p4), .val (.int p5), .val (.int p6), .val (.ref b101), .val (.int (4 : Int32)), .val (.int (2 : Int32)), .val (.int (0 : Int32)), .unset, .unset, .unset, .unset, .unset, .unset, .unset, .unset, .unset] [])) _
          refine XS.iconst X113.here hx rfl (hb hby at_54) ?_
          show Steps p.tables e below (T113.setTop (mkF m 55 #[.val (.int p1), .val (.int p2), .val (.int p3), .val (.int p4), .val (.int p5), .val (.int p6), .val (.ref b101), .val (.int (4 : Int32)), .val (.int (2 : Int32)), .val (.int (0 : Int32)), .unset, .unset, .unset, .unset, .unset, .unset, .unset, .unset, .unset] [(.int (1 : Int32))])) _
          refine XS.goto X113.here hx rfl (pc0 := 55) (pc' := 59) rfl (hb hby at_55) (by decide) (by decide) ?_
          show Steps p.tables e below (T113.setTop (mkF m 59 #[.val (.int p1), .val (.int p2), .val (.int p3), .val (.int p4), .val (.int p5), .val (.int p6), .val (.ref b101), .val (.int (4 : Int32)), .val (.int (2 : Int32)), .val (.int (0 : Int32)), .unset, .unset, .unset, .unset, .unset, .unset, .unset, .unset, .unset] [(.int (1 : Int32))])) _
          refine XS.istore X113.here hx rfl (hb hby at_59) rfl (l' := #[.val (.int p1), .val (.int p2), .val (.int p3), .val (.int p4), .val (.int p5), .val (.int p6), .val (.ref b101), .val (.int (4 : Int32)), .val (.int (2 : Int32)), .val (.int (0 : Int32)), .val (.int (1 : Int32)), .unset, .unset, .unset, .unset, .unset, .unset, .unset, .unset]) rfl ?_
          show Steps p.tables e below (T113.setTop (mkF m 61 #[.val (.int p1), .val (.int p2), .val (.int p3), .val (.int p4), .val (.int p5), .val (.int p6), .val (.ref b101), .val (.int (4 : Int32)), .val (.int (2 : Int32)), .val (.int (0 : Int32)), .val (.int (1 : Int32)), .unset, .unset, .unset, .unset, .unset, .unset, .unset, .unset] [])) _
          refine XS.iload X113.here hx rfl (hb hby at_61) rfl ?_
          show Steps p.tables e below (T113.setTop (mkF m 63 #[.val (.int p1), .val (.int p2), .val (.int p3), .val (.int p4), .val (.int p5), .val (.int p6), .val (.ref b101), .val (.int (4 : Int32)), .val (.int (2 : Int32)), .val (.int (0 : Int32)), .val (.int (1 : Int32)), .unset, .unset, .unset, .unset, .unset, .unset, .unset, .unset] [(.int (0 : Int32))])) _
          refine XS.istore X113.here hx rfl (hb hby at_63) rfl (l' := #[.val (.int p1), .val (.int p2), .val (.int p3), .val (.int p4), .val (.int p5), .val (.int p6), .val (.ref b101), .val (.int (4 : Int32)), .val (.int (2 : Int32)), .val (.int (0 : Int32)), .val (.int (1 : Int32)), .val (.int (0 : Int32)), .unset, .unset, .unset, .unset, .unset, .unset, .unset]) rfl ?_
          show Steps p.tables e below (T113.setTop (mkF m 65 #[.val (.int p1), .val (.int p2), .val (.int p3), .val (.int p4), .val (.int p5), .val (.int p6), .val (.ref b101), .val (.int (4 : Int32)), .val (.int (2 : Int32)), .val (.int (0 : Int32)), .val (.int (1 : Int32)), .val (.int (0 : Int32)), .unset, .unset, .unset, .unset, .unset, .unset, .unset] [])) _
          refine XS.iload X113.here hx rfl (hb hby at_65) rfl ?_
          show Steps p.tables e below (T113.setTop (mkF m 67 #[.val (.int p1), .val (.int p2), .val (.int p3), .val (.int p4), .val (.int p5), .val (.int p6), .val (.ref b101), .val (.int (4 : Int32)), .val (.int (2 : Int32)), .val (.int (0 : Int32)), .val (.int (1 : Int32)), .val (.int (0 : Int32)), .unset, .unset, .unset, .unset, .unset, .unset, .unset] [(.int (1 : Int32))])) _
          refine XS.istore X113.here hx rfl (hb hby at_67) rfl (l' := #[.val (.int p1), .val (.int p2), .val (.int p3), .val (.int p4), .val (.int p5), .val (.int p6), .val (.ref b101), .val (.int (4 : Int32)), .val (.int (2 : Int32)), .val (.int (0 : Int32)), .val (.int (1 : Int32)), .val (.int (0 : Int32)), .val (.int (1 : Int32)), .unset, .unset, .unset, .unset, .unset, .unset]) rfl ?_
          show Steps p.tables e below (T113.setTop (mkF m 69 #[.val (.int p1), .val (.int p2), .val (.int p3), .val (.int p4), .val (.int p5), .val (.int p6), .val (.ref b101), .val (.int (4 : Int32)), .val (.int (2 : Int32)), .val (.int (0 : Int32)), .val (.int (1 : Int32)), .val (.int (0 : Int32)), .val (.int (1 : Int32)), .unset, .unset, .unset, .unset, .unset, .unset] [])) _
          refine XS.iload X113.here hx rfl (hb hby at_69) rfl ?_
          show Steps p.tables e below (T113.setTop (mkF m 71 #[.val (.int p1), .val (.int p2), .val (.int p3), .val (.int p4), .val (.int p5), .val (.int p6), .val (.ref b101), .val (.int (4 : Int32)), .val (.int (2 : Int32)), .val (.int (0 : Int32)), .val (.int (1 : Int32)), .val (.int (0 : Int32)), .val (.int (1 : Int32)), .unset, .unset, .unset, .unset, .unset, .unset] [(.int (4 : Int32))])) _
          refine XS.iconst X113.here hx rfl (hb hby at_71) ?_
          show Steps p.tables e below (T113.setTop (mkF m 72 #[.val (.int p1), .val (.int p2), .val (.int p3), .val (.int p4), .val (.int p5), .val (.int p6), .val (.ref b101), .val (.int (4 : Int32)), .val (.int (2 : Int32)), .val (.int (0 : Int32)), .val (.int (1 : Int32)), .val (.int (0 : Int32)), .val (.int (1 : Int32)), .unset, .unset, .unset, .unset, .unset, .unset] [(.int (1 : Int32)), (.int (4 : Int32))])) _
          refine XS.iand X113.here hx rfl (hb hby at_72) rfl ?_
          show Steps p.tables e below (T113.setTop (mkF m 73 #[.val (.int p1), .val (.int p2), .val (.int p3), .val (.int p4), .val (.int p5), .val (.int p6), .val (.ref b101), .val (.int (4 : Int32)), .val (.int (2 : Int32)), .val (.int (0 : Int32)), .val (.int (1 : Int32)), .val (.int (0 : Int32)), .val (.int (1 : Int32)), .unset, .unset, .unset, .unset, .unset, .unset] [(.int ((4 : Int32) &&& (1 : Int32)))])) _
          rw [(by decide : ((4 : Int32) &&& (1 : Int32)) = (0 : Int32))]
          show Steps p.tables e below (T113.setTop (mkF m 73 #[.val (.int p1), .val (.int p2), .val (.int p3), .val (.int p4), .val (.int p5), .val (.int p6), .val (.ref b101), .val (.int (4 : Int32)), .val (.int (2 : Int32)), .val (.int (0 : Int32)), .val (.int (1 : Int32)), .val (.int (0 : Int32)), .val (.int (1 : Int32)), .unset, .unset, .unset, .unset, .unset, .unset] [(.int (0 : Int32))])) _
          refine XS.iconst X113.here hx rfl (hb hby at_73) ?_
          show Steps p.tables e below (T113.setTop (mkF m 74 #[.val (.int p1), .val (.int p2), .val (.int p3), .val (.int p4), .val (.int p5), .val (.int p6), .val (.ref b101), .val (.int (4 : Int32)), .val (.int (2 : Int32)), .val (.int (0 : Int32)), .val (.int (1 : Int32)), .val (.int (0 : Int32)), .val (.int (1 : Int32)), .unset, .unset, .unset, .unset, .unset, .unset] [(.int (1 : Int32)), (.int (0 : Int32))])) _
          refine XS.icmpYes X113.here hx rfl (pc0 := 74) (pc' := 85) rfl (hb hby at_74) rfl (feq ((by decide) : ¬ ((0 : Int32) = (1 : Int32)))).2 (by decide) (by decide) ?_
          exact kt)
      exact ⟨(4 : Int32), (0 : Int32), (1 : Int32), 2, 0, 1, (by decide), pre122⟩
    · skip
      have pre123 : ∀ t_, Steps p.tables e below (T113.setTop (mkF m 85 #[.val (.int p1), .val (.int p2), .val (.int p3), .val (.int p4), .val (.int p5), .val (.int p6), .val (.ref b101), .val (.int (5 : Int32)), .val (.int (2 : Int32)), .val (.int (0 : Int32)), .val (.int (1 : Int32)), .val (.int (1 : Int32)), .val (.int (0 : Int32)), .unset, .unset, .unset, .unset, .unset, .unset] [])) t_ → Steps p.tables e below (s₁.setTop (entryFrame m #[(.int p1), (.int p2), (.int p3), (.int p4), (.int p5), (.int p6)] maxLocals)) t_ := fun t_ kt => pre116 t_ (by
          show Steps p.tables e below (T113.setTop (mkF m 20 #[.val (.int p1), .val (.int p2), .val (.int p3), .val (.int p4), .val (.int p5), .val (.int p6), .val (.ref b101), .unset, .unset, .unset, .unset, .unset, .unset, .unset, .unset, .unset, .unset, .unset, .unset] [])) _
          refine XS.iload X113.here hx rfl (hb hby at_20) rfl ?_
          show Steps p.tables e below (T113.setTop (mkF m 22 #[.val (.int p1), .val (.int p2), .val (.int p3), .val (.int p4), .val (.int p5), .val (.int p6), .val (.ref b101), .unset, .unset, .unset, .unset, .unset, .unset, .unset, .unset, .unset, .unset, .unset, .unset] [(.int p5)])) _
          refine X113.ldcInt hx hown (mvT hZ (hw _ (List.mem_of_getElem? (i := 1) rfl))) (g := (mkF m 22 #[.val (.int p1), .val (.int p2), .val (.int p3), .val (.int p4), .val (.int p5), .val (.int p6), .val (.ref b101), .unset, .unset, .unset, .unset, .unset, .unset, .unset, .unset, .unset, .unset, .unset, .unset] [(.int p5)])) rfl (hb hby at_22) _ ?_
          show Steps p.tables e below (T113.setTop (mkF m 24 #[.val (.int p1), .val (.int p2), .val (.int p3), .val (.int p4), .val (.int p5), .val (.int p6), .val (.ref b101), .unset, .unset, .unset, .unset, .unset, .unset, .unset, .unset, .unset, .unset, .unset, .unset] [(.int (2147483647 : Int32)), (.int p5)])) _
          refine XS.iand X113.here hx rfl (hb hby at_24) rfl ?_
          show Steps p.tables e below (T113.setTop (mkF m 25 #[.val (.int p1), .val (.int p2), .val (.int p3), .val (.int p4), .val (.int p5), .val (.int p6), .val (.ref b101), .unset, .unset, .unset, .unset, .unset, .unset, .unset, .unset, .unset, .unset, .unset, .unset] [(.int (p5 &&& (2147483647 : Int32)))])) _
          refine XS.bipush X113.here hx rfl (hb hby at_25) ?_
          show Steps p.tables e below (T113.setTop (mkF m 27 #[.val (.int p1), .val (.int p2), .val (.int p3), .val (.int p4), .val (.int p5), .val (.int p6), .val (.ref b101), .unset, .unset, .unset, .unset, .unset, .unset, .unset, .unset, .unset, .unset, .unset, .unset] [(.int (6 : Int32)), (.int (p5 &&& (2147483647 : Int32)))])) _
          refine iremM X113 hx rfl (hb hby at_27) rfl (by decide) ?_
          show Steps p.tables e below (T113.setTop (mkF m 28 #[.val (.int p1), .val (.int p2), .val (.int p3), .val (.int p4), .val (.int p5), .val (.int p6), .val (.ref b101), .unset, .unset, .unset, .unset, .unset, .unset, .unset, .unset, .unset, .unset, .unset, .unset] [(.int ((p5 &&& (2147483647 : Int32)) % (6 : Int32)))])) _
          rw [hk]
          show Steps p.tables e below (T113.setTop (mkF m 28 #[.val (.int p1), .val (.int p2), .val (.int p3), .val (.int p4), .val (.int p5), .val (.int p6), .val (.ref b101), .unset, .unset, .unset, .unset, .unset, .unset, .unset, .unset, .unset, .unset, .unset, .unset] [(.int (5 : Int32))])) _
          refine XS.istore X113.here hx rfl (hb hby at_28) rfl (l' := #[.val (.int p1), .val (.int p2), .val (.int p3), .val (.int p4), .val (.int p5), .val (.int p6), .val (.ref b101), .val (.int (5 : Int32)), .unset, .unset, .unset, .unset, .unset, .unset, .unset, .unset, .unset, .unset, .unset]) rfl ?_
          show Steps p.tables e below (T113.setTop (mkF m 30 #[.val (.int p1), .val (.int p2), .val (.int p3), .val (.int p4), .val (.int p5), .val (.int p6), .val (.ref b101), .val (.int (5 : Int32)), .unset, .unset, .unset, .unset, .unset, .unset, .unset, .unset, .unset, .unset, .unset] [])) _
          refine XS.iload X113.here hx rfl (hb hby at_30) rfl ?_
          show Steps p.tables e below (T113.setTop (mkF m 32 #[.val (.int p1), .val (.int p2), .val (.int p3), .val (.int p4), .val (.int p5), .val (.int p6), .val (.ref b101), .val (.int (5 : Int32)), .unset, .unset, .unset, .unset, .unset, .unset, .unset, .unset, .unset, .unset, .unset] [(.int (5 : Int32))])) _
          refine XS.iconst X113.here hx rfl (hb hby at_32) ?_
          show Steps p.tables e below (T113.setTop (mkF m 33 #[.val (.int p1), .val (.int p2), .val (.int p3), .val (.int p4), .val (.int p5), .val (.int p6), .val (.ref b101), .val (.int (5 : Int32)), .unset, .unset, .unset, .unset, .unset, .unset, .unset, .unset, .unset, .unset, .unset] [(.int (2 : Int32)), (.int (5 : Int32))])) _
          refine XS.idiv X113.here hx rfl (hb hby at_33) rfl (by decide) ?_
          show Steps p.tables e below (T113.setTop (mkF m 34 #[.val (.int p1), .val (.int p2), .val (.int p3), .val (.int p4), .val (.int p5), .val (.int p6), .val (.ref b101), .val (.int (5 : Int32)), .unset, .unset, .unset, .unset, .unset, .unset, .unset, .unset, .unset, .unset, .unset] [(.int ((5 : Int32) / (2 : Int32)))])) _
          rw [(by decide : ((5 : Int32) / (2 : Int32)) = (2 : Int32))]
          show Steps p.tables e below (T113.setTop (mkF m 34 #[.val (.int p1), .val (.int p2), .val (.int p3), .val (.int p4), .val (.int p5), .val (.int p6), .val (.ref b101), .val (.int (5 : Int32)), .unset, .unset, .unset, .unset, .unset, .unset, .unset, .unset, .unset, .unset, .unset] [(.int (2 : Int32))])) _
          refine XS.istore X113.here hx rfl (hb hby at_34) rfl (l' := #[.val (.int p1), .val (.int p2), .val (.int p3), .val (.int p4), .val (.int p5), .val (.int p6), .val (.ref b101), .val (.int (5 : Int32)), .val (.int (2 : Int32)), .unset, .unset, .unset, .unset, .unset, .unset, .unset, .unset, .unset, .unset]) rfl ?_
          show Steps p.tables e below (T113.setTop (mkF m 36 #[.val (.int p1), .val (.int p2), .val (.int p3), .val (.int p4), .val (.int p5), .val (.int p6), .val (.ref b101), .val (.int (5 : Int32)), .val (.int (2 : Int32)), .unset, .unset, .unset, .unset, .unset, .unset, .unset, .unset, .unset, .unset] [])) _
          refine XS.iload X113.here hx rfl (hb hby at_36) rfl ?_
          show Steps p.tables e below (T113.setTop (mkF m 38 #[.val (.int p1), .val (.int p2), .val (.int p3), .val (.int p4), .val (.int p5), .val (.int p6), .val (.ref b101), .val (.int (5 : Int32)), .val (.int (2 : Int32)), .unset, .unset, .unset, .unset, .unset, .unset, .unset, .unset, .unset, .unset] [(.int (2 : Int32))])) _
          refine XS.ifYes X113.here hx rfl (pc0 := 38) (pc' := 45) rfl (hb hby at_38) rfl ((if0 _ _).trans (feq ((by decide) : ¬ ((2 : Int32) = (0 : Int32)))).2) (by decide) (by decide) ?_
          show Steps p.tables e below (T113.setTop (mkF m 45 #[.val (.int p1), .val (.int p2), .val (.int p3), .val (.int p4), .val (.int p5), .val (.int p6), .val (.ref b101), .val (.int (5 : Int32)), .val (.int (2 : Int32)), .unset, .unset, .unset, .unset, .unset, .unset, .unset, .unset, .unset, .unset] [])) _
          refine XS.iconst X113.here hx rfl (hb hby at_45) ?_
          show Steps p.tables e below (T113.setTop (mkF m 46 #[.val (.int p1), .val (.int p2), .val (.int p3), .val (.int p4), .val (.int p5), .val (.int p6), .val (.ref b101), .val (.int (5 : Int32)), .val (.int (2 : Int32)), .unset, .unset, .unset, .unset, .unset, .unset, .unset, .unset, .unset, .unset] [(.int (0 : Int32))])) _
          refine XS.istore X113.here hx rfl (hb hby at_46) rfl (l' := #[.val (.int p1), .val (.int p2), .val (.int p3), .val (.int p4), .val (.int p5), .val (.int p6), .val (.ref b101), .val (.int (5 : Int32)), .val (.int (2 : Int32)), .val (.int (0 : Int32)), .unset, .unset, .unset, .unset, .unset, .unset, .unset, .unset, .unset]) rfl ?_
          show Steps p.tables e below (T113.setTop (mkF m 48 #[.val (.int p1), .val (.int p2), .val (.int p3), .val (.int p4), .val (.int p5), .val (.int p6), .val (.ref b101), .val (.int (5 : Int32)), .val (.int (2 : Int32)), .val (.int (0 : Int32)), .unset, .unset, .unset, .unset, .unset, .unset, .unset, .unset, .unset] [])) _
          refine XS.iload X113.here hx rfl (hb hby at_48) rfl ?_
          show Steps p.tables e below (T113.setTop (mkF m 50 #[.val (.int p1), .val (.int p2), .val (.int p3), .val (.int p4), .val (.int p5), .val (.int p6), .val (.ref b101), .val (.int (5 : Int32)), .val (.int (2 : Int32)), .val (.int (0 : Int32)), .unset, .unset, .unset, .unset, .unset, .unset, .unset, .unset, .unset] [(.int (2 : Int32))])) _
          refine XS.iconst X113.here hx rfl (hb hby at_50) ?_
          show Steps p.tables e below (T113.setTop (mkF m 51 #[.val (.int p1), .val (.int p2), .val (.int p3), .val (.int p4), .val (.int p5), .val (.int p6), .val (.ref b101), .val (.int (5 : Int32)), .val (.int (2 : Int32)), .val (.int (0 : Int32)), .unset, .unset, .unset, .unset, .unset, .unset, .unset, .unset, .unset] [(.int (2 : Int32)), (.int (2 : Int32))])) _
          refine XS.icmpNo X113.here hx rfl (hb hby at_51) rfl (teq ((by decide) : (2 : Int32) = (2 : Int32))).2 ?_
          show Steps p.tables e below (T113.setTop (mkF m 54 #[.val (.int p1), .val (.int p2), .val (.int p3), .val (.int p4), .val (.int p5), .val (.int p6), .val (.ref b101), .val (.int (5 : Int32)), .val (.int (2 : Int32)), .val (.int (0 : Int32)), .unset, .unset, .unset, .unset, .unset, .unset, .unset, .unset, .unset] [])) _
          refine XS.iconst X113.here hx rfl (hb hby at_54) ?_
          show Steps p.tables e below (T113.setTop (mkF m 55 #[.val (.int p1), .val (.int p2), .val (.int p3), .val (.int p4), .val (.int p5), .val (.int p6), .val (.ref b101), .val (.int (5 : Int32)), .val (.int (2 : Int32)), .val (.int (0 : Int32)), .unset, .unset, .unset, .unset, .unset, .unset, .unset, .unset, .unset] [(.int (1 : Int32))])) _
          refine XS.goto X113.here hx rfl (pc0 := 55) (pc' := 59) rfl (hb hby at_55) (by decide) (by decide) ?_
          show Steps p.tables e below (T113.setTop (mkF m 59 #[.val (.int p1), .val (.int p2), .val (.int p3), .val (.int p4), .val (.int p5), .val (.int p6), .val (.ref b101), .val (.int (5 : Int32)), .val (.int (2 : Int32)), .val (.int (0 : Int32)), .unset, .unset, .unset, .unset, .unset, .unset, .unset, .unset, .unset] [(.int (1 : Int32))])) _
          refine XS.istore X113.here hx rfl (hb hby at_59) rfl (l' := #[.val (.int p1), .val (.int p2), .val (.int p3), .val (.int p4), .val (.int p5), .val (.int p6), .val (.ref b101), .val (.int (5 : Int32)), .val (.int (2 : Int32)), .val (.int (0 : Int32)), .val (.int (1 : Int32)), .unset, .unset, .unset, .unset, .unset, .unset, .unset, .unset]) rfl ?_
          show Steps p.tables e below (T113.setTop (mkF m 61 #[.val (.int p1), .val (.int p2), .val (.int p3), .val (.int p4), .val (.int p5), .val (.int p6), .val (.ref b101), .val (.int (5 : Int32)), .val (.int (2 : Int32)), .val (.int (0 : Int32)), .val (.int (1 : Int32)), .unset, .unset, .unset, .unset, .unset, .unset, .unset, .unset] [])) _
          refine XS.iload X113.here hx rfl (hb hby at_61) rfl ?_
          show Steps p.tables e below (T113.setTop (mkF m 63 #[.val (.int p1), .val (.int p2), .val (.int p3), .val (.int p4), .val (.int p5), .val (.int p6), .val (.ref b101), .val (.int (5 : Int32)), .val (.int (2 : Int32)), .val (.int (0 : Int32)), .val (.int (1 : Int32)), .unset, .unset, .unset, .unset, .unset, .unset, .unset, .unset] [(.int (0 : Int32))])) _
          refine XS.istore X113.here hx rfl (hb hby at_63) rfl (l' := #[.val (.int p1), .val (.int p2), .val (.int p3), .val (.int p4), .val (.int p5), .val (.int p6), .val (.ref b101), .val (.int (5 : Int32)), .val (.int (2 : Int32)), .val (.int (0 : Int32)), .val (.int (1 : Int32)), .val (.int (0 : Int32)), .unset, .unset, .unset, .unset, .unset, .unset, .unset]) rfl ?_
          show Steps p.tables e below (T113.setTop (mkF m 65 #[.val (.int p1), .val (.int p2), .val (.int p3), .val (.int p4), .val (.int p5), .val (.int p6), .val (.ref b101), .val (.int (5 : Int32)), .val (.int (2 : Int32)), .val (.int (0 : Int32)), .val (.int (1 : Int32)), .val (.int (0 : Int32)), .unset, .unset, .unset, .unset, .unset, .unset, .unset] [])) _
          refine XS.iload X113.here hx rfl (hb hby at_65) rfl ?_
          show Steps p.tables e below (T113.setTop (mkF m 67 #[.val (.int p1), .val (.int p2), .val (.int p3), .val (.int p4), .val (.int p5), .val (.int p6), .val (.ref b101), .val (.int (5 : Int32)), .val (.int (2 : Int32)), .val (.int (0 : Int32)), .val (.int (1 : Int32)), .val (.int (0 : Int32)), .unset, .unset, .unset, .unset, .unset, .unset, .unset] [(.int (1 : Int32))])) _
          refine XS.istore X113.here hx rfl (hb hby at_67) rfl (l' := #[.val (.int p1), .val (.int p2), .val (.int p3), .val (.int p4), .val (.int p5), .val (.int p6), .val (.ref b101), .val (.int (5 : Int32)), .val (.int (2 : Int32)), .val (.int (0 : Int32)), .val (.int (1 : Int32)), .val (.int (0 : Int32)), .val (.int (1 : Int32)), .unset, .unset, .unset, .unset, .unset, .unset]) rfl ?_
          show Steps p.tables e below (T113.setTop (mkF m 69 #[.val (.int p1), .val (.int p2), .val (.int p3), .val (.int p4), .val (.int p5), .val (.int p6), .val (.ref b101), .val (.int (5 : Int32)), .val (.int (2 : Int32)), .val (.int (0 : Int32)), .val (.int (1 : Int32)), .val (.int (0 : Int32)), .val (.int (1 : Int32)), .unset, .unset, .unset, .unset, .unset, .unset] [])) _
          refine XS.iload X113.here hx rfl (hb hby at_69) rfl ?_
          show Steps p.tables e below (T113.setTop (mkF m 71 #[.val (.int p1), .val (.int p2), .val (.int p3), .val (.int p4), .val (.int p5), .val (.int p6), .val (.ref b101), .val (.int (5 : Int32)), .val (.int (2 : Int32)), .val (.int (0 : Int32)), .val (.int (1 : Int32)), .val (.int (0 : Int32)), .val (.int (1 : Int32)), .unset, .unset, .unset, .unset, .unset, .unset] [(.int (5 : Int32))])) _
          refine XS.iconst X113.here hx rfl (hb hby at_71) ?_
          show Steps p.tables e below (T113.setTop (mkF m 72 #[.val (.int p1), .val (.int p2), .val (.int p3), .val (.int p4), .val (.int p5), .val (.int p6), .val (.ref b101), .val (.int (5 : Int32)), .val (.int (2 : Int32)), .val (.int (0 : Int32)), .val (.int (1 : Int32)), .val (.int (0 : Int32)), .val (.int (1 : Int32)), .unset, .unset, .unset, .unset, .unset, .unset] [(.int (1 : Int32)), (.int (5 : Int32))])) _
          refine XS.iand X113.here hx rfl (hb hby at_72) rfl ?_
          show Steps p.tables e below (T113.setTop (mkF m 73 #[.val (.int p1), .val (.int p2), .val (.int p3), .val (.int p4), .val (.int p5), .val (.int p6), .val (.ref b101), .val (.int (5 : Int32)), .val (.int (2 : Int32)), .val (.int (0 : Int32)), .val (.int (1 : Int32)), .val (.int (0 : Int32)), .val (.int (1 : Int32)), .unset, .unset, .unset, .unset, .unset, .unset] [(.int ((5 : Int32) &&& (1 : Int32)))])) _
          rw [(by decide : ((5 : Int32) &&& (1 : Int32)) = (1 : Int32))]
          show Steps p.tables e below (T113.setTop (mkF m 73 #[.val (.int p1), .val (.int p2), .val (.int p3), .val (.int p4), .val (.int p5), .val (.int p6), .val (.ref b101), .val (.int (5 : Int32)), .val (.int (2 : Int32)), .val (.int (0 : Int32)), .val (.int (1 : Int32)), .val (.int (0 : Int32)), .val (.int (1 : Int32)), .unset, .unset, .unset, .unset, .unset, .unset] [(.int (1 : Int32))])) _
          refine XS.iconst X113.here hx rfl (hb hby at_73) ?_
          show Steps p.tables e below (T113.setTop (mkF m 74 #[.val (.int p1), .val (.int p2), .val (.int p3), .val (.int p4), .val (.int p5), .val (.int p6), .val (.ref b101), .val (.int (5 : Int32)), .val (.int (2 : Int32)), .val (.int (0 : Int32)), .val (.int (1 : Int32)), .val (.int (0 : Int32)), .val (.int (1 : Int32)), .unset, .unset, .unset, .unset, .unset, .unset] [(.int (1 : Int32)), (.int (1 : Int32))])) _
          refine XS.icmpNo X113.here hx rfl (hb hby at_74) rfl (teq ((by decide) : (1 : Int32) = (1 : Int32))).2 ?_
          show Steps p.tables e below (T113.setTop (mkF m 77 #[.val (.int p1), .val (.int p2), .val (.int p3), .val (.int p4), .val (.int p5), .val (.int p6), .val (.ref b101), .val (.int (5 : Int32)), .val (.int (2 : Int32)), .val (.int (0 : Int32)), .val (.int (1 : Int32)), .val (.int (0 : Int32)), .val (.int (1 : Int32)), .unset, .unset, .unset, .unset, .unset, .unset] [])) _
          refine XS.iload X113.here hx rfl (hb hby at_77) rfl ?_
          show Steps p.tables e below (T113.setTop (mkF m 79 #[.val (.int p1), .val (.int p2), .val (.int p3), .val (.int p4), .val (.int p5), .val (.int p6), .val (.ref b101), .val (.int (5 : Int32)), .val (.int (2 : Int32)), .val (.int (0 : Int32)), .val (.int (1 : Int32)), .val (.int (0 : Int32)), .val (.int (1 : Int32)), .unset, .unset, .unset, .unset, .unset, .unset] [(.int (1 : Int32))])) _
          refine XS.istore X113.here hx rfl (hb hby at_79) rfl (l' := #[.val (.int p1), .val (.int p2), .val (.int p3), .val (.int p4), .val (.int p5), .val (.int p6), .val (.ref b101), .val (.int (5 : Int32)), .val (.int (2 : Int32)), .val (.int (0 : Int32)), .val (.int (1 : Int32)), .val (.int (1 : Int32)), .val (.int (1 : Int32)), .unset, .unset, .unset, .unset, .unset, .unset]) rfl ?_
          show Steps p.tables e below (T113.setTop (mkF m 81 #[.val (.int p1), .val (.int p2), .val (.int p3), .val (.int p4), .val (.int p5), .val (.int p6), .val (.ref b101), .val (.int (5 : Int32)), .val (.int (2 : Int32)), .val (.int (0 : Int32)), .val (.int (1 : Int32)), .val (.int (1 : Int32)), .val (.int (1 : Int32)), .unset, .unset, .unset, .unset, .unset, .unset] [])) _
          refine XS.iload X113.here hx rfl (hb hby at_81) rfl ?_
          show Steps p.tables e below (T113.setTop (mkF m 83 #[.val (.int p1), .val (.int p2), .val (.int p3), .val (.int p4), .val (.int p5), .val (.int p6), .val (.ref b101), .val (.int (5 : Int32)), .val (.int (2 : Int32)), .val (.int (0 : Int32)), .val (.int (1 : Int32)), .val (.int (1 : Int32)), .val (.int (1 : Int32)), .unset, .unset, .unset, .unset, .unset, .unset] [(.int (0 : Int32))])) _
          refine XS.istore X113.here hx rfl (hb hby at_83) rfl (l' := #[.val (.int p1), .val (.int p2), .val (.int p3), .val (.int p4), .val (.int p5), .val (.int p6), .val (.ref b101), .val (.int (5 : Int32)), .val (.int (2 : Int32)), .val (.int (0 : Int32)), .val (.int (1 : Int32)), .val (.int (1 : Int32)), .val (.int (0 : Int32)), .unset, .unset, .unset, .unset, .unset, .unset]) rfl ?_
          exact kt)
      exact ⟨(5 : Int32), (0 : Int32), (1 : Int32), 2, 1, 0, (by decide), pre123⟩
  obtain ⟨h0x, h1x, h2x, n1, n2, n3⟩ := hx3
  obtain ⟨T124, h124, X124, e124, E124, A124, D124, -, st124⟩ := newO X113 hx hZ hown (hw _ (List.mem_of_getElem? (i := 2) rfl)) (hw _ (List.mem_of_getElem? (i := 3) rfl)) (hw _ (List.mem_of_getElem? (i := 4) rfl)) e113 (g := (mkF m 94 #[.val (.int p1), .val (.int p2), .val (.int p3), .val (.int p4), .val (.int p5), .val (.int p6), .val (.ref b101), .val (.int r_), .val (.int (Int32.ofNat x0)), .val (.int o1_), .val (.int o2_), .val (.int (Int32.ofNat x1)), .val (.int (Int32.ofNat x2)), .val (.int (Int32.ofNat qq)), .unset, .unset, .unset, .unset, .unset] [])) rfl (hb hby at_94) (by decide) (by decide)
  obtain ⟨b124, g124⟩ : ∃ z, z = h113.size := ⟨_, rfl⟩
  rw [← g124] at A124 D124 st124
  have ne125 : b101 ≠ b124 := Nat.ne_of_lt (Nat.lt_of_lt_of_le r115.lt (Nat.le_of_eq g124.symm))
  have g_b124 : n0 ≤ b124 := Nat.le_trans z114 (Nat.le_of_eq g124.symm)
  have z126 : n0 ≤ h124.size := Nat.le_trans z114 E124.1
  have F124_13 : Fld Z h124 b124 "com/example/slotwright/slotwright/exchange/Frontier" "distance" "[D" .null := D124 (Or.inr (hw _ (List.mem_of_getElem? (i := 13) rfl))) (ty := (.array .double)) (by decide)
  have F124_21 : Fld Z h124 b124 "com/example/slotwright/slotwright/exchange/Frontier" "settled" "[Z" .null := D124 (Or.inr (hw _ (List.mem_of_getElem? (i := 21) rfl))) (ty := (.array .boolean)) (by decide)
  have F124_24 : Fld Z h124 b124 "com/example/slotwright/slotwright/exchange/Frontier" "reached" "[I" .null := D124 (Or.inr (hw _ (List.mem_of_getElem? (i := 24) rfl))) (ty := (.array .int)) (by decide)
  have F124_26 : Fld Z h124 b124 "com/example/slotwright/slotwright/exchange/Frontier" "open" "[I" .null := D124 (Or.inr (hw _ (List.mem_of_getElem? (i := 26) rfl))) (ty := (.array .int)) (by decide)
  have F124_42 : Fld Z h124 b124 "com/example/slotwright/slotwright/exchange/Frontier" "reachedCount" "I" (.int (0 : Int32)) := D124 (Or.inl (hw _ (List.mem_of_getElem? (i := 42) rfl))) (ty := .int) (by decide)
  have F124_44 : Fld Z h124 b124 "com/example/slotwright/slotwright/exchange/Frontier" "openCount" "I" (.int (0 : Int32)) := D124 (Or.inl (hw _ (List.mem_of_getElem? (i := 44) rfl))) (ty := .int) (by decide)
  obtain ⟨_, _, ⟨T127, L127, kk127, nn127⟩, -, X127, ⟨Lc127, hQ127, l127, y127, z127⟩, st127⟩ := X124.specialBack hx (y := (⟨"com/example/slotwright/slotwright/exchange/Frontier", "<init>", "(I)V"⟩ : MethodName)) rfl hown (mvT hZ (hw _ (List.mem_of_getElem? (i := 5) rfl))) (mvT hZ (hw _ (List.mem_of_getElem? (i := 6) rfl))) (mvT hZ (hw _ (List.mem_of_getElem? (i := 7) rfl))) (by decide) (backOf (W := 1) (rmFinit l Z a0 hw [] b124 3 h124 n0 z126 A124 g_b124 (by decide) F124_13 F124_21 F124_24 F124_26 F124_42 F124_44) hZ (hw _ (List.mem_of_getElem? (i := 7) rfl)) (hw _ (List.mem_of_getElem? (i := 4) rfl)) (by decide) (by decide)) (g := (mkF m 99 #[.val (.int p1), .val (.int p2), .val (.int p3), .val (.int p4), .val (.int p5), .val (.int p6), .val (.ref b101), .val (.int r_), .val (.int (Int32.ofNat x0)), .val (.int o1_), .val (.int o2_), .val (.int (Int32.ofNat x1)), .val (.int (Int32.ofNat x2)), .val (.int (Int32.ofNat qq)), .unset, .unset, .unset, .unset, .unset] [(.int (3 : Int32)), (.ref b124), (.ref b124)])) rfl (by rw [hml]; rfl) (Steps.refl _) (a := b124) (argsL := [(.int (3 : Int32))]) (rest := [(.ref b124)]) (lenOf pd__28I_29V rfl) rfl (by show 2 * 0 + _ ≤ _; exact Nat.le_of_eq rfl) (hb hby at_99) (fun _ _ => ⟨rfl, e124, (by decide : 2 + 4 ≤ _), (by decide : 9 + 16 ≤ _)⟩)
  dsimp only [Pt.U, Pt.locs, Pt.cells, Pt.slots] at X127 l127 y127 z127 st127 hQ127
  subst l127 y127 z127
  obtain ⟨aD_127, aS_127, aR_127, aO_127, kD_127, kS_127, kR_127, kO_127, rfl, N127q, K127, x127_0, x127_1, x127_2, x127_3, x127_4, x127_5, x127_6, x127_7, x127_8, x127_9, x127_10, x127_11, x127_12, x127_13, x127_14, x127_15, x127_16, x127_17, x127_18, x127_19, x127_20⟩ := hQ127
  have N127 := Fr.app N113 N127q
  have f128 : Arv Z h124 b101 k101 .long (3 : Int32) (own_LJ (own_sel p1.toInt64 p2.toInt64 p3.toInt64) 3) (.long (0 : Int64)) := (r115.ext E124)
  have ne129 : b101 ≠ aD_127 := Nat.ne_of_lt (Nat.lt_of_lt_of_le f128.lt x127_11)
  have ne130 : b124 ≠ aD_127 := Nat.ne_of_lt (Nat.lt_of_lt_of_le A124.lt x127_11)
  have g_aD_127 : n0 ≤ aD_127 := Nat.le_trans z126 x127_11
  have ne131 : b101 ≠ aS_127 := Nat.ne_of_lt (Nat.lt_of_lt_of_le f128.lt x127_12)
  have ne132 : b124 ≠ aS_127 := Nat.ne_of_lt (Nat.lt_of_lt_of_le A124.lt x127_12)
  have g_aS_127 : n0 ≤ aS_127 := Nat.le_trans z126 x127_12
  have ne133 : b101 ≠ aR_127 := Nat.ne_of_lt (Nat.lt_of_lt_of_le f128.lt x127_13)
  have ne134 : b124 ≠ aR_127 := Nat.ne_of_lt (Nat.lt_of_lt_of_le A124.lt x127_13)
  have g_aR_127 : n0 ≤ aR_127 := Nat.le_trans z126 x127_13
  have ne135 : b101 ≠ aO_127 := Nat.ne_of_lt (Nat.lt_of_lt_of_le f128.lt x127_14)
  have ne136 : b124 ≠ aO_127 := Nat.ne_of_lt (Nat.lt_of_lt_of_le A124.lt x127_14)
  have g_aO_127 : n0 ≤ aO_127 := Nat.le_trans z126 x127_14
  have z137 : n0 ≤ T127.heap.size := Nat.le_trans z126 K127.1
  have W0 := own_WF_start 3
  have f138 : Arv Z T127.heap b101 k101 .long (3 : Int32) (own_LJ (own_sel p1.toInt64 p2.toInt64 p3.toInt64) 3) (.long (0 : Int64)) := (f128.keep K127 (own_nmc ne125 own_nm0))
  obtain ⟨cl139, Ar139, Q139, S139, M139, H139, G139⟩ := id f138
  have in140 : ¬ ((Int32.ofNat x0) < 0 ∨ cl139.slots.size ≤ ((Int32.ofNat x0)).toNatClampNeg) := inb_of S139 ⟨nn32 (by omega), lt32 (n := 3) h0x (by omega)⟩
  have at141 : cl139.slots[((Int32.ofNat x0)).toNatClampNeg]? = some (.long ((own_sel p1.toInt64 p2.toInt64 p3.toInt64) x0)) := by rw [n32 (by omega), H139 x0 (by rw [S139]; exact h0x), own_LJ_at _ h0x]
  obtain ⟨cq142, kq142, q142a, q142b, q142c⟩ := isOf hZ rfl x127_0
  obtain ⟨_, _, ⟨T142, L142, kk142, nn142⟩, -, X142, ⟨Lc142, hQ142, l142, y142, z142⟩, st142⟩ := X127.virtualBack hx (y := (⟨"com/example/slotwright/slotwright/exchange/Frontier", "reach", "(ID)Z"⟩ : MethodName)) (z := (⟨"com/example/slotwright/slotwright/exchange/Frontier", "reach", "(ID)Z"⟩ : MethodName)) hown (mvT hZ (hw _ (List.mem_of_getElem? (i := 27) rfl))) (mvT hZ (hw _ (List.mem_of_getElem? (i := 28) rfl))) (notFace_of_selects (args := #[]) (mvT hZ (hw _ (List.mem_of_getElem? (i := 30) rfl)))) (mvT hZ (hw _ (List.mem_of_getElem? (i := 30) rfl))) (mvT hZ (hw _ (List.mem_of_getElem? (i := 29) rfl))) (by decide) (backOf (W := 0) (rmFreach l Z a0 hw [] b124 (FP.l2d ((own_sel p1.toInt64 p2.toInt64 p3.toInt64) x0)) aD_127 aS_127 aR_127 aO_127 kD_127 kS_127 kR_127 kO_127 3 (fun _ => own_inf) (fun _ => 0) (fun _ => 0) 0 (fun _ => 0) 0 x0 T127.heap n0 z137 x127_0 x127_1 x127_2 x127_3 x127_4 x127_5 x127_6 x127_7 x127_8 x127_9 x127_10 ne130 ne132 ne134 ne136 x127_15 x127_16 x127_17 x127_18 x127_19 x127_20 g_b124 g_aD_127 g_aS_127 g_aR_127 g_aO_127 (by decide) (h0x) (Fl.l2d_fin _) (fun _ q => own_WF_fresh W0 h0x q)) hZ (hw _ (List.mem_of_getElem? (i := 31) rfl)) (hw _ (List.mem_of_getElem? (i := 4) rfl)) (by decide) (by decide)) q142a q142c (g := (mkF m 114 #[.val (.int p1), .val (.int p2), .val (.int p3), .val (.int p4), .val (.int p5), .val (.int p6), .val (.ref b101), .val (.int r_), .val (.int (Int32.ofNat x0)), .val (.int o1_), .val (.int o2_), .val (.int (Int32.ofNat x1)), .val (.int (Int32.ofNat x2)), .val (.int (Int32.ofNat qq)), .val (.ref b124), .unset, .unset, .unset, .unset] [(.double (FP.l2d ((own_sel p1.toInt64 p2.toInt64 p3.toInt64) x0))), (.int (Int32.ofNat x0)), (.ref b124)])) rfl (by rw [hml]; rfl) (Steps.refl _) (argsL := [(.int (Int32.ofNat x0)), (.double (FP.l2d ((own_sel p1.toInt64 p2.toInt64 p3.toInt64) x0)))]) (rest := []) (lenOf pd__28ID_29Z rfl) rfl (by show 2 * 0 + _ ≤ _; exact Nat.le_of_eq rfl) (hb hby at_114) (fun _ _ => ⟨rfl, rfl, (by decide : 6 + 0 ≤ _), (by decide : 25 + 0 ≤ _)⟩)
  dsimp only [Pt.U, Pt.locs, Pt.cells, Pt.slots] at X142 l142 y142 z142 st142 hQ142
  subst l142 y142 z142
  obtain ⟨dist2_142, rch2_142, rc2_142, opn2_142, oc2_142, r_142, rfl, N142q, K142, x142_0, x142_1, x142_2, x142_3, x142_4, x142_5, x142_6, x142_7, x142_8, x142_9, x142_10, x142_11⟩ := hQ142
  have N142 := Fr.app N127 N142q
  have z143 : n0 ≤ T142.heap.size := Nat.le_trans z137 K142.1
  have W1 := own_WF_reach W0 h0x (Fl.l2d_fin _) x142_11
  have hf0 := own_RR_fresh x142_11 rfl rfl
  have f144 : Arv Z T142.heap b101 k101 .long (3 : Int32) (own_LJ (own_sel p1.toInt64 p2.toInt64 p3.toInt64) 3) (.long (0 : Int64)) := (f138.keep K142 (own_nmc ne125 (own_nmc ne129 (own_nmc ne133 (own_nmc ne135 own_nm0)))))
  obtain ⟨cl145, Ar145, Q145, S145, M145, H145, G145⟩ := id f144
  have in146 : ¬ ((Int32.ofNat x1) < 0 ∨ cl145.slots.size ≤ ((Int32.ofNat x1)).toNatClampNeg) := inb_of S145 ⟨nn32 (by omega), lt32 (n := 3) h1x (by omega)⟩
  have at147 : cl145.slots[((Int32.ofNat x1)).toNatClampNeg]? = some (.long ((own_sel p1.toInt64 p2.toInt64 p3.toInt64) x1)) := by rw [n32 (by omega), H145 x1 (by rw [S145]; exact h1x), own_LJ_at _ h1x]
  obtain ⟨cq148, kq148, q148a, q148b, q148c⟩ := isOf hZ rfl x142_0
  obtain ⟨_, _, ⟨T148, L148, kk148, nn148⟩, -, X148, ⟨Lc148, hQ148, l148, y148, z148⟩, st148⟩ := X142.virtualBack hx (y := (⟨"com/example/slotwright/slotwright/exchange/Frontier", "reach", "(ID)Z"⟩ : MethodName)) (z := (⟨"com/example/slotwright/slotwright/exchange/Frontier", "reach", "(ID)Z"⟩ : MethodName)) hown (mvT hZ (hw _ (List.mem_of_getElem? (i := 27) rfl))) (mvT hZ (hw _ (List.mem_of_getElem? (i := 28) rfl))) (notFace_of_selects (args := #[]) (mvT hZ (hw _ (List.mem_of_getElem? (i := 30) rfl)))) (mvT hZ (hw _ (List.mem_of_getElem? (i := 30) rfl))) (mvT hZ (hw _ (List.mem_of_getElem? (i := 29) rfl))) (by decide) (backOf (W := 0) (rmFreach l Z a0 hw [] b124 (FP.l2d ((own_sel p1.toInt64 p2.toInt64 p3.toInt64) x1)) aD_127 aS_127 aR_127 aO_127 kD_127 kS_127 kR_127 kO_127 3 dist2_142 (fun _ => 0) rch2_142 rc2_142 opn2_142 oc2_142 x1 T142.heap n0 z143 x142_0 x142_1 x142_2 x142_3 x142_4 x142_5 x142_6 x142_7 x142_8 x142_9 x142_10 ne130 ne132 ne134 ne136 x127_15 x127_16 x127_17 x127_18 x127_19 x127_20 g_b124 g_aD_127 g_aS_127 g_aR_127 g_aO_127 (by decide) (h1x) (Fl.l2d_fin _) (fun _ q => own_WF_fresh W1 h1x q)) hZ (hw _ (List.mem_of_getElem? (i := 31) rfl)) (hw _ (List.mem_of_getElem? (i := 4) rfl)) (by decide) (by decide)) q148a q148c (g := (mkF m 128 #[.val (.int p1), .val (.int p2), .val (.int p3), .val (.int p4), .val (.int p5), .val (.int p6), .val (.ref b101), .val (.int r_), .val (.int (Int32.ofNat x0)), .val (.int o1_), .val (.int o2_), .val (.int (Int32.ofNat x1)), .val (.int (Int32.ofNat x2)), .val (.int (Int32.ofNat qq)), .val (.ref b124), .unset, .unset, .unset, .unset] [(.double (FP.l2d ((own_sel p1.toInt64 p2.toInt64 p3.toInt64) x1))), (.int (Int32.ofNat x1)), (.ref b124)])) rfl (by rw [hml]; rfl) (Steps.refl _) (argsL := [(.int (Int32.ofNat x1)), (.double (FP.l2d ((own_sel p1.toInt64 p2.toInt64 p3.toInt64) x1)))]) (rest := []) (lenOf pd__28ID_29Z rfl) rfl (by show 2 * 0 + _ ≤ _; exact Nat.le_of_eq rfl) (hb hby at_128) (fun _ _ => ⟨rfl, rfl, (by decide : 6 + 0 ≤ _), (by decide : 25 + 0 ≤ _)⟩)
  dsimp only [Pt.U, Pt.locs, Pt.cells, Pt.slots] at X148 l148 y148 z148 st148 hQ148
  subst l148 y148 z148
  obtain ⟨dist2_148, rch2_148, rc2_148, opn2_148, oc2_148, r_148, rfl, N148q, K148, x148_0, x148_1, x148_2, x148_3, x148_4, x148_5, x148_6, x148_7, x148_8, x148_9, x148_10, x148_11⟩ := hQ148
  have N148 := Fr.app N142 N148q
  have z149 : n0 ≤ T148.heap.size := Nat.le_trans z143 K148.1
  have W2 := own_WF_reach W1 h1x (Fl.l2d_fin _) x148_11
  have hf1 := own_RR_fresh x148_11 rfl (by rw [hf0.1]; exact own_up_ne _ _ (Ne.symm n1))
  have f150 : Arv Z T148.heap b101 k101 .long (3 : Int32) (own_LJ (own_sel p1.toInt64 p2.toInt64 p3.toInt64) 3) (.long (0 : Int64)) := (f144.keep K148 (own_nmc ne125 (own_nmc ne129 (own_nmc ne133 (own_nmc ne135 own_nm0)))))
  obtain ⟨cl151, Ar151, Q151, S151, M151, H151, G151⟩ := id f150
  have in152 : ¬ ((Int32.ofNat x2) < 0 ∨ cl151.slots.size ≤ ((Int32.ofNat x2)).toNatClampNeg) := inb_of S151 ⟨nn32 (by omega), lt32 (n := 3) h2x (by omega)⟩
  have at153 : cl151.slots[((Int32.ofNat x2)).toNatClampNeg]? = some (.long ((own_sel p1.toInt64 p2.toInt64 p3.toInt64) x2)) := by rw [n32 (by omega), H151 x2 (by rw [S151]; exact h2x), own_LJ_at _ h2x]
  obtain ⟨cq154, kq154, q154a, q154b, q154c⟩ := isOf hZ rfl x148_0
  obtain ⟨_, _, ⟨T154, L154, kk154, nn154⟩, -, X154, ⟨Lc154, hQ154, l154, y154, z154⟩, st154⟩ := X148.virtualBack hx (y := (⟨"com/example/slotwright/slotwright/exchange/Frontier", "reach", "(ID)Z"⟩ : MethodName)) (z := (⟨"com/example/slotwright/slotwright/exchange/Frontier", "reach", "(ID)Z"⟩ : MethodName)) hown (mvT hZ (hw _ (List.mem_of_getElem? (i := 27) rfl))) (mvT hZ (hw _ (List.mem_of_getElem? (i := 28) rfl))) (notFace_of_selects (args := #[]) (mvT hZ (hw _ (List.mem_of_getElem? (i := 30) rfl)))) (mvT hZ (hw _ (List.mem_of_getElem? (i := 30) rfl))) (mvT hZ (hw _ (List.mem_of_getElem? (i := 29) rfl))) (by decide) (backOf (W := 0) (rmFreach l Z a0 hw [] b124 (FP.l2d ((own_sel p1.toInt64 p2.toInt64 p3.toInt64) x2)) aD_127 aS_127 aR_127 aO_127 kD_127 kS_127 kR_127 kO_127 3 dist2_148 (fun _ => 0) rch2_148 rc2_148 opn2_148 oc2_148 x2 T148.heap n0 z149 x148_0 x148_1 x148_2 x148_3 x148_4 x148_5 x148_6 x148_7 x148_8 x148_9 x148_10 ne130 ne132 ne134 ne136 x127_15 x127_16 x127_17 x127_18 x127_19 x127_20 g_b124 g_aD_127 g_aS_127 g_aR_127 g_aO_127 (by decide) (h2x) (Fl.l2d_fin _) (fun _ q => own_WF_fresh W2 h2x q)) hZ (hw _ (List.mem_of_getElem? (i := 31) rfl)) (hw _ (List.mem_of_getElem? (i := 4) rfl)) (by decide) (by decide)) q154a q154c (g := (mkF m 142 #[.val (.int p1), .val (.int p2), .val (.int p3), .val (.int p4), .val (.int p5), .val (.int p6), .val (.ref b101), .val (.int r_), .val (.int (Int32.ofNat x0)), .val (.int o1_), .val (.int o2_), .val (.int (Int32.ofNat x1)), .val (.int (Int32.ofNat x2)), .val (.int (Int32.ofNat qq)), .val (.ref b124), .unset, .unset, .unset, .unset] [(.double (FP.l2d ((own_sel p1.toInt64 p2.toInt64 p3.toInt64) x2))), (.int (Int32.ofNat x2)), (.ref b124)])) rfl (by rw [hml]; rfl) (Steps.refl _) (argsL := [(.int (Int32.ofNat x2)), (.double (FP.l2d ((own_sel p1.toInt64 p2.toInt64 p3.toInt64) x2)))]) (rest := []) (lenOf pd__28ID_29Z rfl) rfl (by show 2 * 0 + _ ≤ _; exact Nat.le_of_eq rfl) (hb hby at_142) (fun _ _ => ⟨rfl, rfl, (by decide : 6 + 0 ≤ _), (by decide : 25 + 0 ≤ _)⟩)
  dsimp only [Pt.U, Pt.locs, Pt.cells, Pt.slots] at X154 l154 y154 z154 st154 hQ154
  subst l154 y154 z154
  obtain ⟨dist2_154, rch2_154, rc2_154, opn2_154, oc2_154, r_154, rfl, N154q, K154, x154_0, x154_1, x154_2, x154_3, x154_4, x154_5, x154_6, x154_7, x154_8, x154_9, x154_10, x154_11⟩ := hQ154
  have N154 := Fr.app N148 N154q
  have z155 : n0 ≤ T154.heap.size := Nat.le_trans z149 K154.1
  have W3 := own_WF_reach W2 h2x (Fl.l2d_fin _) x154_11
  have hf2 := own_RR_fresh x154_11 rfl (by rw [hf1.1, hf0.1, own_up_ne _ _ (Ne.symm n3)]; exact own_up_ne _ _ (Ne.symm n2))
  have hd3 : dist2_154 = own_up (own_up (own_up (fun _ => own_inf) x0 (FP.l2d ((own_sel p1.toInt64 p2.toInt64 p3.toInt64) x0))) x1 (FP.l2d ((own_sel p1.toInt64 p2.toInt64 p3.toInt64) x1))) x2 (FP.l2d ((own_sel p1.toInt64 p2.toInt64 p3.toInt64) x2)) := by rw [hf2.1, hf1.1, hf0.1]
  have ho3 : opn2_154 = own_up (own_up (own_up (fun _ => 0) 0 x0) 1 x1) 2 x2 := by
    have a1 : _ = 1 := hf0.2.2; have a2 := hf1.2.2; rw [a1] at a2; rw [hf2.2.1, hf1.2.1, hf0.2.1, a2, a1]
  have hc3 : oc2_154 = 3 := by have a0 := hf0.2.2; have a1 := hf1.2.2; have a2 := hf2.2.2; omega
  have hqi : dist2_154 qq ≠ own_inf := by
    rw [hd3]
    have c : qq = x0 ∨ qq = x1 ∨ qq = x2 := by omega
    rcases c with c | c | c
    · rw [c, own_up_ne _ _ n2, own_up_ne _ _ n1, own_up_eq]; exact own_finne (Fl.l2d_fin _)
    · rw [c, own_up_ne _ _ n3, own_up_eq]; exact own_finne (Fl.l2d_fin _)
    · rw [c, own_up_eq]; exact own_finne (Fl.l2d_fin _)
  obtain ⟨cq156, kq156, q156a, q156b, q156c⟩ := isOf hZ rfl x154_0
  obtain ⟨_, _, ⟨T156, L156, kk156, nn156⟩, -, X156, ⟨Lc156, hQ156, l156, y156, z156⟩, st156⟩ := X154.virtualBack hx (y := (⟨"com/example/slotwright/slotwright/exchange/Frontier", "reach", "(ID)Z"⟩ : MethodName)) (z := (⟨"com/example/slotwright/slotwright/exchange/Frontier", "reach", "(ID)Z"⟩ : MethodName)) hown (mvT hZ (hw _ (List.mem_of_getElem? (i := 27) rfl))) (mvT hZ (hw _ (List.mem_of_getElem? (i := 28) rfl))) (notFace_of_selects (args := #[]) (mvT hZ (hw _ (List.mem_of_getElem? (i := 30) rfl)))) (mvT hZ (hw _ (List.mem_of_getElem? (i := 30) rfl))) (mvT hZ (hw _ (List.mem_of_getElem? (i := 29) rfl))) (by decide) (backOf (W := 0) (rmFreach l Z a0 hw [] b124 (FP.i2d p4) aD_127 aS_127 aR_127 aO_127 kD_127 kS_127 kR_127 kO_127 3 dist2_154 (fun _ => 0) rch2_154 rc2_154 opn2_154 oc2_154 qq T154.heap n0 z155 x154_0 x154_1 x154_2 x154_3 x154_4 x154_5 x154_6 x154_7 x154_8 x154_9 x154_10 ne130 ne132 ne134 ne136 x127_15 x127_16 x127_17 x127_18 x127_19 x127_20 g_b124 g_aD_127 g_aS_127 g_aR_127 g_aO_127 (by decide) (hq) (Fl.i2d_fin _) (fun _ q => own_WF_fresh W3 hq q)) hZ (hw _ (List.mem_of_getElem? (i := 31) rfl)) (hw _ (List.mem_of_getElem? (i := 4) rfl)) (by decide) (by decide)) q156a q156c (g := (mkF m 152 #[.val (.int p1), .val (.int p2), .val (.int p3), .val (.int p4), .val (.int p5), .val (.int p6), .val (.ref b101), .val (.int r_), .val (.int (Int32.ofNat x0)), .val (.int o1_), .val (.int o2_), .val (.int (Int32.ofNat x1)), .val (.int (Int32.ofNat x2)), .val (.int (Int32.ofNat qq)), .val (.ref b124), .unset, .unset, .unset, .unset] [(.double (FP.i2d p4)), (.int (Int32.ofNat qq)), (.ref b124)])) rfl (by rw [hml]; rfl) (Steps.refl _) (argsL := [(.int (Int32.ofNat qq)), (.double (FP.i2d p4))]) (rest := []) (lenOf pd__28ID_29Z rfl) rfl (by show 2 * 0 + _ ≤ _; exact Nat.le_of_eq rfl) (hb hby at_152) (fun _ _ => ⟨rfl, rfl, (by decide : 6 + 0 ≤ _), (by decide : 25 + 0 ≤ _)⟩)
  dsimp only [Pt.U, Pt.locs, Pt.cells, Pt.slots] at X156 l156 y156 z156 st156 hQ156
  subst l156 y156 z156
  obtain ⟨dist2_156, rch2_156, rc2_156, opn2_156, oc2_156, r_156, rfl, N156q, K156, x156_0, x156_1, x156_2, x156_3, x156_4, x156_5, x156_6, x156_7, x156_8, x156_9, x156_10, x156_11⟩ := hQ156
  have N156 := Fr.app N154 N156q
  have z157 : n0 ≤ T156.heap.size := Nat.le_trans z155 K156.1
  have W4 := own_WF_reach W3 hq (Fl.i2d_fin _) x156_11
  have hf3 := own_RR_old x156_11 rfl hqi
  rw [hd3, i2d_w] at hf3
  rw [ho3, hc3] at hf3
  have f158 : Arv Z T156.heap b101 k101 .long (3 : Int32) (own_LJ (own_sel p1.toInt64 p2.toInt64 p3.toInt64) 3) (.long (0 : Int64)) := ((f150.keep K154 (own_nmc ne125 (own_nmc ne129 (own_nmc ne133 (own_nmc ne135 own_nm0))))).keep K156 (own_nmc ne125 (own_nmc ne129 (own_nmc ne133 (own_nmc ne135 own_nm0)))))
  obtain ⟨cl159, Ar159, Q159, S159, M159, H159, G159⟩ := id f158
  have in160 : ¬ ((Int32.ofNat qq) < 0 ∨ cl159.slots.size ≤ ((Int32.ofNat qq)).toNatClampNeg) := inb_of S159 ⟨nn32 (by omega), lt32 (n := 3) hq (by omega)⟩
  have at161 : cl159.slots[((Int32.ofNat qq)).toNatClampNeg]? = some (.long ((own_sel p1.toInt64 p2.toInt64 p3.toInt64) qq)) := by rw [n32 (by omega), H159 qq (by rw [S159]; exact hq), own_LJ_at _ hq]
  obtain ⟨_, _, ⟨T162, L162, kk162, nn162⟩, -, X162, ⟨Lc162, hQ162, l162, y162, z162⟩, st162⟩ := Jvm.LawKit.callS X156 hx (y := (⟨"java/lang/Math", "min", "(JJ)J"⟩ : MethodName)) hown (mvT hZ (hw _ (List.mem_of_getElem? (i := 45) rfl))) (mvT hZ (hw _ (List.mem_of_getElem? (i := 46) rfl))) (mvT hZ (hw _ (List.mem_of_getElem? (i := 38) rfl))) (mvT hZ (hw _ (List.mem_of_getElem? (i := 47) rfl))) (by decide) (backOf (W := 2) (rmmin l Z a0 hw [] ((own_sel p1.toInt64 p2.toInt64 p3.toInt64) qq) (p4.toInt64) T156.heap n0 z157 ) hZ (hw _ (List.mem_of_getElem? (i := 47) rfl)) (hw _ (List.mem_of_getElem? (i := 38) rfl)) (by decide) (by decide)) (g := (mkF m 167 #[.val (.int p1), .val (.int p2), .val (.int p3), .val (.int p4), .val (.int p5), .val (.int p6), .val (.ref b101), .val (.int r_), .val (.int (Int32.ofNat x0)), .val (.int o1_), .val (.int o2_), .val (.int (Int32.ofNat x1)), .val (.int (Int32.ofNat x2)), .val (.int (Int32.ofNat qq)), .val (.ref b124), .unset, .unset, .unset, .unset] [(.long (p4.toInt64)), (.long ((own_sel p1.toInt64 p2.toInt64 p3.toInt64) qq)), (.int (Int32.ofNat qq)), (.ref b101)])) rfl (by rw [hml]; rfl) (argsL := [(.long ((own_sel p1.toInt64 p2.toInt64 p3.toInt64) qq)), (.long (p4.toInt64))]) (rest := [(.int (Int32.ofNat qq)), (.ref b101)]) (lenOf pd__28JJ_29J rfl) rfl (by show 2 * 0 + _ ≤ _; exact Nat.le_of_eq rfl) (hb hby at_167) (fun _ _ => ⟨rfl, rfl, (by decide : 6 + 0 ≤ _), (by decide : 25 + 0 ≤ _)⟩)
  dsimp only [Pt.U, Pt.locs, Pt.cells, Pt.slots] at X162 l162 y162 z162 st162 hQ162
  subst l162 y162 z162
  obtain ⟨r_162, rfl, N162q, e162, x162_0⟩ := hQ162
  have N162 := Fr.app N156 N162q
  have hd4 := own_four h0x h1x h2x n1 n2 n3 hq hsD hsE hf3.1 x162_0
  have hs4 := own_D2 hsD hsE x162_0
  have hi4 := own_opn n1 n2 n3 h0x h1x h2x
  rw [← hf3.2.1] at hi4
  have hoc4 := hf3.2.2
  obtain ⟨cl163, Ar163, Q163, S163, M163, H163, G163⟩ := id f158
  have in164 : ¬ ((Int32.ofNat qq) < 0 ∨ cl163.slots.size ≤ ((Int32.ofNat qq)).toNatClampNeg) := inb_of S163 ⟨nn32 (by omega), lt32 (n := 3) hq (by omega)⟩
  obtain ⟨T165, h165, X165, e165, W165, st165⟩ := stJ X162 hx hZ e162 Ar163 (j := (Int32.ofNat qq)) in164 (g := (mkF m 170 #[.val (.int p1), .val (.int p2), .val (.int p3), .val (.int p4), .val (.int p5), .val (.int p6), .val (.ref b101), .val (.int r_), .val (.int (Int32.ofNat x0)), .val (.int o1_), .val (.int o2_), .val (.int (Int32.ofNat x1)), .val (.int (Int32.ofNat x2)), .val (.int (Int32.ofNat qq)), .val (.ref b124), .unset, .unset, .unset, .unset] [(.long r_162), (.int (Int32.ofNat qq)), (.ref b101)])) rfl rfl (hb hby at_170)
  have z166 : n0 ≤ h165.size := Nat.le_trans z157 (Keep.of_wr W165).1
  have V165 : Arv Z h165 b101 k101 .long (3 : Int32) (own_LJ (own_up (own_sel p1.toInt64 p2.toInt64 p3.toInt64) qq r_162) 3) (.long (0 : Int64)) := own_LJ_set (own_sel p1.toInt64 p2.toInt64 p3.toInt64) 3 qq r_162 ▸ Arv.set Ar163 Q163 S163 M163 H163 G163 rfl W165 qq (n32 (by omega)) (by rw [own_LJ_len]; exact hq)
  have N165 : Fr n0 _ := Fr.snoc X165 N162 g_b101
  have hi4a : own_inj opn2_156 oc2_156 := by rw [hoc4]; exact hi4.1
  have hi4b : ∀ j, j < 3 → ∃ k, k < oc2_156 ∧ opn2_156 k = j := by rw [hoc4]; exact hi4.2
  have f167 : Exa Z h165 b124 "com/example/slotwright/slotwright/exchange/Frontier" := (x156_0.wr W165)
  have f168 : Fld Z h165 b124 "com/example/slotwright/slotwright/exchange/Frontier" "distance" "[D" (.ref aD_127) := (x156_1.other W165 (Or.inl (Ne.symm ne125)))
  have f169 : Fld Z h165 b124 "com/example/slotwright/slotwright/exchange/Frontier" "settled" "[Z" (.ref aS_127) := (x156_2.other W165 (Or.inl (Ne.symm ne125)))
  have f170 : Fld Z h165 b124 "com/example/slotwright/slotwright/exchange/Frontier" "reached" "[I" (.ref aR_127) := (x156_3.other W165 (Or.inl (Ne.symm ne125)))
  have f171 : Fld Z h165 b124 "com/example/slotwright/slotwright/exchange/Frontier" "open" "[I" (.ref aO_127) := (x156_4.other W165 (Or.inl (Ne.symm ne125)))
  have f172 : Fld Z h165 b124 "com/example/slotwright/slotwright/exchange/Frontier" "reachedCount" "I" (.int (Int32.ofNat rc2_156)) := (x156_5.other W165 (Or.inl (Ne.symm ne125)))
  have f173 : Fld Z h165 b124 "com/example/slotwright/slotwright/exchange/Frontier" "openCount" "I" (.int (Int32.ofNat oc2_156)) := (x156_6.other W165 (Or.inl (Ne.symm ne125)))
  have f174 : Arv Z h165 aD_127 kD_127 .double (Int32.ofNat 3) (own_LD dist2_156 3) (.double (0 : UInt64)) := (x156_7.other W165 (Ne.symm ne129))
  have f175 : Arv Z h165 aS_127 kS_127 .boolean (Int32.ofNat 3) (own_LZ (fun _ => 0) 3) (.int (0 : Int32)) := (x156_8.other W165 (Ne.symm ne131))
  have f176 : Arv Z h165 aR_127 kR_127 .int (Int32.ofNat 3) (own_LN rch2_156 3) (.int (0 : Int32)) := (x156_9.other W165 (Ne.symm ne133))
  have f177 : Arv Z h165 aO_127 kO_127 .int (Int32.ofNat 3) (own_LN opn2_156 3) (.int (0 : Int32)) := (x156_10.other W165 (Ne.symm ne135))
  obtain ⟨cq178, kq178, q178a, q178b, q178c⟩ := isOf hZ e165 f167
  obtain ⟨_, _, ⟨T178, L178, kk178, nn178⟩, -, X178, ⟨Lc178, hQ178, l178, y178, z178⟩, st178⟩ := X165.virtualBack hx (y := (⟨"com/example/slotwright/slotwright/exchange/Frontier", "settleNearest", "()I"⟩ : MethodName)) (z := (⟨"com/example/slotwright/slotwright/exchange/Frontier", "settleNearest", "()I"⟩ : MethodName)) hown (mvT hZ (hw _ (List.mem_of_getElem? (i := 48) rfl))) (mvT hZ (hw _ (List.mem_of_getElem? (i := 49) rfl))) (notFace_of_selects (args := #[]) (mvT hZ (hw _ (List.mem_of_getElem? (i := 51) rfl)))) (mvT hZ (hw _ (List.mem_of_getElem? (i := 51) rfl))) (mvT hZ (hw _ (List.mem_of_getElem? (i := 50) rfl))) (by decide) (backOf (W := 0) (rmFsettle l Z a0 hw [] b124 aD_127 aS_127 aR_127 aO_127 kD_127 kS_127 kR_127 kO_127 3 dist2_156 (fun _ => 0) rch2_156 rc2_156 opn2_156 oc2_156 h165 n0 z166 f167 f168 f169 f170 f171 f172 f173 f174 f175 f176 f177 ne130 ne132 ne134 ne136 x127_15 x127_16 x127_17 x127_18 x127_19 x127_20 g_b124 g_aD_127 g_aS_127 g_aR_127 g_aO_127 (by decide) (by omega) (by omega) (fun j hj => (W4.2.2.2.1 j hj).1) (W4.2.2.2.2.2.2)) hZ (hw _ (List.mem_of_getElem? (i := 52) rfl)) (hw _ (List.mem_of_getElem? (i := 4) rfl)) (by decide) (by decide)) q178a q178c (g := (mkF m 173 #[.val (.int p1), .val (.int p2), .val (.int p3), .val (.int p4), .val (.int p5), .val (.int p6), .val (.ref b101), .val (.int r_), .val (.int (Int32.ofNat x0)), .val (.int o1_), .val (.int o2_), .val (.int (Int32.ofNat x1)), .val (.int (Int32.ofNat x2)), .val (.int (Int32.ofNat qq)), .val (.ref b124), .unset, .unset, .unset, .unset] [(.ref b124)])) rfl (by rw [hml]; rfl) (Steps.refl _) (argsL := []) (rest := []) (lenOf pd__28_29I rfl) rfl (by show 2 * 0 + _ ≤ _; exact Nat.le_of_eq rfl) (hb hby at_173) (fun _ _ => ⟨rfl, e165, (by decide : 6 + 0 ≤ _), (by decide : 25 + 0 ≤ _)⟩)
  dsimp only [Pt.U, Pt.locs, Pt.cells, Pt.slots] at X178 l178 y178 z178 st178 hQ178
  subst l178 y178 z178
  obtain ⟨near_178, rfl, N178q, K178, x178_0, x178_1, x178_2, x178_3, x178_4, x178_5, x178_6, x178_7, x178_8, x178_9, x178_10, x178_11⟩ := hQ178
  have N178 := Fr.app N165 N178q
  have z179 : n0 ≤ T178.heap.size := Nat.le_trans z166 K178.1
  have W5 := own_WF_settle W4 x178_11.1
  have hs1 : (opn2_156 near_178) < 3 := (W4.2.2.2.1 _ x178_11.1).1
  have hmin1 := fun j hj => own_min hd4 hs4 (fun k hk => (W4.2.2.2.1 k hk).1) x178_11 (hi4b j hj)
  have hr1 := own_rem hi4a x178_11.1
  have f180 : Arv Z T178.heap b101 k101 .long (3 : Int32) (own_LJ (own_up (own_sel p1.toInt64 p2.toInt64 p3.toInt64) qq r_162) 3) (.long (0 : Int64)) := (V165.keep K178 (own_nmc ne125 (own_nmc ne135 (own_nmc ne131 own_nm0))))
  obtain ⟨cl181, Ar181, Q181, S181, M181, H181, G181⟩ := id f180
  have in182 : ¬ ((Int32.ofNat (opn2_156 near_178)) < 0 ∨ cl181.slots.size ≤ ((Int32.ofNat (opn2_156 near_178))).toNatClampNeg) := inb_of S181 ⟨nn32 (by omega), lt32 (n := 3) hs1 (by omega)⟩
  have at183 : cl181.slots[((Int32.ofNat (opn2_156 near_178))).toNatClampNeg]? = some (.long ((own_up (own_sel p1.toInt64 p2.toInt64 p3.toInt64) qq r_162) (opn2_156 near_178))) := by rw [n32 (by omega), H181 (opn2_156 near_178) (by rw [S181]; exact hs1), own_LJ_at _ hs1]
  obtain ⟨cl184, Ar184, Q184, S184, M184, H184, G184⟩ := id f180
  have in185 : ¬ ((0 : Int32) < 0 ∨ cl184.slots.size ≤ ((0 : Int32)).toNatClampNeg) := inb_of S184 ⟨by decide, by decide⟩
  have at186 : cl184.slots[((0 : Int32)).toNatClampNeg]? = some (.long ((own_up (own_sel p1.toInt64 p2.toInt64 p3.toInt64) qq r_162) 0)) := H184 0 (by rw [S184]; decide)
  obtain ⟨cl187, Ar187, Q187, S187, M187, H187, G187⟩ := id f180
  have in188 : ¬ ((Int32.ofNat (opn2_156 near_178)) < 0 ∨ cl187.slots.size ≤ ((Int32.ofNat (opn2_156 near_178))).toNatClampNeg) := inb_of S187 ⟨nn32 (by omega), lt32 (n := 3) hs1 (by omega)⟩
  have at189 : cl187.slots[((Int32.ofNat (opn2_156 near_178))).toNatClampNeg]? = some (.long ((own_up (own_sel p1.toInt64 p2.toInt64 p3.toInt64) qq r_162) (opn2_156 near_178))) := by rw [n32 (by omega), H187 (opn2_156 near_178) (by rw [S187]; exact hs1), own_LJ_at _ hs1]
  obtain ⟨cl190, Ar190, Q190, S190, M190, H190, G190⟩ := id f180
  have in191 : ¬ ((1 : Int32) < 0 ∨ cl190.slots.size ≤ ((1 : Int32)).toNatClampNeg) := inb_of S190 ⟨by decide, by decide⟩
  have at192 : cl190.slots[((1 : Int32)).toNatClampNeg]? = some (.long ((own_up (own_sel p1.toInt64 p2.toInt64 p3.toInt64) qq r_162) 1)) := H190 1 (by rw [S190]; decide)
  obtain ⟨cl193, Ar193, Q193, S193, M193, H193, G193⟩ := id f180
  have in194 : ¬ ((Int32.ofNat (opn2_156 near_178)) < 0 ∨ cl193.slots.size ≤ ((Int32.ofNat (opn2_156 near_178))).toNatClampNeg) := inb_of S193 ⟨nn32 (by omega), lt32 (n := 3) hs1 (by omega)⟩
  have at195 : cl193.slots[((Int32.ofNat (opn2_156 near_178))).toNatClampNeg]? = some (.long ((own_up (own_sel p1.toInt64 p2.toInt64 p3.toInt64) qq r_162) (opn2_156 near_178))) := by rw [n32 (by omega), H193 (opn2_156 near_178) (by rw [S193]; exact hs1), own_LJ_at _ hs1]
  obtain ⟨cl196, Ar196, Q196, S196, M196, H196, G196⟩ := id f180
  have in197 : ¬ ((2 : Int32) < 0 ∨ cl196.slots.size ≤ ((2 : Int32)).toNatClampNeg) := inb_of S196 ⟨by decide, by decide⟩
  have at198 : cl196.slots[((2 : Int32)).toNatClampNeg]? = some (.long ((own_up (own_sel p1.toInt64 p2.toInt64 p3.toInt64) qq r_162) 2)) := H196 2 (by rw [S196]; decide)
  obtain ⟨cq199, kq199, q199a, q199b, q199c⟩ := isOf hZ rfl x178_0
  obtain ⟨_, _, ⟨T199, L199, kk199, nn199⟩, -, X199, ⟨Lc199, hQ199, l199, y199, z199⟩, st199⟩ := X178.virtualBack hx (y := (⟨"com/example/slotwright/slotwright/exchange/Frontier", "isSettled", "(I)Z"⟩ : MethodName)) (z := (⟨"com/example/slotwright/slotwright/exchange/Frontier", "isSettled", "(I)Z"⟩ : MethodName)) hown (mvT hZ (hw _ (List.mem_of_getElem? (i := 53) rfl))) (mvT hZ (hw _ (List.mem_of_getElem? (i := 54) rfl))) (notFace_of_selects (args := #[]) (mvT hZ (hw _ (List.mem_of_getElem? (i := 56) rfl)))) (mvT hZ (hw _ (List.mem_of_getElem? (i := 56) rfl))) (mvT hZ (hw _ (List.mem_of_getElem? (i := 55) rfl))) (by decide) (backOf (W := 0) (rmFstl l Z a0 hw [] b124 aS_127 kS_127 3 (own_up (fun _ => 0) (opn2_156 near_178) 1) (opn2_156 near_178) T178.heap n0 z179 x178_2 x178_8 (by decide) (hs1)) hZ (hw _ (List.mem_of_getElem? (i := 57) rfl)) (hw _ (List.mem_of_getElem? (i := 4) rfl)) (by decide) (by decide)) q199a q199c (g := (mkF m 236 #[.val (.int p1), .val (.int p2), .val (.int p3), .val (.int p4), .val (.int p5), .val (.int p6), .val (.ref b101), .val (.int r_), .val (.int (Int32.ofNat x0)), .val (.int o1_), .val (.int o2_), .val (.int (Int32.ofNat x1)), .val (.int (Int32.ofNat x2)), .val (.int (Int32.ofNat qq)), .val (.ref b124), .val (.int (Int32.ofNat (opn2_156 near_178))), .unset, .unset, .unset] [(.int (Int32.ofNat (opn2_156 near_178))), (.ref b124)])) rfl (by rw [hml]; rfl) (Steps.refl _) (argsL := [(.int (Int32.ofNat (opn2_156 near_178)))]) (rest := []) (lenOf pd__28I_29Z rfl) rfl (by show 2 * 0 + _ ≤ _; exact Nat.le_of_eq rfl) (hb hby at_236) (fun _ _ => ⟨rfl, rfl, (by decide : 6 + 0 ≤ _), (by decide : 25 + 0 ≤ _)⟩)
  dsimp only [Pt.U, Pt.locs, Pt.cells, Pt.slots] at X199 l199 y199 z199 st199 hQ199
  subst l199 y199 z199
  obtain ⟨rfl, N199q, e199⟩ := hQ199
  have N199 := Fr.app N178 N199q
  obtain ⟨cq200, kq200, q200a, q200b, q200c⟩ := isOf hZ e199 x178_0
  obtain ⟨_, _, ⟨T200, L200, kk200, nn200⟩, -, X200, ⟨Lc200, hQ200, l200, y200, z200⟩, st200⟩ := X199.virtualBack hx (y := (⟨"com/example/slotwright/slotwright/exchange/Frontier", "isSettled", "(I)Z"⟩ : MethodName)) (z := (⟨"com/example/slotwright/slotwright/exchange/Frontier", "isSettled", "(I)Z"⟩ : MethodName)) hown (mvT hZ (hw _ (List.mem_of_getElem? (i := 53) rfl))) (mvT hZ (hw _ (List.mem_of_getElem? (i := 54) rfl))) (notFace_of_selects (args := #[]) (mvT hZ (hw _ (List.mem_of_getElem? (i := 56) rfl)))) (mvT hZ (hw _ (List.mem_of_getElem? (i := 56) rfl))) (mvT hZ (hw _ (List.mem_of_getElem? (i := 55) rfl))) (by decide) (backOf (W := 0) (rmFstl l Z a0 hw [] b124 aS_127 kS_127 3 (own_up (fun _ => 0) (opn2_156 near_178) 1) (((opn2_156 near_178) + 1) % 3) T178.heap n0 z179 x178_2 x178_8 (by decide) (Nat.mod_lt _ (by decide))) hZ (hw _ (List.mem_of_getElem? (i := 57) rfl)) (hw _ (List.mem_of_getElem? (i := 4) rfl)) (by decide) (by decide)) q200a q200c (g := (mkF m 252 #[.val (.int p1), .val (.int p2), .val (.int p3), .val (.int p4), .val (.int p5), .val (.int p6), .val (.ref b101), .val (.int r_), .val (.int (Int32.ofNat x0)), .val (.int o1_), .val (.int o2_), .val (.int (Int32.ofNat x1)), .val (.int (Int32.ofNat x2)), .val (.int (Int32.ofNat qq)), .val (.ref b124), .val (.int (Int32.ofNat (opn2_156 near_178))), .unset, .unset, .unset] [(.int (Int32.ofNat (((opn2_156 near_178) + 1) % 3))), (.ref b124)])) rfl (by rw [hml]; rfl) (Steps.refl _) (argsL := [(.int (Int32.ofNat (((opn2_156 near_178) + 1) % 3)))]) (rest := []) (lenOf pd__28I_29Z rfl) rfl (by show 2 * 0 + _ ≤ _; exact Nat.le_of_eq rfl) (hb hby at_252) (fun _ _ => ⟨rfl, e199, (by decide : 6 + 0 ≤ _), (by decide : 25 + 0 ≤ _)⟩)
  dsimp only [Pt.U, Pt.locs, Pt.cells, Pt.slots] at X200 l200 y200 z200 st200 hQ200
  subst l200 y200 z200
  obtain ⟨rfl, N200q, e200⟩ := hQ200
  have N200 := Fr.app N199 N200q
  obtain ⟨cq201, kq201, q201a, q201b, q201c⟩ := isOf hZ e200 x178_0
  obtain ⟨_, _, ⟨T201, L201, kk201, nn201⟩, -, X201, ⟨Lc201, hQ201, l201, y201, z201⟩, st201⟩ := X200.virtualBack hx (y := (⟨"com/example/slotwright/slotwright/exchange/Frontier", "settleNearest", "()I"⟩ : MethodName)) (z := (⟨"com/example/slotwright/slotwright/exchange/Frontier", "settleNearest", "()I"⟩ : MethodName)) hown (mvT hZ (hw _ (List.mem_of_getElem? (i := 48) rfl))) (mvT hZ (hw _ (List.mem_of_getElem? (i := 49) rfl))) (notFace_of_selects (args := #[]) (mvT hZ (hw _ (List.mem_of_getElem? (i := 51) rfl)))) (mvT hZ (hw _ (List.mem_of_getElem? (i := 51) rfl))) (mvT hZ (hw _ (List.mem_of_getElem? (i := 50) rfl))) (by decide) (backOf (W := 0) (rmFsettle l Z a0 hw [] b124 aD_127 aS_127 aR_127 aO_127 kD_127 kS_127 kR_127 kO_127 3 dist2_156 (own_up (fun _ => 0) (opn2_156 near_178) 1) rch2_156 rc2_156 (own_up opn2_156 near_178 (opn2_156 (oc2_156 - 1))) (oc2_156 - 1) T178.heap n0 z179 x178_0 x178_1 x178_2 x178_3 x178_4 x178_5 x178_6 x178_7 x178_8 x178_9 x178_10 ne130 ne132 ne134 ne136 x127_15 x127_16 x127_17 x127_18 x127_19 x127_20 g_b124 g_aD_127 g_aS_127 g_aR_127 g_aO_127 (by decide) (by omega) (by omega) (fun j hj => (W5.2.2.2.1 j hj).1) (W5.2.2.2.2.2.2)) hZ (hw _ (List.mem_of_getElem? (i := 52) rfl)) (hw _ (List.mem_of_getElem? (i := 4) rfl)) (by decide) (by decide)) q201a q201c (g := (mkF m 262 #[.val (.int p1), .val (.int p2), .val (.int p3), .val (.int p4), .val (.int p5), .val (.int p6), .val (.ref b101), .val (.int r_), .val (.int (Int32.ofNat x0)), .val (.int o1_), .val (.int o2_), .val (.int (Int32.ofNat x1)), .val (.int (Int32.ofNat x2)), .val (.int (Int32.ofNat qq)), .val (.ref b124), .val (.int (Int32.ofNat (opn2_156 near_178))), .unset, .unset, .unset] [(.ref b124)])) rfl (by rw [hml]; rfl) (Steps.refl _) (argsL := []) (rest := []) (lenOf pd__28_29I rfl) rfl (by show 2 * 0 + _ ≤ _; exact Nat.le_of_eq rfl) (hb hby at_262) (fun _ _ => ⟨rfl, e200, (by decide : 6 + 0 ≤ _), (by decide : 25 + 0 ≤ _)⟩)
  dsimp only [Pt.U, Pt.locs, Pt.cells, Pt.slots] at X201 l201 y201 z201 st201 hQ201
  subst l201 y201 z201
  obtain ⟨near_201, rfl, N201q, K201, x201_0, x201_1, x201_2, x201_3, x201_4, x201_5, x201_6, x201_7, x201_8, x201_9, x201_10, x201_11⟩ := hQ201
  have N201 := Fr.app N200 N201q
  have z202 : n0 ≤ T201.heap.size := Nat.le_trans z179 K201.1
  have W6 := own_WF_settle W5 x201_11.1
  have hs2 : ((own_up opn2_156 near_178 (opn2_156 (oc2_156 - 1))) near_201) < 3 := (W5.2.2.2.1 _ x201_11.1).1
  have hne2 := hr1.2.1 _ x201_11.1
  have hr2 := own_rem hr1.1 x201_11.1
  have ht3 : (3 - (opn2_156 near_178) - ((own_up opn2_156 near_178 (opn2_156 (oc2_156 - 1))) near_201)) < 3 := by omega
  have htn1 : (3 - (opn2_156 near_178) - ((own_up opn2_156 near_178 (opn2_156 (oc2_156 - 1))) near_201)) ≠ (opn2_156 near_178) := by omega
  have htn2 : (3 - (opn2_156 near_178) - ((own_up opn2_156 near_178 (opn2_156 (oc2_156 - 1))) near_201)) ≠ ((own_up opn2_156 near_178 (opn2_156 (oc2_156 - 1))) near_201) := by omega
  have hmin2 := own_min hd4 hs4 (fun k hk => (W5.2.2.2.1 k hk).1) x201_11 (hr1.2.2.1 _ htn1 (hi4b _ ht3))
  have f203 : Arv Z T201.heap b101 k101 .long (3 : Int32) (own_LJ (own_up (own_sel p1.toInt64 p2.toInt64 p3.toInt64) qq r_162) 3) (.long (0 : Int64)) := (f180.keep K201 (own_nmc ne125 (own_nmc ne135 (own_nmc ne131 own_nm0))))
  obtain ⟨cl204, Ar204, Q204, S204, M204, H204, G204⟩ := id f203
  have in205 : ¬ ((Int32.ofNat ((own_up opn2_156 near_178 (opn2_156 (oc2_156 - 1))) near_201)) < 0 ∨ cl204.slots.size ≤ ((Int32.ofNat ((own_up opn2_156 near_178 (opn2_156 (oc2_156 - 1))) near_201))).toNatClampNeg) := inb_of S204 ⟨nn32 (by omega), lt32 (n := 3) hs2 (by omega)⟩
  have at206 : cl204.slots[((Int32.ofNat ((own_up opn2_156 near_178 (opn2_156 (oc2_156 - 1))) near_201))).toNatClampNeg]? = some (.long ((own_up (own_sel p1.toInt64 p2.toInt64 p3.toInt64) qq r_162) ((own_up opn2_156 near_178 (opn2_156 (oc2_156 - 1))) near_201))) := by rw [n32 (by omega), H204 ((own_up opn2_156 near_178 (opn2_156 (oc2_156 - 1))) near_201) (by rw [S204]; exact hs2), own_LJ_at _ hs2]
  obtain ⟨cl207, Ar207, Q207, S207, M207, H207, G207⟩ := id f203
  have in208 : ¬ ((Int32.ofNat (3 - (opn2_156 near_178) - ((own_up opn2_156 near_178 (opn2_156 (oc2_156 - 1))) near_201))) < 0 ∨ cl207.slots.size ≤ ((Int32.ofNat (3 - (opn2_156 near_178) - ((own_up opn2_156 near_178 (opn2_156 (oc2_156 - 1))) near_201)))).toNatClampNeg) := inb_of S207 ⟨nn32 (by omega), lt32 (n := 3) ht3 (by omega)⟩
  have at209 : cl207.slots[((Int32.ofNat (3 - (opn2_156 near_178) - ((own_up opn2_156 near_178 (opn2_156 (oc2_156 - 1))) near_201)))).toNatClampNeg]? = some (.long ((own_up (own_sel p1.toInt64 p2.toInt64 p3.toInt64) qq r_162) (3 - (opn2_156 near_178) - ((own_up opn2_156 near_178 (opn2_156 (oc2_156 - 1))) near_201)))) := by rw [n32 (by omega), H207 (3 - (opn2_156 near_178) - ((own_up opn2_156 near_178 (opn2_156 (oc2_156 - 1))) near_201)) (by rw [S207]; exact ht3), own_LJ_at _ ht3]
  obtain ⟨cq210, kq210, q210a, q210b, q210c⟩ := isOf hZ rfl x201_0
  obtain ⟨_, _, ⟨T210, L210, kk210, nn210⟩, -, X210, ⟨Lc210, hQ210, l210, y210, z210⟩, st210⟩ := X201.virtualBack hx (y := (⟨"com/example/slotwright/slotwright/exchange/Frontier", "settleNearest", "()I"⟩ : MethodName)) (z := (⟨"com/example/slotwright/slotwright/exchange/Frontier", "settleNearest", "()I"⟩ : MethodName)) hown (mvT hZ (hw _ (List.mem_of_getElem? (i := 48) rfl))) (mvT hZ (hw _ (List.mem_of_getElem? (i := 49) rfl))) (notFace_of_selects (args := #[]) (mvT hZ (hw _ (List.mem_of_getElem? (i := 51) rfl)))) (mvT hZ (hw _ (List.mem_of_getElem? (i := 51) rfl))) (mvT hZ (hw _ (List.mem_of_getElem? (i := 50) rfl))) (by decide) (backOf (W := 0) (rmFsettle l Z a0 hw [] b124 aD_127 aS_127 aR_127 aO_127 kD_127 kS_127 kR_127 kO_127 3 dist2_156 (own_up (own_up (fun _ => 0) (opn2_156 near_178) 1) ((own_up opn2_156 near_178 (opn2_156 (oc2_156 - 1))) near_201) 1) rch2_156 rc2_156 (own_up (own_up opn2_156 near_178 (opn2_156 (oc2_156 - 1))) near_201 ((own_up opn2_156 near_178 (opn2_156 (oc2_156 - 1))) ((oc2_156 - 1) - 1))) ((oc2_156 - 1) - 1) T201.heap n0 z202 x201_0 x201_1 x201_2 x201_3 x201_4 x201_5 x201_6 x201_7 x201_8 x201_9 x201_10 ne130 ne132 ne134 ne136 x127_15 x127_16 x127_17 x127_18 x127_19 x127_20 g_b124 g_aD_127 g_aS_127 g_aR_127 g_aO_127 (by decide) (by omega) (by omega) (fun j hj => (W6.2.2.2.1 j hj).1) (W6.2.2.2.2.2.2)) hZ (hw _ (List.mem_of_getElem? (i := 52) rfl)) (hw _ (List.mem_of_getElem? (i := 4) rfl)) (by decide) (by decide)) q210a q210c (g := (mkF m 314 #[.val (.int p1), .val (.int p2), .val (.int p3), .val (.int p4), .val (.int p5), .val (.int p6), .val (.ref b101), .val (.int r_), .val (.int (Int32.ofNat x0)), .val (.int o1_), .val (.int o2_), .val (.int (Int32.ofNat x1)), .val (.int (Int32.ofNat x2)), .val (.int (Int32.ofNat qq)), .val (.ref b124), .val (.int (Int32.ofNat (opn2_156 near_178))), .val (.int (Int32.ofNat ((own_up opn2_156 near_178 (opn2_156 (oc2_156 - 1))) near_201))), .val (.int (Int32.ofNat (3 - (opn2_156 near_178) - ((own_up opn2_156 near_178 (opn2_156 (oc2_156 - 1))) near_201)))), .unset] [(.ref b124)])) rfl (by rw [hml]; rfl) (Steps.refl _) (argsL := []) (rest := []) (lenOf pd__28_29I rfl) rfl (by show 2 * 0 + _ ≤ _; exact Nat.le_of_eq rfl) (hb hby at_314) (fun _ _ => ⟨rfl, rfl, (by decide : 6 + 0 ≤ _), (by decide : 25 + 0 ≤ _)⟩)
  dsimp only [Pt.U, Pt.locs, Pt.cells, Pt.slots] at X210 l210 y210 z210 st210 hQ210
  subst l210 y210 z210
  obtain ⟨near_210, rfl, N210q, K210, x210_0, x210_1, x210_2, x210_3, x210_4, x210_5, x210_6, x210_7, x210_8, x210_9, x210_10, x210_11⟩ := hQ210
  have N210 := Fr.app N201 N210q
  have z211 : n0 ≤ T210.heap.size := Nat.le_trans z202 K210.1
  have hs3 : ((own_up (own_up opn2_156 near_178 (opn2_156 (oc2_156 - 1))) near_201 ((own_up opn2_156 near_178 (opn2_156 (oc2_156 - 1))) ((oc2_156 - 1) - 1))) near_210) < 3 := (W6.2.2.2.1 _ x210_11.1).1
  have hne3 := hr2.2.1 _ x210_11.1
  obtain ⟨i3, hi3, ei3⟩ := hr2.2.2.2 _ x210_11.1
  have hne4 : ((own_up (own_up opn2_156 near_178 (opn2_156 (oc2_156 - 1))) near_201 ((own_up opn2_156 near_178 (opn2_156 (oc2_156 - 1))) ((oc2_156 - 1) - 1))) near_210) ≠ (opn2_156 near_178) := by rw [ei3]; exact hr1.2.1 _ hi3
  obtain ⟨cq212, kq212, q212a, q212b, q212c⟩ := isOf hZ rfl x210_0
  obtain ⟨_, _, ⟨T212, L212, kk212, nn212⟩, -, X212, ⟨Lc212, hQ212, l212, y212, z212⟩, st212⟩ := X210.virtualBack hx (y := (⟨"com/example/slotwright/slotwright/exchange/Frontier", "isEmpty", "()Z"⟩ : MethodName)) (z := (⟨"com/example/slotwright/slotwright/exchange/Frontier", "isEmpty", "()Z"⟩ : MethodName)) hown (mvT hZ (hw _ (List.mem_of_getElem? (i := 58) rfl))) (mvT hZ (hw _ (List.mem_of_getElem? (i := 59) rfl))) (notFace_of_selects (args := #[]) (mvT hZ (hw _ (List.mem_of_getElem? (i := 61) rfl)))) (mvT hZ (hw _ (List.mem_of_getElem? (i := 61) rfl))) (mvT hZ (hw _ (List.mem_of_getElem? (i := 60) rfl))) (by decide) (backOf (W := 0) (rmFisEmpty l Z a0 hw [] b124 (Int32.ofNat (((oc2_156 - 1) - 1) - 1)) T210.heap n0 z211 x210_6) hZ (hw _ (List.mem_of_getElem? (i := 62) rfl)) (hw _ (List.mem_of_getElem? (i := 4) rfl)) (by decide) (by decide)) q212a q212c (g := (mkF m 330 #[.val (.int p1), .val (.int p2), .val (.int p3), .val (.int p4), .val (.int p5), .val (.int p6), .val (.ref b101), .val (.int r_), .val (.int (Int32.ofNat x0)), .val (.int o1_), .val (.int o2_), .val (.int (Int32.ofNat x1)), .val (.int (Int32.ofNat x2)), .val (.int (Int32.ofNat qq)), .val (.ref b124), .val (.int (Int32.ofNat (opn2_156 near_178))), .val (.int (Int32.ofNat ((own_up opn2_156 near_178 (opn2_156 (oc2_156 - 1))) near_201))), .val (.int (Int32.ofNat (3 - (opn2_156 near_178) - ((own_up opn2_156 near_178 (opn2_156 (oc2_156 - 1))) near_201)))), .val (.int (Int32.ofNat ((own_up (own_up opn2_156 near_178 (opn2_156 (oc2_156 - 1))) near_201 ((own_up opn2_156 near_178 (opn2_156 (oc2_156 - 1))) ((oc2_156 - 1) - 1))) near_210)))] [(.ref b124)])) rfl (by rw [hml]; rfl) (Steps.refl _) (argsL := []) (rest := []) (lenOf pd__28_29Z rfl) rfl (by show 2 * 0 + _ ≤ _; exact Nat.le_of_eq rfl) (hb hby at_330) (fun _ _ => ⟨rfl, rfl, (by decide : 6 + 0 ≤ _), (by decide : 25 + 0 ≤ _)⟩)
  dsimp only [Pt.U, Pt.locs, Pt.cells, Pt.slots] at X212 l212 y212 z212 st212 hQ212
  subst l212 y212 z212
  obtain ⟨r_212, rfl, N212q, e212, x212_0, x212_1⟩ := hQ212
  have N212 := Fr.app N210 N212q
  have pre213 : ∀ t_, Steps p.tables e below (T212.setTop (mkF m 333 #[.val (.int p1), .val (.int p2), .val (.int p3), .val (.int p4), .val (.int p5), .val (.int p6), .val (.ref b101), .val (.int r_), .val (.int (Int32.ofNat x0)), .val (.int o1_), .val (.int o2_), .val (.int (Int32.ofNat x1)), .val (.int (Int32.ofNat x2)), .val (.int (Int32.ofNat qq)), .val (.ref b124), .val (.int (Int32.ofNat (opn2_156 near_178))), .val (.int (Int32.ofNat ((own_up opn2_156 near_178 (opn2_156 (oc2_156 - 1))) near_201))), .val (.int (Int32.ofNat (3 - (opn2_156 near_178) - ((own_up opn2_156 near_178 (opn2_156 (oc2_156 - 1))) near_201)))), .val (.int (Int32.ofNat ((own_up (own_up opn2_156 near_178 (opn2_156 (oc2_156 - 1))) near_201 ((own_up opn2_156 near_178 (opn2_156 (oc2_156 - 1))) ((oc2_156 - 1) - 1))) near_210)))] [(.int r_212)])) t_ → Steps p.tables e below (s₁.setTop (entryFrame m #[(.int p1), (.int p2), (.int p3), (.int p4), (.int p5), (.int p6)] maxLocals)) t_ := fun t_ kt => pre117 t_ (by
      show Steps p.tables e below (T113.setTop (mkF m 85 #[.val (.int p1), .val (.int p2), .val (.int p3), .val (.int p4), .val (.int p5), .val (.int p6), .val (.ref b101), .val (.int r_), .val (.int (Int32.ofNat x0)), .val (.int o1_), .val (.int o2_), .val (.int (Int32.ofNat x1)), .val (.int (Int32.ofNat x2)), .unset, .unset, .unset, .unset, .unset, .unset] [])) _
      refine XS.iload X113.here hx rfl (hb hby at_85) rfl ?_
      show Steps p.tables e below (T113.setTop (mkF m 87 #[.val (.int p1), .val (.int p2), .val (.int p3), .val (.int p4), .val (.int p5), .val (.int p6), .val (.ref b101), .val (.int r_), .val (.int (Int32.ofNat x0)), .val (.int o1_), .val (.int o2_), .val (.int (Int32.ofNat x1)), .val (.int (Int32.ofNat x2)), .unset, .unset, .unset, .unset, .unset, .unset] [(.int p6)])) _
      refine X113.ldcInt hx hown (mvT hZ (hw _ (List.mem_of_getElem? (i := 1) rfl))) (g := (mkF m 87 #[.val (.int p1), .val (.int p2), .val (.int p3), .val (.int p4), .val (.int p5), .val (.int p6), .val (.ref b101), .val (.int r_), .val (.int (Int32.ofNat x0)), .val (.int o1_), .val (.int o2_), .val (.int (Int32.ofNat x1)), .val (.int (Int32.ofNat x2)), .unset, .unset, .unset, .unset, .unset, .unset] [(.int p6)])) rfl (hb hby at_87) _ ?_
      show Steps p.tables e below (T113.setTop (mkF m 89 #[.val (.int p1), .val (.int p2), .val (.int p3), .val (.int p4), .val (.int p5), .val (.int p6), .val (.ref b101), .val (.int r_), .val (.int (Int32.ofNat x0)), .val (.int o1_), .val (.int o2_), .val (.int (Int32.ofNat x1)), .val (.int (Int32.ofNat x2)), .unset, .unset, .unset, .unset, .unset, .unset] [(.int (2147483647 : Int32)), (.int p6)])) _
      refine XS.iand X113.here hx rfl (hb hby at_89) rfl ?_
      show Steps p.tables e below (T113.setTop (mkF m 90 #[.val (.int p1), .val (.int p2), .val (.int p3), .val (.int p4), .val (.int p5), .val (.int p6), .val (.ref b101), .val (.int r_), .val (.int (Int32.ofNat x0)), .val (.int o1_), .val (.int o2_), .val (.int (Int32.ofNat x1)), .val (.int (Int32.ofNat x2)), .unset, .unset, .unset, .unset, .unset, .unset] [(.int (p6 &&& (2147483647 : Int32)))])) _
      refine XS.iconst X113.here hx rfl (hb hby at_90) ?_
      show Steps p.tables e below (T113.setTop (mkF m 91 #[.val (.int p1), .val (.int p2), .val (.int p3), .val (.int p4), .val (.int p5), .val (.int p6), .val (.ref b101), .val (.int r_), .val (.int (Int32.ofNat x0)), .val (.int o1_), .val (.int o2_), .val (.int (Int32.ofNat x1)), .val (.int (Int32.ofNat x2)), .unset, .unset, .unset, .unset, .unset, .unset] [(.int (3 : Int32)), (.int (p6 &&& (2147483647 : Int32)))])) _
      refine iremM X113 hx rfl (hb hby at_91) rfl (by decide) ?_
      show Steps p.tables e below (T113.setTop (mkF m 92 #[.val (.int p1), .val (.int p2), .val (.int p3), .val (.int p4), .val (.int p5), .val (.int p6), .val (.ref b101), .val (.int r_), .val (.int (Int32.ofNat x0)), .val (.int o1_), .val (.int o2_), .val (.int (Int32.ofNat x1)), .val (.int (Int32.ofNat x2)), .unset, .unset, .unset, .unset, .unset, .unset] [(.int ((p6 &&& (2147483647 : Int32)) % (3 : Int32)))])) _
      rw [eq_]
      show Steps p.tables e below (T113.setTop (mkF m 92 #[.val (.int p1), .val (.int p2), .val (.int p3), .val (.int p4), .val (.int p5), .val (.int p6), .val (.ref b101), .val (.int r_), .val (.int (Int32.ofNat x0)), .val (.int o1_), .val (.int o2_), .val (.int (Int32.ofNat x1)), .val (.int (Int32.ofNat x2)), .unset, .unset, .unset, .unset, .unset, .unset] [(.int (Int32.ofNat qq))])) _
      refine XS.istore X113.here hx rfl (hb hby at_92) rfl (l' := #[.val (.int p1), .val (.int p2), .val (.int p3), .val (.int p4), .val (.int p5), .val (.int p6), .val (.ref b101), .val (.int r_), .val (.int (Int32.ofNat x0)), .val (.int o1_), .val (.int o2_), .val (.int (Int32.ofNat x1)), .val (.int (Int32.ofNat x2)), .val (.int (Int32.ofNat qq)), .unset, .unset, .unset, .unset, .unset]) rfl ?_
      show Steps p.tables e below (T113.setTop (mkF m 94 #[.val (.int p1), .val (.int p2), .val (.int p3), .val (.int p4), .val (.int p5), .val (.int p6), .val (.ref b101), .val (.int r_), .val (.int (Int32.ofNat x0)), .val (.int o1_), .val (.int o2_), .val (.int (Int32.ofNat x1)), .val (.int (Int32.ofNat x2)), .val (.int (Int32.ofNat qq)), .unset, .unset, .unset, .unset, .unset] [])) _
      refine st124 _ ?_
      show Steps p.tables e below (T124.setTop (mkF m 97 #[.val (.int p1), .val (.int p2), .val (.int p3), .val (.int p4), .val (.int p5), .val (.int p6), .val (.ref b101), .val (.int r_), .val (.int (Int32.ofNat x0)), .val (.int o1_), .val (.int o2_), .val (.int (Int32.ofNat x1)), .val (.int (Int32.ofNat x2)), .val (.int (Int32.ofNat qq)), .unset, .unset, .unset, .unset, .unset] [(.ref b124)])) _
      refine XS.dup X124.here hx rfl (hb hby at_97) rfl rfl ?_
      show Steps p.tables e below (T124.setTop (mkF m 98 #[.val (.int p1), .val (.int p2), .val (.int p3), .val (.int p4), .val (.int p5), .val (.int p6), .val (.ref b101), .val (.int r_), .val (.int (Int32.ofNat x0)), .val (.int o1_), .val (.int o2_), .val (.int (Int32.ofNat x1)), .val (.int (Int32.ofNat x2)), .val (.int (Int32.ofNat qq)), .unset, .unset, .unset, .unset, .unset] [(.ref b124), (.ref b124)])) _
      refine XS.iconst X124.here hx rfl (hb hby at_98) ?_
      show Steps p.tables e below (T124.setTop (mkF m 99 #[.val (.int p1), .val (.int p2), .val (.int p3), .val (.int p4), .val (.int p5), .val (.int p6), .val (.ref b101), .val (.int r_), .val (.int (Int32.ofNat x0)), .val (.int o1_), .val (.int o2_), .val (.int (Int32.ofNat x1)), .val (.int (Int32.ofNat x2)), .val (.int (Int32.ofNat qq)), .unset, .unset, .unset, .unset, .unset] [(.int (3 : Int32)), (.ref b124), (.ref b124)])) _
      refine st127.trans ?_
      show Steps p.tables e below (T127.setTop (mkF m 102 #[.val (.int p1), .val (.int p2), .val (.int p3), .val (.int p4), .val (.int p5), .val (.int p6), .val (.ref b101), .val (.int r_), .val (.int (Int32.ofNat x0)), .val (.int o1_), .val (.int o2_), .val (.int (Int32.ofNat x1)), .val (.int (Int32.ofNat x2)), .val (.int (Int32.ofNat qq)), .unset, .unset, .unset, .unset, .unset] [(.ref b124)])) _
      refine XS.astore X127.here hx rfl (hb hby at_102) rfl rfl (l' := #[.val (.int p1), .val (.int p2), .val (.int p3), .val (.int p4), .val (.int p5), .val (.int p6), .val (.ref b101), .val (.int r_), .val (.int (Int32.ofNat x0)), .val (.int o1_), .val (.int o2_), .val (.int (Int32.ofNat x1)), .val (.int (Int32.ofNat x2)), .val (.int (Int32.ofNat qq)), .val (.ref b124), .unset, .unset, .unset, .unset]) rfl ?_
      show Steps p.tables e below (T127.setTop (mkF m 104 #[.val (.int p1), .val (.int p2), .val (.int p3), .val (.int p4), .val (.int p5), .val (.int p6), .val (.ref b101), .val (.int r_), .val (.int (Int32.ofNat x0)), .val (.int o1_), .val (.int o2_), .val (.int (Int32.ofNat x1)), .val (.int (Int32.ofNat x2)), .val (.int (Int32.ofNat qq)), .val (.ref b124), .unset, .unset, .unset, .unset] [])) _
      refine XS.aload X127.here hx rfl (hb hby at_104) rfl rfl ?_
      show Steps p.tables e below (T127.setTop (mkF m 106 #[.val (.int p1), .val (.int p2), .val (.int p3), .val (.int p4), .val (.int p5), .val (.int p6), .val (.ref b101), .val (.int r_), .val (.int (Int32.ofNat x0)), .val (.int o1_), .val (.int o2_), .val (.int (Int32.ofNat x1)), .val (.int (Int32.ofNat x2)), .val (.int (Int32.ofNat qq)), .val (.ref b124), .unset, .unset, .unset, .unset] [(.ref b124)])) _
      refine XS.iload X127.here hx rfl (hb hby at_106) rfl ?_
      show Steps p.tables e below (T127.setTop (mkF m 108 #[.val (.int p1), .val (.int p2), .val (.int p3), .val (.int p4), .val (.int p5), .val (.int p6), .val (.ref b101), .val (.int r_), .val (.int (Int32.ofNat x0)), .val (.int o1_), .val (.int o2_), .val (.int (Int32.ofNat x1)), .val (.int (Int32.ofNat x2)), .val (.int (Int32.ofNat qq)), .val (.ref b124), .unset, .unset, .unset, .unset] [(.int (Int32.ofNat x0)), (.ref b124)])) _
      refine XS.aload X127.here hx rfl (hb hby at_108) rfl rfl ?_
      show Steps p.tables e below (T127.setTop (mkF m 110 #[.val (.int p1), .val (.int p2), .val (.int p3), .val (.int p4), .val (.int p5), .val (.int p6), .val (.ref b101), .val (.int r_), .val (.int (Int32.ofNat x0)), .val (.int o1_), .val (.int o2_), .val (.int (Int32.ofNat x1)), .val (.int (Int32.ofNat x2)), .val (.int (Int32.ofNat qq)), .val (.ref b124), .unset, .unset, .unset, .unset] [(.ref b101), (.int (Int32.ofNat x0)), (.ref b124)])) _
      refine XS.iload X127.here hx rfl (hb hby at_110) rfl ?_
      show Steps p.tables e below (T127.setTop (mkF m 112 #[.val (.int p1), .val (.int p2), .val (.int p3), .val (.int p4), .val (.int p5), .val (.int p6), .val (.ref b101), .val (.int r_), .val (.int (Int32.ofNat x0)), .val (.int o1_), .val (.int o2_), .val (.int (Int32.ofNat x1)), .val (.int (Int32.ofNat x2)), .val (.int (Int32.ofNat qq)), .val (.ref b124), .unset, .unset, .unset, .unset] [(.int (Int32.ofNat x0)), (.ref b101), (.int (Int32.ofNat x0)), (.ref b124)])) _
      refine X127.laload hx (j := (Int32.ofNat x0)) (v := (.long ((own_sel p1.toInt64 p2.toInt64 p3.toInt64) x0))) Ar139.1 (State.isArrayOf_alike hZ.alike Ar139.2.1) Ar139.2.2 in140 at141 (g := (mkF m 112 #[.val (.int p1), .val (.int p2), .val (.int p3), .val (.int p4), .val (.int p5), .val (.int p6), .val (.ref b101), .val (.int r_), .val (.int (Int32.ofNat x0)), .val (.int o1_), .val (.int o2_), .val (.int (Int32.ofNat x1)), .val (.int (Int32.ofNat x2)), .val (.int (Int32.ofNat qq)), .val (.ref b124), .unset, .unset, .unset, .unset] [(.int (Int32.ofNat x0)), (.ref b101), (.int (Int32.ofNat x0)), (.ref b124)])) rfl rfl (hb hby at_112) _ ?_
      show Steps p.tables e below (T127.setTop (mkF m 113 #[.val (.int p1), .val (.int p2), .val (.int p3), .val (.int p4), .val (.int p5), .val (.int p6), .val (.ref b101), .val (.int r_), .val (.int (Int32.ofNat x0)), .val (.int o1_), .val (.int o2_), .val (.int (Int32.ofNat x1)), .val (.int (Int32.ofNat x2)), .val (.int (Int32.ofNat qq)), .val (.ref b124), .unset, .unset, .unset, .unset] [(.long ((own_sel p1.toInt64 p2.toInt64 p3.toInt64) x0)), (.int (Int32.ofNat x0)), (.ref b124)])) _
      refine XS.l2dS X127.here hx rfl (hb hby at_113) rfl (v := (FP.l2d ((own_sel p1.toInt64 p2.toInt64 p3.toInt64) x0))) rfl ?_
      show Steps p.tables e below (T127.setTop (mkF m 114 #[.val (.int p1), .val (.int p2), .val (.int p3), .val (.int p4), .val (.int p5), .val (.int p6), .val (.ref b101), .val (.int r_), .val (.int (Int32.ofNat x0)), .val (.int o1_), .val (.int o2_), .val (.int (Int32.ofNat x1)), .val (.int (Int32.ofNat x2)), .val (.int (Int32.ofNat qq)), .val (.ref b124), .unset, .unset, .unset, .unset] [(.double (FP.l2d ((own_sel p1.toInt64 p2.toInt64 p3.toInt64) x0))), (.int (Int32.ofNat x0)), (.ref b124)])) _
      refine st142.trans ?_
      show Steps p.tables e below (T142.setTop (mkF m 117 #[.val (.int p1), .val (.int p2), .val (.int p3), .val (.int p4), .val (.int p5), .val (.int p6), .val (.ref b101), .val (.int r_), .val (.int (Int32.ofNat x0)), .val (.int o1_), .val (.int o2_), .val (.int (Int32.ofNat x1)), .val (.int (Int32.ofNat x2)), .val (.int (Int32.ofNat qq)), .val (.ref b124), .unset, .unset, .unset, .unset] [(.int r_142)])) _
      refine XS.pop X142.here hx rfl (hb hby at_117) rfl rfl ?_
      show Steps p.tables e below (T142.setTop (mkF m 118 #[.val (.int p1), .val (.int p2), .val (.int p3), .val (.int p4), .val (.int p5), .val (.int p6), .val (.ref b101), .val (.int r_), .val (.int (Int32.ofNat x0)), .val (.int o1_), .val (.int o2_), .val (.int (Int32.ofNat x1)), .val (.int (Int32.ofNat x2)), .val (.int (Int32.ofNat qq)), .val (.ref b124), .unset, .unset, .unset, .unset] [])) _
      refine XS.aload X142.here hx rfl (hb hby at_118) rfl rfl ?_
      show Steps p.tables e below (T142.setTop (mkF m 120 #[.val (.int p1), .val (.int p2), .val (.int p3), .val (.int p4), .val (.int p5), .val (.int p6), .val (.ref b101), .val (.int r_), .val (.int (Int32.ofNat x0)), .val (.int o1_), .val (.int o2_), .val (.int (Int32.ofNat x1)), .val (.int (Int32.ofNat x2)), .val (.int (Int32.ofNat qq)), .val (.ref b124), .unset, .unset, .unset, .unset] [(.ref b124)])) _
      refine XS.iload X142.here hx rfl (hb hby at_120) rfl ?_
      show Steps p.tables e below (T142.setTop (mkF m 122 #[.val (.int p1), .val (.int p2), .val (.int p3), .val (.int p4), .val (.int p5), .val (.int p6), .val (.ref b101), .val (.int r_), .val (.int (Int32.ofNat x0)), .val (.int o1_), .val (.int o2_), .val (.int (Int32.ofNat x1)), .val (.int (Int32.ofNat x2)), .val (.int (Int32.ofNat qq)), .val (.ref b124), .unset, .unset, .unset, .unset] [(.int (Int32.ofNat x1)), (.ref b124)])) _
      refine XS.aload X142.here hx rfl (hb hby at_122) rfl rfl ?_
      show Steps p.tables e below (T142.setTop (mkF m 124 #[.val (.int p1), .val (.int p2), .val (.int p3), .val (.int p4), .val (.int p5), .val (.int p6), .val (.ref b101), .val (.int r_), .val (.int (Int32.ofNat x0)), .val (.int o1_), .val (.int o2_), .val (.int (Int32.ofNat x1)), .val (.int (Int32.ofNat x2)), .val (.int (Int32.ofNat qq)), .val (.ref b124), .unset, .unset, .unset, .unset] [(.ref b101), (.int (Int32.ofNat x1)), (.ref b124)])) _
      refine XS.iload X142.here hx rfl (hb hby at_124) rfl ?_
      show Steps p.tables e below (T142.setTop (mkF m 126 #[.val (.int p1), .val (.int p2), .val (.int p3), .val (.int p4), .val (.int p5), .val (.int p6), .val (.ref b101), .val (.int r_), .val (.int (Int32.ofNat x0)), .val (.int o1_), .val (.int o2_), .val (.int (Int32.ofNat x1)), .val (.int (Int32.ofNat x2)), .val (.int (Int32.ofNat qq)), .val (.ref b124), .unset, .unset, .unset, .unset] [(.int (Int32.ofNat x1)), (.ref b101), (.int (Int32.ofNat x1)), (.ref b124)])) _
      refine X142.laload hx (j := (Int32.ofNat x1)) (v := (.long ((own_sel p1.toInt64 p2.toInt64 p3.toInt64) x1))) Ar145.1 (State.isArrayOf_alike hZ.alike Ar145.2.1) Ar145.2.2 in146 at147 (g := (mkF m 126 #[.val (.int p1), .val (.int p2), .val (.int p3), .val (.int p4), .val (.int p5), .val (.int p6), .val (.ref b101), .val (.int r_), .val (.int (Int32.ofNat x0)), .val (.int o1_), .val (.int o2_), .val (.int (Int32.ofNat x1)), .val (.int (Int32.ofNat x2)), .val (.int (Int32.ofNat qq)), .val (.ref b124), .unset, .unset, .unset, .unset] [(.int (Int32.ofNat x1)), (.ref b101), (.int (Int32.ofNat x1)), (.ref b124)])) rfl rfl (hb hby at_126) _ ?_
      show Steps p.tables e below (T142.setTop (mkF m 127 #[.val (.int p1), .val (.int p2), .val (.int p3), .val (.int p4), .val (.int p5), .val (.int p6), .val (.ref b101), .val (.int r_), .val (.int (Int32.ofNat x0)), .val (.int o1_), .val (.int o2_), .val (.int (Int32.ofNat x1)), .val (.int (Int32.ofNat x2)), .val (.int (Int32.ofNat qq)), .val (.ref b124), .unset, .unset, .unset, .unset] [(.long ((own_sel p1.toInt64 p2.toInt64 p3.toInt64) x1)), (.int (Int32.ofNat x1)), (.ref b124)])) _
      refine XS.l2dS X142.here hx rfl (hb hby at_127) rfl (v := (FP.l2d ((own_sel p1.toInt64 p2.toInt64 p3.toInt64) x1))) rfl ?_
      show Steps p.tables e below (T142.setTop (mkF m 128 #[.val (.int p1), .val (.int p2), .val (.int p3), .val (.int p4), .val (.int p5), .val (.int p6), .val (.ref b101), .val (.int r_), .val (.int (Int32.ofNat x0)), .val (.int o1_), .val (.int o2_), .val (.int (Int32.ofNat x1)), .val (.int (Int32.ofNat x2)), .val (.int (Int32.ofNat qq)), .val (.ref b124), .unset, .unset, .unset, .unset] [(.double (FP.l2d ((own_sel p1.toInt64 p2.toInt64 p3.toInt64) x1))), (.int (Int32.ofNat x1)), (.ref b124)])) _
      refine st148.trans ?_
      show Steps p.tables e below (T148.setTop (mkF m 131 #[.val (.int p1), .val (.int p2), .val (.int p3), .val (.int p4), .val (.int p5), .val (.int p6), .val (.ref b101), .val (.int r_), .val (.int (Int32.ofNat x0)), .val (.int o1_), .val (.int o2_), .val (.int (Int32.ofNat x1)), .val (.int (Int32.ofNat x2)), .val (.int (Int32.ofNat qq)), .val (.ref b124), .unset, .unset, .unset, .unset] [(.int r_148)])) _
      refine XS.pop X148.here hx rfl (hb hby at_131) rfl rfl ?_
      show Steps p.tables e below (T148.setTop (mkF m 132 #[.val (.int p1), .val (.int p2), .val (.int p3), .val (.int p4), .val (.int p5), .val (.int p6), .val (.ref b101), .val (.int r_), .val (.int (Int32.ofNat x0)), .val (.int o1_), .val (.int o2_), .val (.int (Int32.ofNat x1)), .val (.int (Int32.ofNat x2)), .val (.int (Int32.ofNat qq)), .val (.ref b124), .unset, .unset, .unset, .unset] [])) _
      refine XS.aload X148.here hx rfl (hb hby at_132) rfl rfl ?_
      show Steps p.tables e below (T148.setTop (mkF m 134 #[.val (.int p1), .val (.int p2), .val (.int p3), .val (.int p4), .val (.int p5), .val (.int p6), .val (.ref b101), .val (.int r_), .val (.int (Int32.ofNat x0)), .val (.int o1_), .val (.int o2_), .val (.int (Int32.ofNat x1)), .val (.int (Int32.ofNat x2)), .val (.int (Int32.ofNat qq)), .val (.ref b124), .unset, .unset, .unset, .unset] [(.ref b124)])) _
      refine XS.iload X148.here hx rfl (hb hby at_134) rfl ?_
      show Steps p.tables e below (T148.setTop (mkF m 136 #[.val (.int p1), .val (.int p2), .val (.int p3), .val (.int p4), .val (.int p5), .val (.int p6), .val (.ref b101), .val (.int r_), .val (.int (Int32.ofNat x0)), .val (.int o1_), .val (.int o2_), .val (.int (Int32.ofNat x1)), .val (.int (Int32.ofNat x2)), .val (.int (Int32.ofNat qq)), .val (.ref b124), .unset, .unset, .unset, .unset] [(.int (Int32.ofNat x2)), (.ref b124)])) _
      refine XS.aload X148.here hx rfl (hb hby at_136) rfl rfl ?_
      show Steps p.tables e below (T148.setTop (mkF m 138 #[.val (.int p1), .val (.int p2), .val (.int p3), .val (.int p4), .val (.int p5), .val (.int p6), .val (.ref b101), .val (.int r_), .val (.int (Int32.ofNat x0)), .val (.int o1_), .val (.int o2_), .val (.int (Int32.ofNat x1)), .val (.int (Int32.ofNat x2)), .val (.int (Int32.ofNat qq)), .val (.ref b124), .unset, .unset, .unset, .unset] [(.ref b101), (.int (Int32.ofNat x2)), (.ref b124)])) _
      refine XS.iload X148.here hx rfl (hb hby at_138) rfl ?_
      show Steps p.tables e below (T148.setTop (mkF m 140 #[.val (.int p1), .val (.int p2), .val (.int p3), .val (.int p4), .val (.int p5), .val (.int p6), .val (.ref b101), .val (.int r_), .val (.int (Int32.ofNat x0)), .val (.int o1_), .val (.int o2_), .val (.int (Int32.ofNat x1)), .val (.int (Int32.ofNat x2)), .val (.int (Int32.ofNat qq)), .val (.ref b124), .unset, .unset, .unset, .unset] [(.int (Int32.ofNat x2)), (.ref b101), (.int (Int32.ofNat x2)), (.ref b124)])) _
      refine X148.laload hx (j := (Int32.ofNat x2)) (v := (.long ((own_sel p1.toInt64 p2.toInt64 p3.toInt64) x2))) Ar151.1 (State.isArrayOf_alike hZ.alike Ar151.2.1) Ar151.2.2 in152 at153 (g := (mkF m 140 #[.val (.int p1), .val (.int p2), .val (.int p3), .val (.int p4), .val (.int p5), .val (.int p6), .val (.ref b101), .val (.int r_), .val (.int (Int32.ofNat x0)), .val (.int o1_), .val (.int o2_), .val (.int (Int32.ofNat x1)), .val (.int (Int32.ofNat x2)), .val (.int (Int32.ofNat qq)), .val (.ref b124), .unset, .unset, .unset, .unset] [(.int (Int32.ofNat x2)), (.ref b101), (.int (Int32.ofNat x2)), (.ref b124)])) rfl rfl (hb hby at_140) _ ?_
      show Steps p.tables e below (T148.setTop (mkF m 141 #[.val (.int p1), .val (.int p2), .val (.int p3), .val (.int p4), .val (.int p5), .val (.int p6), .val (.ref b101), .val (.int r_), .val (.int (Int32.ofNat x0)), .val (.int o1_), .val (.int o2_), .val (.int (Int32.ofNat x1)), .val (.int (Int32.ofNat x2)), .val (.int (Int32.ofNat qq)), .val (.ref b124), .unset, .unset, .unset, .unset] [(.long ((own_sel p1.toInt64 p2.toInt64 p3.toInt64) x2)), (.int (Int32.ofNat x2)), (.ref b124)])) _
      refine XS.l2dS X148.here hx rfl (hb hby at_141) rfl (v := (FP.l2d ((own_sel p1.toInt64 p2.toInt64 p3.toInt64) x2))) rfl ?_
      show Steps p.tables e below (T148.setTop (mkF m 142 #[.val (.int p1), .val (.int p2), .val (.int p3), .val (.int p4), .val (.int p5), .val (.int p6), .val (.ref b101), .val (.int r_), .val (.int (Int32.ofNat x0)), .val (.int o1_), .val (.int o2_), .val (.int (Int32.ofNat x1)), .val (.int (Int32.ofNat x2)), .val (.int (Int32.ofNat qq)), .val (.ref b124), .unset, .unset, .unset, .unset] [(.double (FP.l2d ((own_sel p1.toInt64 p2.toInt64 p3.toInt64) x2))), (.int (Int32.ofNat x2)), (.ref b124)])) _
      refine st154.trans ?_
      show Steps p.tables e below (T154.setTop (mkF m 145 #[.val (.int p1), .val (.int p2), .val (.int p3), .val (.int p4), .val (.int p5), .val (.int p6), .val (.ref b101), .val (.int r_), .val (.int (Int32.ofNat x0)), .val (.int o1_), .val (.int o2_), .val (.int (Int32.ofNat x1)), .val (.int (Int32.ofNat x2)), .val (.int (Int32.ofNat qq)), .val (.ref b124), .unset, .unset, .unset, .unset] [(.int r_154)])) _
      refine XS.pop X154.here hx rfl (hb hby at_145) rfl rfl ?_
      show Steps p.tables e below (T154.setTop (mkF m 146 #[.val (.int p1), .val (.int p2), .val (.int p3), .val (.int p4), .val (.int p5), .val (.int p6), .val (.ref b101), .val (.int r_), .val (.int (Int32.ofNat x0)), .val (.int o1_), .val (.int o2_), .val (.int (Int32.ofNat x1)), .val (.int (Int32.ofNat x2)), .val (.int (Int32.ofNat qq)), .val (.ref b124), .unset, .unset, .unset, .unset] [])) _
      refine XS.aload X154.here hx rfl (hb hby at_146) rfl rfl ?_
      show Steps p.tables e below (T154.setTop (mkF m 148 #[.val (.int p1), .val (.int p2), .val (.int p3), .val (.int p4), .val (.int p5), .val (.int p6), .val (.ref b101), .val (.int r_), .val (.int (Int32.ofNat x0)), .val (.int o1_), .val (.int o2_), .val (.int (Int32.ofNat x1)), .val (.int (Int32.ofNat x2)), .val (.int (Int32.ofNat qq)), .val (.ref b124), .unset, .unset, .unset, .unset] [(.ref b124)])) _
      refine XS.iload X154.here hx rfl (hb hby at_148) rfl ?_
      show Steps p.tables e below (T154.setTop (mkF m 150 #[.val (.int p1), .val (.int p2), .val (.int p3), .val (.int p4), .val (.int p5), .val (.int p6), .val (.ref b101), .val (.int r_), .val (.int (Int32.ofNat x0)), .val (.int o1_), .val (.int o2_), .val (.int (Int32.ofNat x1)), .val (.int (Int32.ofNat x2)), .val (.int (Int32.ofNat qq)), .val (.ref b124), .unset, .unset, .unset, .unset] [(.int (Int32.ofNat qq)), (.ref b124)])) _
      refine XS.iloadN X154.here hx rfl (hb hby at_150) rfl ?_
      show Steps p.tables e below (T154.setTop (mkF m 151 #[.val (.int p1), .val (.int p2), .val (.int p3), .val (.int p4), .val (.int p5), .val (.int p6), .val (.ref b101), .val (.int r_), .val (.int (Int32.ofNat x0)), .val (.int o1_), .val (.int o2_), .val (.int (Int32.ofNat x1)), .val (.int (Int32.ofNat x2)), .val (.int (Int32.ofNat qq)), .val (.ref b124), .unset, .unset, .unset, .unset] [(.int p4), (.int (Int32.ofNat qq)), (.ref b124)])) _
      refine XS.i2dS X154.here hx rfl (hb hby at_151) rfl (v := (FP.i2d p4)) rfl ?_
      show Steps p.tables e below (T154.setTop (mkF m 152 #[.val (.int p1), .val (.int p2), .val (.int p3), .val (.int p4), .val (.int p5), .val (.int p6), .val (.ref b101), .val (.int r_), .val (.int (Int32.ofNat x0)), .val (.int o1_), .val (.int o2_), .val (.int (Int32.ofNat x1)), .val (.int (Int32.ofNat x2)), .val (.int (Int32.ofNat qq)), .val (.ref b124), .unset, .unset, .unset, .unset] [(.double (FP.i2d p4)), (.int (Int32.ofNat qq)), (.ref b124)])) _
      refine st156.trans ?_
      show Steps p.tables e below (T156.setTop (mkF m 155 #[.val (.int p1), .val (.int p2), .val (.int p3), .val (.int p4), .val (.int p5), .val (.int p6), .val (.ref b101), .val (.int r_), .val (.int (Int32.ofNat x0)), .val (.int o1_), .val (.int o2_), .val (.int (Int32.ofNat x1)), .val (.int (Int32.ofNat x2)), .val (.int (Int32.ofNat qq)), .val (.ref b124), .unset, .unset, .unset, .unset] [(.int r_156)])) _
      refine XS.pop X156.here hx rfl (hb hby at_155) rfl rfl ?_
      show Steps p.tables e below (T156.setTop (mkF m 156 #[.val (.int p1), .val (.int p2), .val (.int p3), .val (.int p4), .val (.int p5), .val (.int p6), .val (.ref b101), .val (.int r_), .val (.int (Int32.ofNat x0)), .val (.int o1_), .val (.int o2_), .val (.int (Int32.ofNat x1)), .val (.int (Int32.ofNat x2)), .val (.int (Int32.ofNat qq)), .val (.ref b124), .unset, .unset, .unset, .unset] [])) _
      refine XS.aload X156.here hx rfl (hb hby at_156) rfl rfl ?_
      show Steps p.tables e below (T156.setTop (mkF m 158 #[.val (.int p1), .val (.int p2), .val (.int p3), .val (.int p4), .val (.int p5), .val (.int p6), .val (.ref b101), .val (.int r_), .val (.int (Int32.ofNat x0)), .val (.int o1_), .val (.int o2_), .val (.int (Int32.ofNat x1)), .val (.int (Int32.ofNat x2)), .val (.int (Int32.ofNat qq)), .val (.ref b124), .unset, .unset, .unset, .unset] [(.ref b101)])) _
      refine XS.iload X156.here hx rfl (hb hby at_158) rfl ?_
      show Steps p.tables e below (T156.setTop (mkF m 160 #[.val (.int p1), .val (.int p2), .val (.int p3), .val (.int p4), .val (.int p5), .val (.int p6), .val (.ref b101), .val (.int r_), .val (.int (Int32.ofNat x0)), .val (.int o1_), .val (.int o2_), .val (.int (Int32.ofNat x1)), .val (.int (Int32.ofNat x2)), .val (.int (Int32.ofNat qq)), .val (.ref b124), .unset, .unset, .unset, .unset] [(.int (Int32.ofNat qq)), (.ref b101)])) _
      refine XS.aload X156.here hx rfl (hb hby at_160) rfl rfl ?_
      show Steps p.tables e below (T156.setTop (mkF m 162 #[.val (.int p1), .val (.int p2), .val (.int p3), .val (.int p4), .val (.int p5), .val (.int p6), .val (.ref b101), .val (.int r_), .val (.int (Int32.ofNat x0)), .val (.int o1_), .val (.int o2_), .val (.int (Int32.ofNat x1)), .val (.int (Int32.ofNat x2)), .val (.int (Int32.ofNat qq)), .val (.ref b124), .unset, .unset, .unset, .unset] [(.ref b101), (.int (Int32.ofNat qq)), (.ref b101)])) _
      refine XS.iload X156.here hx rfl (hb hby at_162) rfl ?_
      show Steps p.tables e below (T156.setTop (mkF m 164 #[.val (.int p1), .val (.int p2), .val (.int p3), .val (.int p4), .val (.int p5), .val (.int p6), .val (.ref b101), .val (.int r_), .val (.int (Int32.ofNat x0)), .val (.int o1_), .val (.int o2_), .val (.int (Int32.ofNat x1)), .val (.int (Int32.ofNat x2)), .val (.int (Int32.ofNat qq)), .val (.ref b124), .unset, .unset, .unset, .unset] [(.int (Int32.ofNat qq)), (.ref b101), (.int (Int32.ofNat qq)), (.ref b101)])) _
      refine X156.laload hx (j := (Int32.ofNat qq)) (v := (.long ((own_sel p1.toInt64 p2.toInt64 p3.toInt64) qq))) Ar159.1 (State.isArrayOf_alike hZ.alike Ar159.2.1) Ar159.2.2 in160 at161 (g := (mkF m 164 #[.val (.int p1), .val (.int p2), .val (.int p3), .val (.int p4), .val (.int p5), .val (.int p6), .val (.ref b101), .val (.int r_), .val (.int (Int32.ofNat x0)), .val (.int o1_), .val (.int o2_), .val (.int (Int32.ofNat x1)), .val (.int (Int32.ofNat x2)), .val (.int (Int32.ofNat qq)), .val (.ref b124), .unset, .unset, .unset, .unset] [(.int (Int32.ofNat qq)), (.ref b101), (.int (Int32.ofNat qq)), (.ref b101)])) rfl rfl (hb hby at_164) _ ?_
      show Steps p.tables e below (T156.setTop (mkF m 165 #[.val (.int p1), .val (.int p2), .val (.int p3), .val (.int p4), .val (.int p5), .val (.int p6), .val (.ref b101), .val (.int r_), .val (.int (Int32.ofNat x0)), .val (.int o1_), .val (.int o2_), .val (.int (Int32.ofNat x1)), .val (.int (Int32.ofNat x2)), .val (.int (Int32.ofNat qq)), .val (.ref b124), .unset, .unset, .unset, .unset] [(.long ((own_sel p1.toInt64 p2.toInt64 p3.toInt64) qq)), (.int (Int32.ofNat qq)), (.ref b101)])) _
      refine XS.iloadN X156.here hx rfl (hb hby at_165) rfl ?_
      show Steps p.tables e below (T156.setTop (mkF m 166 #[.val (.int p1), .val (.int p2), .val (.int p3), .val (.int p4), .val (.int p5), .val (.int p6), .val (.ref b101), .val (.int r_), .val (.int (Int32.ofNat x0)), .val (.int o1_), .val (.int o2_), .val (.int (Int32.ofNat x1)), .val (.int (Int32.ofNat x2)), .val (.int (Int32.ofNat qq)), .val (.ref b124), .unset, .unset, .unset, .unset] [(.int p4), (.long ((own_sel p1.toInt64 p2.toInt64 p3.toInt64) qq)), (.int (Int32.ofNat qq)), (.ref b101)])) _
      refine XS.i2l X156.here hx rfl (hb hby at_166) rfl ?_
      show Steps p.tables e below (T156.setTop (mkF m 167 #[.val (.int p1), .val (.int p2), .val (.int p3), .val (.int p4), .val (.int p5), .val (.int p6), .val (.ref b101), .val (.int r_), .val (.int (Int32.ofNat x0)), .val (.int o1_), .val (.int o2_), .val (.int (Int32.ofNat x1)), .val (.int (Int32.ofNat x2)), .val (.int (Int32.ofNat qq)), .val (.ref b124), .unset, .unset, .unset, .unset] [(.long (p4.toInt64)), (.long ((own_sel p1.toInt64 p2.toInt64 p3.toInt64) qq)), (.int (Int32.ofNat qq)), (.ref b101)])) _
      refine st162 _ ?_
      show Steps p.tables e below (T162.setTop (mkF m 170 #[.val (.int p1), .val (.int p2), .val (.int p3), .val (.int p4), .val (.int p5), .val (.int p6), .val (.ref b101), .val (.int r_), .val (.int (Int32.ofNat x0)), .val (.int o1_), .val (.int o2_), .val (.int (Int32.ofNat x1)), .val (.int (Int32.ofNat x2)), .val (.int (Int32.ofNat qq)), .val (.ref b124), .unset, .unset, .unset, .unset] [(.long r_162), (.int (Int32.ofNat qq)), (.ref b101)])) _
      refine st165 _ ?_
      show Steps p.tables e below (T165.setTop (mkF m 171 #[.val (.int p1), .val (.int p2), .val (.int p3), .val (.int p4), .val (.int p5), .val (.int p6), .val (.ref b101), .val (.int r_), .val (.int (Int32.ofNat x0)), .val (.int o1_), .val (.int o2_), .val (.int (Int32.ofNat x1)), .val (.int (Int32.ofNat x2)), .val (.int (Int32.ofNat qq)), .val (.ref b124), .unset, .unset, .unset, .unset] [])) _
      refine XS.aload X165.here hx rfl (hb hby at_171) rfl rfl ?_
      show Steps p.tables e below (T165.setTop (mkF m 173 #[.val (.int p1), .val (.int p2), .val (.int p3), .val (.int p4), .val (.int p5), .val (.int p6), .val (.ref b101), .val (.int r_), .val (.int (Int32.ofNat x0)), .val (.int o1_), .val (.int o2_), .val (.int (Int32.ofNat x1)), .val (.int (Int32.ofNat x2)), .val (.int (Int32.ofNat qq)), .val (.ref b124), .unset, .unset, .unset, .unset] [(.ref b124)])) _
      refine st178.trans ?_
      show Steps p.tables e below (T178.setTop (mkF m 176 #[.val (.int p1), .val (.int p2), .val (.int p3), .val (.int p4), .val (.int p5), .val (.int p6), .val (.ref b101), .val (.int r_), .val (.int (Int32.ofNat x0)), .val (.int o1_), .val (.int o2_), .val (.int (Int32.ofNat x1)), .val (.int (Int32.ofNat x2)), .val (.int (Int32.ofNat qq)), .val (.ref b124), .unset, .unset, .unset, .unset] [(.int (Int32.ofNat (opn2_156 near_178)))])) _
      refine XS.istore X178.here hx rfl (hb hby at_176) rfl (l' := #[.val (.int p1), .val (.int p2), .val (.int p3), .val (.int p4), .val (.int p5), .val (.int p6), .val (.ref b101), .val (.int r_), .val (.int (Int32.ofNat x0)), .val (.int o1_), .val (.int o2_), .val (.int (Int32.ofNat x1)), .val (.int (Int32.ofNat x2)), .val (.int (Int32.ofNat qq)), .val (.ref b124), .val (.int (Int32.ofNat (opn2_156 near_178))), .unset, .unset, .unset]) rfl ?_
      show Steps p.tables e below (T178.setTop (mkF m 178 #[.val (.int p1), .val (.int p2), .val (.int p3), .val (.int p4), .val (.int p5), .val (.int p6), .val (.ref b101), .val (.int r_), .val (.int (Int32.ofNat x0)), .val (.int o1_), .val (.int o2_), .val (.int (Int32.ofNat x1)), .val (.int (Int32.ofNat x2)), .val (.int (Int32.ofNat qq)), .val (.ref b124), .val (.int (Int32.ofNat (opn2_156 near_178))), .unset, .unset, .unset] [])) _
      refine XS.iload X178.here hx rfl (hb hby at_178) rfl ?_
      show Steps p.tables e below (T178.setTop (mkF m 180 #[.val (.int p1), .val (.int p2), .val (.int p3), .val (.int p4), .val (.int p5), .val (.int p6), .val (.ref b101), .val (.int r_), .val (.int (Int32.ofNat x0)), .val (.int o1_), .val (.int o2_), .val (.int (Int32.ofNat x1)), .val (.int (Int32.ofNat x2)), .val (.int (Int32.ofNat qq)), .val (.ref b124), .val (.int (Int32.ofNat (opn2_156 near_178))), .unset, .unset, .unset] [(.int (Int32.ofNat (opn2_156 near_178)))])) _
      refine XS.ifNo X178.here hx rfl (hb hby at_180) rfl ((if0 _ _).trans (flt (nn32 (by omega) : ¬ ((Int32.ofNat (opn2_156 near_178)) < (0 : Int32)))).1) ?_
      show Steps p.tables e below (T178.setTop (mkF m 183 #[.val (.int p1), .val (.int p2), .val (.int p3), .val (.int p4), .val (.int p5), .val (.int p6), .val (.ref b101), .val (.int r_), .val (.int (Int32.ofNat x0)), .val (.int o1_), .val (.int o2_), .val (.int (Int32.ofNat x1)), .val (.int (Int32.ofNat x2)), .val (.int (Int32.ofNat qq)), .val (.ref b124), .val (.int (Int32.ofNat (opn2_156 near_178))), .unset, .unset, .unset] [])) _
      refine XS.iload X178.here hx rfl (hb hby at_183) rfl ?_
      show Steps p.tables e below (T178.setTop (mkF m 185 #[.val (.int p1), .val (.int p2), .val (.int p3), .val (.int p4), .val (.int p5), .val (.int p6), .val (.ref b101), .val (.int r_), .val (.int (Int32.ofNat x0)), .val (.int o1_), .val (.int o2_), .val (.int (Int32.ofNat x1)), .val (.int (Int32.ofNat x2)), .val (.int (Int32.ofNat qq)), .val (.ref b124), .val (.int (Int32.ofNat (opn2_156 near_178))), .unset, .unset, .unset] [(.int (Int32.ofNat (opn2_156 near_178)))])) _
      refine XS.iconst X178.here hx rfl (hb hby at_185) ?_
      show Steps p.tables e below (T178.setTop (mkF m 186 #[.val (.int p1), .val (.int p2), .val (.int p3), .val (.int p4), .val (.int p5), .val (.int p6), .val (.ref b101), .val (.int r_), .val (.int (Int32.ofNat x0)), .val (.int o1_), .val (.int o2_), .val (.int (Int32.ofNat x1)), .val (.int (Int32.ofNat x2)), .val (.int (Int32.ofNat qq)), .val (.ref b124), .val (.int (Int32.ofNat (opn2_156 near_178))), .unset, .unset, .unset] [(.int (2 : Int32)), (.int (Int32.ofNat (opn2_156 near_178)))])) _
      refine XS.icmpYes X178.here hx rfl (pc0 := 186) (pc' := 191) rfl (hb hby at_186) rfl (flt (fun q => absurd ((lt32_iff (i := 2) (n := (opn2_156 near_178)) (by omega) (by omega)).mp q) (by omega) : ¬ ((2 : Int32) < (Int32.ofNat (opn2_156 near_178))))).2.2.2 (by decide) (by decide) ?_
      show Steps p.tables e below (T178.setTop (mkF m 191 #[.val (.int p1), .val (.int p2), .val (.int p3), .val (.int p4), .val (.int p5), .val (.int p6), .val (.ref b101), .val (.int r_), .val (.int (Int32.ofNat x0)), .val (.int o1_), .val (.int o2_), .val (.int (Int32.ofNat x1)), .val (.int (Int32.ofNat x2)), .val (.int (Int32.ofNat qq)), .val (.ref b124), .val (.int (Int32.ofNat (opn2_156 near_178))), .unset, .unset, .unset] [])) _
      refine XS.aload X178.here hx rfl (hb hby at_191) rfl rfl ?_
      show Steps p.tables e below (T178.setTop (mkF m 193 #[.val (.int p1), .val (.int p2), .val (.int p3), .val (.int p4), .val (.int p5), .val (.int p6), .val (.ref b101), .val (.int r_), .val (.int (Int32.ofNat x0)), .val (.int o1_), .val (.int o2_), .val (.int (Int32.ofNat x1)), .val (.int (Int32.ofNat x2)), .val (.int (Int32.ofNat qq)), .val (.ref b124), .val (.int (Int32.ofNat (opn2_156 near_178))), .unset, .unset, .unset] [(.ref b101)])) _
      refine XS.iload X178.here hx rfl (hb hby at_193) rfl ?_
      show Steps p.tables e below (T178.setTop (mkF m 195 #[.val (.int p1), .val (.int p2), .val (.int p3), .val (.int p4), .val (.int p5), .val (.int p6), .val (.ref b101), .val (.int r_), .val (.int (Int32.ofNat x0)), .val (.int o1_), .val (.int o2_), .val (.int (Int32.ofNat x1)), .val (.int (Int32.ofNat x2)), .val (.int (Int32.ofNat qq)), .val (.ref b124), .val (.int (Int32.ofNat (opn2_156 near_178))), .unset, .unset, .unset] [(.int (Int32.ofNat (opn2_156 near_178))), (.ref b101)])) _
      refine X178.laload hx (j := (Int32.ofNat (opn2_156 near_178))) (v := (.long ((own_up (own_sel p1.toInt64 p2.toInt64 p3.toInt64) qq r_162) (opn2_156 near_178)))) Ar181.1 (State.isArrayOf_alike hZ.alike Ar181.2.1) Ar181.2.2 in182 at183 (g := (mkF m 195 #[.val (.int p1), .val (.int p2), .val (.int p3), .val (.int p4), .val (.int p5), .val (.int p6), .val (.ref b101), .val (.int r_), .val (.int (Int32.ofNat x0)), .val (.int o1_), .val (.int o2_), .val (.int (Int32.ofNat x1)), .val (.int (Int32.ofNat x2)), .val (.int (Int32.ofNat qq)), .val (.ref b124), .val (.int (Int32.ofNat (opn2_156 near_178))), .unset, .unset, .unset] [(.int (Int32.ofNat (opn2_156 near_178))), (.ref b101)])) rfl rfl (hb hby at_195) _ ?_
      show Steps p.tables e below (T178.setTop (mkF m 196 #[.val (.int p1), .val (.int p2), .val (.int p3), .val (.int p4), .val (.int p5), .val (.int p6), .val (.ref b101), .val (.int r_), .val (.int (Int32.ofNat x0)), .val (.int o1_), .val (.int o2_), .val (.int (Int32.ofNat x1)), .val (.int (Int32.ofNat x2)), .val (.int (Int32.ofNat qq)), .val (.ref b124), .val (.int (Int32.ofNat (opn2_156 near_178))), .unset, .unset, .unset] [(.long ((own_up (own_sel p1.toInt64 p2.toInt64 p3.toInt64) qq r_162) (opn2_156 near_178)))])) _
      refine XS.aload X178.here hx rfl (hb hby at_196) rfl rfl ?_
      show Steps p.tables e below (T178.setTop (mkF m 198 #[.val (.int p1), .val (.int p2), .val (.int p3), .val (.int p4), .val (.int p5), .val (.int p6), .val (.ref b101), .val (.int r_), .val (.int (Int32.ofNat x0)), .val (.int o1_), .val (.int o2_), .val (.int (Int32.ofNat x1)), .val (.int (Int32.ofNat x2)), .val (.int (Int32.ofNat qq)), .val (.ref b124), .val (.int (Int32.ofNat (opn2_156 near_178))), .unset, .unset, .unset] [(.ref b101), (.long ((own_up (own_sel p1.toInt64 p2.toInt64 p3.toInt64) qq r_162) (opn2_156 near_178)))])) _
      refine XS.iconst X178.here hx rfl (hb hby at_198) ?_
      show Steps p.tables e below (T178.setTop (mkF m 199 #[.val (.int p1), .val (.int p2), .val (.int p3), .val (.int p4), .val (.int p5), .val (.int p6), .val (.ref b101), .val (.int r_), .val (.int (Int32.ofNat x0)), .val (.int o1_), .val (.int o2_), .val (.int (Int32.ofNat x1)), .val (.int (Int32.ofNat x2)), .val (.int (Int32.ofNat qq)), .val (.ref b124), .val (.int (Int32.ofNat (opn2_156 near_178))), .unset, .unset, .unset] [(.int (0 : Int32)), (.ref b101), (.long ((own_up (own_sel p1.toInt64 p2.toInt64 p3.toInt64) qq r_162) (opn2_156 near_178)))])) _
      refine X178.laload hx (j := (0 : Int32)) (v := (.long ((own_up (own_sel p1.toInt64 p2.toInt64 p3.toInt64) qq r_162) 0))) Ar184.1 (State.isArrayOf_alike hZ.alike Ar184.2.1) Ar184.2.2 in185 at186 (g := (mkF m 199 #[.val (.int p1), .val (.int p2), .val (.int p3), .val (.int p4), .val (.int p5), .val (.int p6), .val (.ref b101), .val (.int r_), .val (.int (Int32.ofNat x0)), .val (.int o1_), .val (.int o2_), .val (.int (Int32.ofNat x1)), .val (.int (Int32.ofNat x2)), .val (.int (Int32.ofNat qq)), .val (.ref b124), .val (.int (Int32.ofNat (opn2_156 near_178))), .unset, .unset, .unset] [(.int (0 : Int32)), (.ref b101), (.long ((own_up (own_sel p1.toInt64 p2.toInt64 p3.toInt64) qq r_162) (opn2_156 near_178)))])) rfl rfl (hb hby at_199) _ ?_
      show Steps p.tables e below (T178.setTop (mkF m 200 #[.val (.int p1), .val (.int p2), .val (.int p3), .val (.int p4), .val (.int p5), .val (.int p6), .val (.ref b101), .val (.int r_), .val (.int (Int32.ofNat x0)), .val (.int o1_), .val (.int o2_), .val (.int (Int32.ofNat x1)), .val (.int (Int32.ofNat x2)), .val (.int (Int32.ofNat qq)), .val (.ref b124), .val (.int (Int32.ofNat (opn2_156 near_178))), .unset, .unset, .unset] [(.long ((own_up (own_sel p1.toInt64 p2.toInt64 p3.toInt64) qq r_162) 0)), (.long ((own_up (own_sel p1.toInt64 p2.toInt64 p3.toInt64) qq r_162) (opn2_156 near_178)))])) _
      refine XS.lcmp X178.here hx rfl (hb hby at_200) rfl ?_
      show Steps p.tables e below (T178.setTop (mkF m 201 #[.val (.int p1), .val (.int p2), .val (.int p3), .val (.int p4), .val (.int p5), .val (.int p6), .val (.ref b101), .val (.int r_), .val (.int (Int32.ofNat x0)), .val (.int o1_), .val (.int o2_), .val (.int (Int32.ofNat x1)), .val (.int (Int32.ofNat x2)), .val (.int (Int32.ofNat qq)), .val (.ref b124), .val (.int (Int32.ofNat (opn2_156 near_178))), .unset, .unset, .unset] [(.int (lcmpW ((own_up (own_sel p1.toInt64 p2.toInt64 p3.toInt64) qq r_162) (opn2_156 near_178)) ((own_up (own_sel p1.toInt64 p2.toInt64 p3.toInt64) qq r_162) 0)))])) _
      refine XS.ifNo X178.here hx rfl (hb hby at_201) rfl ((if0 _ _).trans (flt (own_lgt (hmin1 0 (by decide)) : ¬ ((0 : Int32) < (lcmpW ((own_up (own_sel p1.toInt64 p2.toInt64 p3.toInt64) qq r_162) (opn2_156 near_178)) ((own_up (own_sel p1.toInt64 p2.toInt64 p3.toInt64) qq r_162) 0))))).2.2.1) ?_
      show Steps p.tables e below (T178.setTop (mkF m 204 #[.val (.int p1), .val (.int p2), .val (.int p3), .val (.int p4), .val (.int p5), .val (.int p6), .val (.ref b101), .val (.int r_), .val (.int (Int32.ofNat x0)), .val (.int o1_), .val (.int o2_), .val (.int (Int32.ofNat x1)), .val (.int (Int32.ofNat x2)), .val (.int (Int32.ofNat qq)), .val (.ref b124), .val (.int (Int32.ofNat (opn2_156 near_178))), .unset, .unset, .unset] [])) _
      refine XS.aload X178.here hx rfl (hb hby at_204) rfl rfl ?_
      show Steps p.tables e below (T178.setTop (mkF m 206 #[.val (.int p1), .val (.int p2), .val (.int p3), .val (.int p4), .val (.int p5), .val (.int p6), .val (.ref b101), .val (.int r_), .val (.int (Int32.ofNat x0)), .val (.int o1_), .val (.int o2_), .val (.int (Int32.ofNat x1)), .val (.int (Int32.ofNat x2)), .val (.int (Int32.ofNat qq)), .val (.ref b124), .val (.int (Int32.ofNat (opn2_156 near_178))), .unset, .unset, .unset] [(.ref b101)])) _
      refine XS.iload X178.here hx rfl (hb hby at_206) rfl ?_
      show Steps p.tables e below (T178.setTop (mkF m 208 #[.val (.int p1), .val (.int p2), .val (.int p3), .val (.int p4), .val (.int p5), .val (.int p6), .val (.ref b101), .val (.int r_), .val (.int (Int32.ofNat x0)), .val (.int o1_), .val (.int o2_), .val (.int (Int32.ofNat x1)), .val (.int (Int32.ofNat x2)), .val (.int (Int32.ofNat qq)), .val (.ref b124), .val (.int (Int32.ofNat (opn2_156 near_178))), .unset, .unset, .unset] [(.int (Int32.ofNat (opn2_156 near_178))), (.ref b101)])) _
      refine X178.laload hx (j := (Int32.ofNat (opn2_156 near_178))) (v := (.long ((own_up (own_sel p1.toInt64 p2.toInt64 p3.toInt64) qq r_162) (opn2_156 near_178)))) Ar187.1 (State.isArrayOf_alike hZ.alike Ar187.2.1) Ar187.2.2 in188 at189 (g := (mkF m 208 #[.val (.int p1), .val (.int p2), .val (.int p3), .val (.int p4), .val (.int p5), .val (.int p6), .val (.ref b101), .val (.int r_), .val (.int (Int32.ofNat x0)), .val (.int o1_), .val (.int o2_), .val (.int (Int32.ofNat x1)), .val (.int (Int32.ofNat x2)), .val (.int (Int32.ofNat qq)), .val (.ref b124), .val (.int (Int32.ofNat (opn2_156 near_178))), .unset, .unset, .unset] [(.int (Int32.ofNat (opn2_156 near_178))), (.ref b101)])) rfl rfl (hb hby at_208) _ ?_
      show Steps p.tables e below (T178.setTop (mkF m 209 #[.val (.int p1), .val (.int p2), .val (.int p3), .val (.int p4), .val (.int p5), .val (.int p6), .val (.ref b101), .val (.int r_), .val (.int (Int32.ofNat x0)), .val (.int o1_), .val (.int o2_), .val (.int (Int32.ofNat x1)), .val (.int (Int32.ofNat x2)), .val (.int (Int32.ofNat qq)), .val (.ref b124), .val (.int (Int32.ofNat (opn2_156 near_178))), .unset, .unset, .unset] [(.long ((own_up (own_sel p1.toInt64 p2.toInt64 p3.toInt64) qq r_162) (opn2_156 near_178)))])) _
      refine XS.aload X178.here hx rfl (hb hby at_209) rfl rfl ?_
      show Steps p.tables e below (T178.setTop (mkF m 211 #[.val (.int p1), .val (.int p2), .val (.int p3), .val (.int p4), .val (.int p5), .val (.int p6), .val (.ref b101), .val (.int r_), .val (.int (Int32.ofNat x0)), .val (.int o1_), .val (.int o2_), .val (.int (Int32.ofNat x1)), .val (.int (Int32.ofNat x2)), .val (.int (Int32.ofNat qq)), .val (.ref b124), .val (.int (Int32.ofNat (opn2_156 near_178))), .unset, .unset, .unset] [(.ref b101), (.long ((own_up (own_sel p1.toInt64 p2.toInt64 p3.toInt64) qq r_162) (opn2_156 near_178)))])) _
      refine XS.iconst X178.here hx rfl (hb hby at_211) ?_
      show Steps p.tables e below (T178.setTop (mkF m 212 #[.val (.int p1), .val (.int p2), .val (.int p3), .val (.int p4), .val (.int p5), .val (.int p6), .val (.ref b101), .val (.int r_), .val (.int (Int32.ofNat x0)), .val (.int o1_), .val (.int o2_), .val (.int (Int32.ofNat x1)), .val (.int (Int32.ofNat x2)), .val (.int (Int32.ofNat qq)), .val (.ref b124), .val (.int (Int32.ofNat (opn2_156 near_178))), .unset, .unset, .unset] [(.int (1 : Int32)), (.ref b101), (.long ((own_up (own_sel p1.toInt64 p2.toInt64 p3.toInt64) qq r_162) (opn2_156 near_178)))])) _
      refine X178.laload hx (j := (1 : Int32)) (v := (.long ((own_up (own_sel p1.toInt64 p2.toInt64 p3.toInt64) qq r_162) 1))) Ar190.1 (State.isArrayOf_alike hZ.alike Ar190.2.1) Ar190.2.2 in191 at192 (g := (mkF m 212 #[.val (.int p1), .val (.int p2), .val (.int p3), .val (.int p4), .val (.int p5), .val (.int p6), .val (.ref b101), .val (.int r_), .val (.int (Int32.ofNat x0)), .val (.int o1_), .val (.int o2_), .val (.int (Int32.ofNat x1)), .val (.int (Int32.ofNat x2)), .val (.int (Int32.ofNat qq)), .val (.ref b124), .val (.int (Int32.ofNat (opn2_156 near_178))), .unset, .unset, .unset] [(.int (1 : Int32)), (.ref b101), (.long ((own_up (own_sel p1.toInt64 p2.toInt64 p3.toInt64) qq r_162) (opn2_156 near_178)))])) rfl rfl (hb hby at_212) _ ?_
      show Steps p.tables e below (T178.setTop (mkF m 213 #[.val (.int p1), .val (.int p2), .val (.int p3), .val (.int p4), .val (.int p5), .val (.int p6), .val (.ref b101), .val (.int r_), .val (.int (Int32.ofNat x0)), .val (.int o1_), .val (.int o2_), .val (.int (Int32.ofNat x1)), .val (.int (Int32.ofNat x2)), .val (.int (Int32.ofNat qq)), .val (.ref b124), .val (.int (Int32.ofNat (opn2_156 near_178))), .unset, .unset, .unset] [(.long ((own_up (own_sel p1.toInt64 p2.toInt64 p3.toInt64) qq r_162) 1)), (.long ((own_up (own_sel p1.toInt64 p2.toInt64 p3.toInt64) qq r_162) (opn2_156 near_178)))])) _
      refine XS.lcmp X178.here hx rfl (hb hby at_213) rfl ?_
      show Steps p.tables e below (T178.setTop (mkF m 214 #[.val (.int p1), .val (.int p2), .val (.int p3), .val (.int p4), .val (.int p5), .val (.int p6), .val (.ref b101), .val (.int r_), .val (.int (Int32.ofNat x0)), .val (.int o1_), .val (.int o2_), .val (.int (Int32.ofNat x1)), .val (.int (Int32.ofNat x2)), .val (.int (Int32.ofNat qq)), .val (.ref b124), .val (.int (Int32.ofNat (opn2_156 near_178))), .unset, .unset, .unset] [(.int (lcmpW ((own_up (own_sel p1.toInt64 p2.toInt64 p3.toInt64) qq r_162) (opn2_156 near_178)) ((own_up (own_sel p1.toInt64 p2.toInt64 p3.toInt64) qq r_162) 1)))])) _
      refine XS.ifNo X178.here hx rfl (hb hby at_214) rfl ((if0 _ _).trans (flt (own_lgt (hmin1 1 (by decide)) : ¬ ((0 : Int32) < (lcmpW ((own_up (own_sel p1.toInt64 p2.toInt64 p3.toInt64) qq r_162) (opn2_156 near_178)) ((own_up (own_sel p1.toInt64 p2.toInt64 p3.toInt64) qq r_162) 1))))).2.2.1) ?_
      show Steps p.tables e below (T178.setTop (mkF m 217 #[.val (.int p1), .val (.int p2), .val (.int p3), .val (.int p4), .val (.int p5), .val (.int p6), .val (.ref b101), .val (.int r_), .val (.int (Int32.ofNat x0)), .val (.int o1_), .val (.int o2_), .val (.int (Int32.ofNat x1)), .val (.int (Int32.ofNat x2)), .val (.int (Int32.ofNat qq)), .val (.ref b124), .val (.int (Int32.ofNat (opn2_156 near_178))), .unset, .unset, .unset] [])) _
      refine XS.aload X178.here hx rfl (hb hby at_217) rfl rfl ?_
      show Steps p.tables e below (T178.setTop (mkF m 219 #[.val (.int p1), .val (.int p2), .val (.int p3), .val (.int p4), .val (.int p5), .val (.int p6), .val (.ref b101), .val (.int r_), .val (.int (Int32.ofNat x0)), .val (.int o1_), .val (.int o2_), .val (.int (Int32.ofNat x1)), .val (.int (Int32.ofNat x2)), .val (.int (Int32.ofNat qq)), .val (.ref b124), .val (.int (Int32.ofNat (opn2_156 near_178))), .unset, .unset, .unset] [(.ref b101)])) _
      refine XS.iload X178.here hx rfl (hb hby at_219) rfl ?_
      show Steps p.tables e below (T178.setTop (mkF m 221 #[.val (.int p1), .val (.int p2), .val (.int p3), .val (.int p4), .val (.int p5), .val (.int p6), .val (.ref b101), .val (.int r_), .val (.int (Int32.ofNat x0)), .val (.int o1_), .val (.int o2_), .val (.int (Int32.ofNat x1)), .val (.int (Int32.ofNat x2)), .val (.int (Int32.ofNat qq)), .val (.ref b124), .val (.int (Int32.ofNat (opn2_156 near_178))), .unset, .unset, .unset] [(.int (Int32.ofNat (opn2_156 near_178))), (.ref b101)])) _
      refine X178.laload hx (j := (Int32.ofNat (opn2_156 near_178))) (v := (.long ((own_up (own_sel p1.toInt64 p2.toInt64 p3.toInt64) qq r_162) (opn2_156 near_178)))) Ar193.1 (State.isArrayOf_alike hZ.alike Ar193.2.1) Ar193.2.2 in194 at195 (g := (mkF m 221 #[.val (.int p1), .val (.int p2), .val (.int p3), .val (.int p4), .val (.int p5), .val (.int p6), .val (.ref b101), .val (.int r_), .val (.int (Int32.ofNat x0)), .val (.int o1_), .val (.int o2_), .val (.int (Int32.ofNat x1)), .val (.int (Int32.ofNat x2)), .val (.int (Int32.ofNat qq)), .val (.ref b124), .val (.int (Int32.ofNat (opn2_156 near_178))), .unset, .unset, .unset] [(.int (Int32.ofNat (opn2_156 near_178))), (.ref b101)])) rfl rfl (hb hby at_221) _ ?_
      show Steps p.tables e below (T178.setTop (mkF m 222 #[.val (.int p1), .val (.int p2), .val (.int p3), .val (.int p4), .val (.int p5), .val (.int p6), .val (.ref b101), .val (.int r_), .val (.int (Int32.ofNat x0)), .val (.int o1_), .val (.int o2_), .val (.int (Int32.ofNat x1)), .val (.int (Int32.ofNat x2)), .val (.int (Int32.ofNat qq)), .val (.ref b124), .val (.int (Int32.ofNat (opn2_156 near_178))), .unset, .unset, .unset] [(.long ((own_up (own_sel p1.toInt64 p2.toInt64 p3.toInt64) qq r_162) (opn2_156 near_178)))])) _
      refine XS.aload X178.here hx rfl (hb hby at_222) rfl rfl ?_
      show Steps p.tables e below (T178.setTop (mkF m 224 #[.val (.int p1), .val (.int p2), .val (.int p3), .val (.int p4), .val (.int p5), .val (.int p6), .val (.ref b101), .val (.int r_), .val (.int (Int32.ofNat x0)), .val (.int o1_), .val (.int o2_), .val (.int (Int32.ofNat x1)), .val (.int (Int32.ofNat x2)), .val (.int (Int32.ofNat qq)), .val (.ref b124), .val (.int (Int32.ofNat (opn2_156 near_178))), .unset, .unset, .unset] [(.ref b101), (.long ((own_up (own_sel p1.toInt64 p2.toInt64 p3.toInt64) qq r_162) (opn2_156 near_178)))])) _
      refine XS.iconst X178.here hx rfl (hb hby at_224) ?_
      show Steps p.tables e below (T178.setTop (mkF m 225 #[.val (.int p1), .val (.int p2), .val (.int p3), .val (.int p4), .val (.int p5), .val (.int p6), .val (.ref b101), .val (.int r_), .val (.int (Int32.ofNat x0)), .val (.int o1_), .val (.int o2_), .val (.int (Int32.ofNat x1)), .val (.int (Int32.ofNat x2)), .val (.int (Int32.ofNat qq)), .val (.ref b124), .val (.int (Int32.ofNat (opn2_156 near_178))), .unset, .unset, .unset] [(.int (2 : Int32)), (.ref b101), (.long ((own_up (own_sel p1.toInt64 p2.toInt64 p3.toInt64) qq r_162) (opn2_156 near_178)))])) _
      refine X178.laload hx (j := (2 : Int32)) (v := (.long ((own_up (own_sel p1.toInt64 p2.toInt64 p3.toInt64) qq r_162) 2))) Ar196.1 (State.isArrayOf_alike hZ.alike Ar196.2.1) Ar196.2.2 in197 at198 (g := (mkF m 225 #[.val (.int p1), .val (.int p2), .val (.int p3), .val (.int p4), .val (.int p5), .val (.int p6), .val (.ref b101), .val (.int r_), .val (.int (Int32.ofNat x0)), .val (.int o1_), .val (.int o2_), .val (.int (Int32.ofNat x1)), .val (.int (Int32.ofNat x2)), .val (.int (Int32.ofNat qq)), .val (.ref b124), .val (.int (Int32.ofNat (opn2_156 near_178))), .unset, .unset, .unset] [(.int (2 : Int32)), (.ref b101), (.long ((own_up (own_sel p1.toInt64 p2.toInt64 p3.toInt64) qq r_162) (opn2_156 near_178)))])) rfl rfl (hb hby at_225) _ ?_
      show Steps p.tables e below (T178.setTop (mkF m 226 #[.val (.int p1), .val (.int p2), .val (.int p3), .val (.int p4), .val (.int p5), .val (.int p6), .val (.ref b101), .val (.int r_), .val (.int (Int32.ofNat x0)), .val (.int o1_), .val (.int o2_), .val (.int (Int32.ofNat x1)), .val (.int (Int32.ofNat x2)), .val (.int (Int32.ofNat qq)), .val (.ref b124), .val (.int (Int32.ofNat (opn2_156 near_178))), .unset, .unset, .unset] [(.long ((own_up (own_sel p1.toInt64 p2.toInt64 p3.toInt64) qq r_162) 2)), (.long ((own_up (own_sel p1.toInt64 p2.toInt64 p3.toInt64) qq r_162) (opn2_156 near_178)))])) _
      refine XS.lcmp X178.here hx rfl (hb hby at_226) rfl ?_
      show Steps p.tables e below (T178.setTop (mkF m 227 #[.val (.int p1), .val (.int p2), .val (.int p3), .val (.int p4), .val (.int p5), .val (.int p6), .val (.ref b101), .val (.int r_), .val (.int (Int32.ofNat x0)), .val (.int o1_), .val (.int o2_), .val (.int (Int32.ofNat x1)), .val (.int (Int32.ofNat x2)), .val (.int (Int32.ofNat qq)), .val (.ref b124), .val (.int (Int32.ofNat (opn2_156 near_178))), .unset, .unset, .unset] [(.int (lcmpW ((own_up (own_sel p1.toInt64 p2.toInt64 p3.toInt64) qq r_162) (opn2_156 near_178)) ((own_up (own_sel p1.toInt64 p2.toInt64 p3.toInt64) qq r_162) 2)))])) _
      refine XS.ifYes X178.here hx rfl (pc0 := 227) (pc' := 232) rfl (hb hby at_227) rfl ((if0 _ _).trans (flt (own_lgt (hmin1 2 (by decide)) : ¬ ((0 : Int32) < (lcmpW ((own_up (own_sel p1.toInt64 p2.toInt64 p3.toInt64) qq r_162) (opn2_156 near_178)) ((own_up (own_sel p1.toInt64 p2.toInt64 p3.toInt64) qq r_162) 2))))).2.2.2) (by decide) (by decide) ?_
      show Steps p.tables e below (T178.setTop (mkF m 232 #[.val (.int p1), .val (.int p2), .val (.int p3), .val (.int p4), .val (.int p5), .val (.int p6), .val (.ref b101), .val (.int r_), .val (.int (Int32.ofNat x0)), .val (.int o1_), .val (.int o2_), .val (.int (Int32.ofNat x1)), .val (.int (Int32.ofNat x2)), .val (.int (Int32.ofNat qq)), .val (.ref b124), .val (.int (Int32.ofNat (opn2_156 near_178))), .unset, .unset, .unset] [])) _
      refine XS.aload X178.here hx rfl (hb hby at_232) rfl rfl ?_
      show Steps p.tables e below (T178.setTop (mkF m 234 #[.val (.int p1), .val (.int p2), .val (.int p3), .val (.int p4), .val (.int p5), .val (.int p6), .val (.ref b101), .val (.int r_), .val (.int (Int32.ofNat x0)), .val (.int o1_), .val (.int o2_), .val (.int (Int32.ofNat x1)), .val (.int (Int32.ofNat x2)), .val (.int (Int32.ofNat qq)), .val (.ref b124), .val (.int (Int32.ofNat (opn2_156 near_178))), .unset, .unset, .unset] [(.ref b124)])) _
      refine XS.iload X178.here hx rfl (hb hby at_234) rfl ?_
      show Steps p.tables e below (T178.setTop (mkF m 236 #[.val (.int p1), .val (.int p2), .val (.int p3), .val (.int p4), .val (.int p5), .val (.int p6), .val (.ref b101), .val (.int r_), .val (.int (Int32.ofNat x0)), .val (.int o1_), .val (.int o2_), .val (.int (Int32.ofNat x1)), .val (.int (Int32.ofNat x2)), .val (.int (Int32.ofNat qq)), .val (.ref b124), .val (.int (Int32.ofNat (opn2_156 near_178))), .unset, .unset, .unset] [(.int (Int32.ofNat (opn2_156 near_178))), (.ref b124)])) _
      refine st199.trans ?_
      show Steps p.tables e below (T199.setTop (mkF m 239 #[.val (.int p1), .val (.int p2), .val (.int p3), .val (.int p4), .val (.int p5), .val (.int p6), .val (.ref b101), .val (.int r_), .val (.int (Int32.ofNat x0)), .val (.int o1_), .val (.int o2_), .val (.int (Int32.ofNat x1)), .val (.int (Int32.ofNat x2)), .val (.int (Int32.ofNat qq)), .val (.ref b124), .val (.int (Int32.ofNat (opn2_156 near_178))), .unset, .unset, .unset] [(.int (nar .boolean ((own_up (fun _ => 0) (opn2_156 near_178) 1) (opn2_156 near_178))))])) _
      refine XS.ifYes X199.here hx rfl (pc0 := 239) (pc' := 244) rfl (hb hby at_239) rfl ((if0 _ _).trans (feq (by rw [own_up_eq]; decide : ¬ ((nar .boolean ((own_up (fun _ => 0) (opn2_156 near_178) 1) (opn2_156 near_178))) = (0 : Int32)))).2) (by decide) (by decide) ?_
      show Steps p.tables e below (T199.setTop (mkF m 244 #[.val (.int p1), .val (.int p2), .val (.int p3), .val (.int p4), .val (.int p5), .val (.int p6), .val (.ref b101), .val (.int r_), .val (.int (Int32.ofNat x0)), .val (.int o1_), .val (.int o2_), .val (.int (Int32.ofNat x1)), .val (.int (Int32.ofNat x2)), .val (.int (Int32.ofNat qq)), .val (.ref b124), .val (.int (Int32.ofNat (opn2_156 near_178))), .unset, .unset, .unset] [])) _
      refine XS.aload X199.here hx rfl (hb hby at_244) rfl rfl ?_
      show Steps p.tables e below (T199.setTop (mkF m 246 #[.val (.int p1), .val (.int p2), .val (.int p3), .val (.int p4), .val (.int p5), .val (.int p6), .val (.ref b101), .val (.int r_), .val (.int (Int32.ofNat x0)), .val (.int o1_), .val (.int o2_), .val (.int (Int32.ofNat x1)), .val (.int (Int32.ofNat x2)), .val (.int (Int32.ofNat qq)), .val (.ref b124), .val (.int (Int32.ofNat (opn2_156 near_178))), .unset, .unset, .unset] [(.ref b124)])) _
      refine XS.iload X199.here hx rfl (hb hby at_246) rfl ?_
      show Steps p.tables e below (T199.setTop (mkF m 248 #[.val (.int p1), .val (.int p2), .val (.int p3), .val (.int p4), .val (.int p5), .val (.int p6), .val (.ref b101), .val (.int r_), .val (.int (Int32.ofNat x0)), .val (.int o1_), .val (.int o2_), .val (.int (Int32.ofNat x1)), .val (.int (Int32.ofNat x2)), .val (.int (Int32.ofNat qq)), .val (.ref b124), .val (.int (Int32.ofNat (opn2_156 near_178))), .unset, .unset, .unset] [(.int (Int32.ofNat (opn2_156 near_178))), (.ref b124)])) _
      refine XS.iconst X199.here hx rfl (hb hby at_248) ?_
      show Steps p.tables e below (T199.setTop (mkF m 249 #[.val (.int p1), .val (.int p2), .val (.int p3), .val (.int p4), .val (.int p5), .val (.int p6), .val (.ref b101), .val (.int r_), .val (.int (Int32.ofNat x0)), .val (.int o1_), .val (.int o2_), .val (.int (Int32.ofNat x1)), .val (.int (Int32.ofNat x2)), .val (.int (Int32.ofNat qq)), .val (.ref b124), .val (.int (Int32.ofNat (opn2_156 near_178))), .unset, .unset, .unset] [(.int (1 : Int32)), (.int (Int32.ofNat (opn2_156 near_178))), (.ref b124)])) _
      refine XS.iadd X199.here hx rfl (hb hby at_249) rfl ?_
      show Steps p.tables e below (T199.setTop (mkF m 250 #[.val (.int p1), .val (.int p2), .val (.int p3), .val (.int p4), .val (.int p5), .val (.int p6), .val (.ref b101), .val (.int r_), .val (.int (Int32.ofNat x0)), .val (.int o1_), .val (.int o2_), .val (.int (Int32.ofNat x1)), .val (.int (Int32.ofNat x2)), .val (.int (Int32.ofNat qq)), .val (.ref b124), .val (.int (Int32.ofNat (opn2_156 near_178))), .unset, .unset, .unset] [(.int ((Int32.ofNat (opn2_156 near_178)) + (1 : Int32))), (.ref b124)])) _
      refine XS.iconst X199.here hx rfl (hb hby at_250) ?_
      show Steps p.tables e below (T199.setTop (mkF m 251 #[.val (.int p1), .val (.int p2), .val (.int p3), .val (.int p4), .val (.int p5), .val (.int p6), .val (.ref b101), .val (.int r_), .val (.int (Int32.ofNat x0)), .val (.int o1_), .val (.int o2_), .val (.int (Int32.ofNat x1)), .val (.int (Int32.ofNat x2)), .val (.int (Int32.ofNat qq)), .val (.ref b124), .val (.int (Int32.ofNat (opn2_156 near_178))), .unset, .unset, .unset] [(.int (3 : Int32)), (.int ((Int32.ofNat (opn2_156 near_178)) + (1 : Int32))), (.ref b124)])) _
      refine iremM X199 hx rfl (hb hby at_251) rfl (by decide) ?_
      show Steps p.tables e below (T199.setTop (mkF m 252 #[.val (.int p1), .val (.int p2), .val (.int p3), .val (.int p4), .val (.int p5), .val (.int p6), .val (.ref b101), .val (.int r_), .val (.int (Int32.ofNat x0)), .val (.int o1_), .val (.int o2_), .val (.int (Int32.ofNat x1)), .val (.int (Int32.ofNat x2)), .val (.int (Int32.ofNat qq)), .val (.ref b124), .val (.int (Int32.ofNat (opn2_156 near_178))), .unset, .unset, .unset] [(.int (((Int32.ofNat (opn2_156 near_178)) + (1 : Int32)) % (3 : Int32))), (.ref b124)])) _
      rw [own_next _ hs1]
      show Steps p.tables e below (T199.setTop (mkF m 252 #[.val (.int p1), .val (.int p2), .val (.int p3), .val (.int p4), .val (.int p5), .val (.int p6), .val (.ref b101), .val (.int r_), .val (.int (Int32.ofNat x0)), .val (.int o1_), .val (.int o2_), .val (.int (Int32.ofNat x1)), .val (.int (Int32.ofNat x2)), .val (.int (Int32.ofNat qq)), .val (.ref b124), .val (.int (Int32.ofNat (opn2_156 near_178))), .unset, .unset, .unset] [(.int (Int32.ofNat (((opn2_156 near_178) + 1) % 3))), (.ref b124)])) _
      refine st200.trans ?_
      show Steps p.tables e below (T200.setTop (mkF m 255 #[.val (.int p1), .val (.int p2), .val (.int p3), .val (.int p4), .val (.int p5), .val (.int p6), .val (.ref b101), .val (.int r_), .val (.int (Int32.ofNat x0)), .val (.int o1_), .val (.int o2_), .val (.int (Int32.ofNat x1)), .val (.int (Int32.ofNat x2)), .val (.int (Int32.ofNat qq)), .val (.ref b124), .val (.int (Int32.ofNat (opn2_156 near_178))), .unset, .unset, .unset] [(.int (nar .boolean ((own_up (fun _ => 0) (opn2_156 near_178) 1) (((opn2_156 near_178) + 1) % 3))))])) _
      refine XS.ifYes X200.here hx rfl (pc0 := 255) (pc' := 260) rfl (hb hby at_255) rfl ((if0 _ _).trans (teq (by rw [own_up_ne _ _ (by omega)]; rfl : (nar .boolean ((own_up (fun _ => 0) (opn2_156 near_178) 1) (((opn2_156 near_178) + 1) % 3))) = (0 : Int32))).1) (by decide) (by decide) ?_
      show Steps p.tables e below (T200.setTop (mkF m 260 #[.val (.int p1), .val (.int p2), .val (.int p3), .val (.int p4), .val (.int p5), .val (.int p6), .val (.ref b101), .val (.int r_), .val (.int (Int32.ofNat x0)), .val (.int o1_), .val (.int o2_), .val (.int (Int32.ofNat x1)), .val (.int (Int32.ofNat x2)), .val (.int (Int32.ofNat qq)), .val (.ref b124), .val (.int (Int32.ofNat (opn2_156 near_178))), .unset, .unset, .unset] [])) _
      refine XS.aload X200.here hx rfl (hb hby at_260) rfl rfl ?_
      show Steps p.tables e below (T200.setTop (mkF m 262 #[.val (.int p1), .val (.int p2), .val (.int p3), .val (.int p4), .val (.int p5), .val (.int p6), .val (.ref b101), .val (.int r_), .val (.int (Int32.ofNat x0)), .val (.int o1_), .val (.int o2_), .val (.int (Int32.ofNat x1)), .val (.int (Int32.ofNat x2)), .val (.int (Int32.ofNat qq)), .val (.ref b124), .val (.int (Int32.ofNat (opn2_156 near_178))), .unset, .unset, .unset] [(.ref b124)])) _
      refine st201.trans ?_
      show Steps p.tables e below (T201.setTop (mkF m 265 #[.val (.int p1), .val (.int p2), .val (.int p3), .val (.int p4), .val (.int p5), .val (.int p6), .val (.ref b101), .val (.int r_), .val (.int (Int32.ofNat x0)), .val (.int o1_), .val (.int o2_), .val (.int (Int32.ofNat x1)), .val (.int (Int32.ofNat x2)), .val (.int (Int32.ofNat qq)), .val (.ref b124), .val (.int (Int32.ofNat (opn2_156 near_178))), .unset, .unset, .unset] [(.int (Int32.ofNat ((own_up opn2_156 near_178 (opn2_156 (oc2_156 - 1))) near_201)))])) _
      refine XS.istore X201.here hx rfl (hb hby at_265) rfl (l' := #[.val (.int p1), .val (.int p2), .val (.int p3), .val (.int p4), .val (.int p5), .val (.int p6), .val (.ref b101), .val (.int r_), .val (.int (Int32.ofNat x0)), .val (.int o1_), .val (.int o2_), .val (.int (Int32.ofNat x1)), .val (.int (Int32.ofNat x2)), .val (.int (Int32.ofNat qq)), .val (.ref b124), .val (.int (Int32.ofNat (opn2_156 near_178))), .val (.int (Int32.ofNat ((own_up opn2_156 near_178 (opn2_156 (oc2_156 - 1))) near_201))), .unset, .unset]) rfl ?_
      show Steps p.tables e below (T201.setTop (mkF m 267 #[.val (.int p1), .val (.int p2), .val (.int p3), .val (.int p4), .val (.int p5), .val (.int p6), .val (.ref b101), .val (.int r_), .val (.int (Int32.ofNat x0)), .val (.int o1_), .val (.int o2_), .val (.int (Int32.ofNat x1)), .val (.int (Int32.ofNat x2)), .val (.int (Int32.ofNat qq)), .val (.ref b124), .val (.int (Int32.ofNat (opn2_156 near_178))), .val (.int (Int32.ofNat ((own_up opn2_156 near_178 (opn2_156 (oc2_156 - 1))) near_201))), .unset, .unset] [])) _
      refine XS.iload X201.here hx rfl (hb hby at_267) rfl ?_
      show Steps p.tables e below (T201.setTop (mkF m 269 #[.val (.int p1), .val (.int p2), .val (.int p3), .val (.int p4), .val (.int p5), .val (.int p6), .val (.ref b101), .val (.int r_), .val (.int (Int32.ofNat x0)), .val (.int o1_), .val (.int o2_), .val (.int (Int32.ofNat x1)), .val (.int (Int32.ofNat x2)), .val (.int (Int32.ofNat qq)), .val (.ref b124), .val (.int (Int32.ofNat (opn2_156 near_178))), .val (.int (Int32.ofNat ((own_up opn2_156 near_178 (opn2_156 (oc2_156 - 1))) near_201))), .unset, .unset] [(.int (Int32.ofNat ((own_up opn2_156 near_178 (opn2_156 (oc2_156 - 1))) near_201)))])) _
      refine XS.ifNo X201.here hx rfl (hb hby at_269) rfl ((if0 _ _).trans (flt (nn32 (by omega) : ¬ ((Int32.ofNat ((own_up opn2_156 near_178 (opn2_156 (oc2_156 - 1))) near_201)) < (0 : Int32)))).1) ?_
      show Steps p.tables e below (T201.setTop (mkF m 272 #[.val (.int p1), .val (.int p2), .val (.int p3), .val (.int p4), .val (.int p5), .val (.int p6), .val (.ref b101), .val (.int r_), .val (.int (Int32.ofNat x0)), .val (.int o1_), .val (.int o2_), .val (.int (Int32.ofNat x1)), .val (.int (Int32.ofNat x2)), .val (.int (Int32.ofNat qq)), .val (.ref b124), .val (.int (Int32.ofNat (opn2_156 near_178))), .val (.int (Int32.ofNat ((own_up opn2_156 near_178 (opn2_156 (oc2_156 - 1))) near_201))), .unset, .unset] [])) _
      refine XS.iload X201.here hx rfl (hb hby at_272) rfl ?_
      show Steps p.tables e below (T201.setTop (mkF m 274 #[.val (.int p1), .val (.int p2), .val (.int p3), .val (.int p4), .val (.int p5), .val (.int p6), .val (.ref b101), .val (.int r_), .val (.int (Int32.ofNat x0)), .val (.int o1_), .val (.int o2_), .val (.int (Int32.ofNat x1)), .val (.int (Int32.ofNat x2)), .val (.int (Int32.ofNat qq)), .val (.ref b124), .val (.int (Int32.ofNat (opn2_156 near_178))), .val (.int (Int32.ofNat ((own_up opn2_156 near_178 (opn2_156 (oc2_156 - 1))) near_201))), .unset, .unset] [(.int (Int32.ofNat ((own_up opn2_156 near_178 (opn2_156 (oc2_156 - 1))) near_201)))])) _
      refine XS.iconst X201.here hx rfl (hb hby at_274) ?_
      show Steps p.tables e below (T201.setTop (mkF m 275 #[.val (.int p1), .val (.int p2), .val (.int p3), .val (.int p4), .val (.int p5), .val (.int p6), .val (.ref b101), .val (.int r_), .val (.int (Int32.ofNat x0)), .val (.int o1_), .val (.int o2_), .val (.int (Int32.ofNat x1)), .val (.int (Int32.ofNat x2)), .val (.int (Int32.ofNat qq)), .val (.ref b124), .val (.int (Int32.ofNat (opn2_156 near_178))), .val (.int (Int32.ofNat ((own_up opn2_156 near_178 (opn2_156 (oc2_156 - 1))) near_201))), .unset, .unset] [(.int (2 : Int32)), (.int (Int32.ofNat ((own_up opn2_156 near_178 (opn2_156 (oc2_156 - 1))) near_201)))])) _
      refine XS.icmpNo X201.here hx rfl (hb hby at_275) rfl (flt (fun q => absurd ((lt32_iff (i := 2) (n := ((own_up opn2_156 near_178 (opn2_156 (oc2_156 - 1))) near_201)) (by omega) (by omega)).mp q) (by omega) : ¬ ((2 : Int32) < (Int32.ofNat ((own_up opn2_156 near_178 (opn2_156 (oc2_156 - 1))) near_201))))).2.2.1 ?_
      show Steps p.tables e below (T201.setTop (mkF m 278 #[.val (.int p1), .val (.int p2), .val (.int p3), .val (.int p4), .val (.int p5), .val (.int p6), .val (.ref b101), .val (.int r_), .val (.int (Int32.ofNat x0)), .val (.int o1_), .val (.int o2_), .val (.int (Int32.ofNat x1)), .val (.int (Int32.ofNat x2)), .val (.int (Int32.ofNat qq)), .val (.ref b124), .val (.int (Int32.ofNat (opn2_156 near_178))), .val (.int (Int32.ofNat ((own_up opn2_156 near_178 (opn2_156 (oc2_156 - 1))) near_201))), .unset, .unset] [])) _
      refine XS.iload X201.here hx rfl (hb hby at_278) rfl ?_
      show Steps p.tables e below (T201.setTop (mkF m 280 #[.val (.int p1), .val (.int p2), .val (.int p3), .val (.int p4), .val (.int p5), .val (.int p6), .val (.ref b101), .val (.int r_), .val (.int (Int32.ofNat x0)), .val (.int o1_), .val (.int o2_), .val (.int (Int32.ofNat x1)), .val (.int (Int32.ofNat x2)), .val (.int (Int32.ofNat qq)), .val (.ref b124), .val (.int (Int32.ofNat (opn2_156 near_178))), .val (.int (Int32.ofNat ((own_up opn2_156 near_178 (opn2_156 (oc2_156 - 1))) near_201))), .unset, .unset] [(.int (Int32.ofNat ((own_up opn2_156 near_178 (opn2_156 (oc2_156 - 1))) near_201)))])) _
      refine XS.iload X201.here hx rfl (hb hby at_280) rfl ?_
      show Steps p.tables e below (T201.setTop (mkF m 282 #[.val (.int p1), .val (.int p2), .val (.int p3), .val (.int p4), .val (.int p5), .val (.int p6), .val (.ref b101), .val (.int r_), .val (.int (Int32.ofNat x0)), .val (.int o1_), .val (.int o2_), .val (.int (Int32.ofNat x1)), .val (.int (Int32.ofNat x2)), .val (.int (Int32.ofNat qq)), .val (.ref b124), .val (.int (Int32.ofNat (opn2_156 near_178))), .val (.int (Int32.ofNat ((own_up opn2_156 near_178 (opn2_156 (oc2_156 - 1))) near_201))), .unset, .unset] [(.int (Int32.ofNat (opn2_156 near_178))), (.int (Int32.ofNat ((own_up opn2_156 near_178 (opn2_156 (oc2_156 - 1))) near_201)))])) _
      refine XS.icmpYes X201.here hx rfl (pc0 := 282) (pc' := 287) rfl (hb hby at_282) rfl (feq (fun q => hne2 ((eq32_iff (by omega) (by omega)).mp q) : ¬ ((Int32.ofNat ((own_up opn2_156 near_178 (opn2_156 (oc2_156 - 1))) near_201)) = (Int32.ofNat (opn2_156 near_178))))).2 (by decide) (by decide) ?_
      show Steps p.tables e below (T201.setTop (mkF m 287 #[.val (.int p1), .val (.int p2), .val (.int p3), .val (.int p4), .val (.int p5), .val (.int p6), .val (.ref b101), .val (.int r_), .val (.int (Int32.ofNat x0)), .val (.int o1_), .val (.int o2_), .val (.int (Int32.ofNat x1)), .val (.int (Int32.ofNat x2)), .val (.int (Int32.ofNat qq)), .val (.ref b124), .val (.int (Int32.ofNat (opn2_156 near_178))), .val (.int (Int32.ofNat ((own_up opn2_156 near_178 (opn2_156 (oc2_156 - 1))) near_201))), .unset, .unset] [])) _
      refine XS.iconst X201.here hx rfl (hb hby at_287) ?_
      show Steps p.tables e below (T201.setTop (mkF m 288 #[.val (.int p1), .val (.int p2), .val (.int p3), .val (.int p4), .val (.int p5), .val (.int p6), .val (.ref b101), .val (.int r_), .val (.int (Int32.ofNat x0)), .val (.int o1_), .val (.int o2_), .val (.int (Int32.ofNat x1)), .val (.int (Int32.ofNat x2)), .val (.int (Int32.ofNat qq)), .val (.ref b124), .val (.int (Int32.ofNat (opn2_156 near_178))), .val (.int (Int32.ofNat ((own_up opn2_156 near_178 (opn2_156 (oc2_156 - 1))) near_201))), .unset, .unset] [(.int (3 : Int32))])) _
      refine XS.iload X201.here hx rfl (hb hby at_288) rfl ?_
      show Steps p.tables e below (T201.setTop (mkF m 290 #[.val (.int p1), .val (.int p2), .val (.int p3), .val (.int p4), .val (.int p5), .val (.int p6), .val (.ref b101), .val (.int r_), .val (.int (Int32.ofNat x0)), .val (.int o1_), .val (.int o2_), .val (.int (Int32.ofNat x1)), .val (.int (Int32.ofNat x2)), .val (.int (Int32.ofNat qq)), .val (.ref b124), .val (.int (Int32.ofNat (opn2_156 near_178))), .val (.int (Int32.ofNat ((own_up opn2_156 near_178 (opn2_156 (oc2_156 - 1))) near_201))), .unset, .unset] [(.int (Int32.ofNat (opn2_156 near_178))), (.int (3 : Int32))])) _
      refine XS.isub X201.here hx rfl (hb hby at_290) rfl ?_
      show Steps p.tables e below (T201.setTop (mkF m 291 #[.val (.int p1), .val (.int p2), .val (.int p3), .val (.int p4), .val (.int p5), .val (.int p6), .val (.ref b101), .val (.int r_), .val (.int (Int32.ofNat x0)), .val (.int o1_), .val (.int o2_), .val (.int (Int32.ofNat x1)), .val (.int (Int32.ofNat x2)), .val (.int (Int32.ofNat qq)), .val (.ref b124), .val (.int (Int32.ofNat (opn2_156 near_178))), .val (.int (Int32.ofNat ((own_up opn2_156 near_178 (opn2_156 (oc2_156 - 1))) near_201))), .unset, .unset] [(.int ((3 : Int32) - (Int32.ofNat (opn2_156 near_178))))])) _
      refine XS.iload X201.here hx rfl (hb hby at_291) rfl ?_
      show Steps p.tables e below (T201.setTop (mkF m 293 #[.val (.int p1), .val (.int p2), .val (.int p3), .val (.int p4), .val (.int p5), .val (.int p6), .val (.ref b101), .val (.int r_), .val (.int (Int32.ofNat x0)), .val (.int o1_), .val (.int o2_), .val (.int (Int32.ofNat x1)), .val (.int (Int32.ofNat x2)), .val (.int (Int32.ofNat qq)), .val (.ref b124), .val (.int (Int32.ofNat (opn2_156 near_178))), .val (.int (Int32.ofNat ((own_up opn2_156 near_178 (opn2_156 (oc2_156 - 1))) near_201))), .unset, .unset] [(.int (Int32.ofNat ((own_up opn2_156 near_178 (opn2_156 (oc2_156 - 1))) near_201))), (.int ((3 : Int32) - (Int32.ofNat (opn2_156 near_178))))])) _
      refine XS.isub X201.here hx rfl (hb hby at_293) rfl ?_
      show Steps p.tables e below (T201.setTop (mkF m 294 #[.val (.int p1), .val (.int p2), .val (.int p3), .val (.int p4), .val (.int p5), .val (.int p6), .val (.ref b101), .val (.int r_), .val (.int (Int32.ofNat x0)), .val (.int o1_), .val (.int o2_), .val (.int (Int32.ofNat x1)), .val (.int (Int32.ofNat x2)), .val (.int (Int32.ofNat qq)), .val (.ref b124), .val (.int (Int32.ofNat (opn2_156 near_178))), .val (.int (Int32.ofNat ((own_up opn2_156 near_178 (opn2_156 (oc2_156 - 1))) near_201))), .unset, .unset] [(.int (((3 : Int32) - (Int32.ofNat (opn2_156 near_178))) - (Int32.ofNat ((own_up opn2_156 near_178 (opn2_156 (oc2_156 - 1))) near_201))))])) _
      rw [own_third _ hs1 _ hs2 (Ne.symm hne2)]
      show Steps p.tables e below (T201.setTop (mkF m 294 #[.val (.int p1), .val (.int p2), .val (.int p3), .val (.int p4), .val (.int p5), .val (.int p6), .val (.ref b101), .val (.int r_), .val (.int (Int32.ofNat x0)), .val (.int o1_), .val (.int o2_), .val (.int (Int32.ofNat x1)), .val (.int (Int32.ofNat x2)), .val (.int (Int32.ofNat qq)), .val (.ref b124), .val (.int (Int32.ofNat (opn2_156 near_178))), .val (.int (Int32.ofNat ((own_up opn2_156 near_178 (opn2_156 (oc2_156 - 1))) near_201))), .unset, .unset] [(.int (Int32.ofNat (3 - (opn2_156 near_178) - ((own_up opn2_156 near_178 (opn2_156 (oc2_156 - 1))) near_201))))])) _
      refine XS.istore X201.here hx rfl (hb hby at_294) rfl (l' := #[.val (.int p1), .val (.int p2), .val (.int p3), .val (.int p4), .val (.int p5), .val (.int p6), .val (.ref b101), .val (.int r_), .val (.int (Int32.ofNat x0)), .val (.int o1_), .val (.int o2_), .val (.int (Int32.ofNat x1)), .val (.int (Int32.ofNat x2)), .val (.int (Int32.ofNat qq)), .val (.ref b124), .val (.int (Int32.ofNat (opn2_156 near_178))), .val (.int (Int32.ofNat ((own_up opn2_156 near_178 (opn2_156 (oc2_156 - 1))) near_201))), .val (.int (Int32.ofNat (3 - (opn2_156 near_178) - ((own_up opn2_156 near_178 (opn2_156 (oc2_156 - 1))) near_201)))), .unset]) rfl ?_
      show Steps p.tables e below (T201.setTop (mkF m 296 #[.val (.int p1), .val (.int p2), .val (.int p3), .val (.int p4), .val (.int p5), .val (.int p6), .val (.ref b101), .val (.int r_), .val (.int (Int32.ofNat x0)), .val (.int o1_), .val (.int o2_), .val (.int (Int32.ofNat x1)), .val (.int (Int32.ofNat x2)), .val (.int (Int32.ofNat qq)), .val (.ref b124), .val (.int (Int32.ofNat (opn2_156 near_178))), .val (.int (Int32.ofNat ((own_up opn2_156 near_178 (opn2_156 (oc2_156 - 1))) near_201))), .val (.int (Int32.ofNat (3 - (opn2_156 near_178) - ((own_up opn2_156 near_178 (opn2_156 (oc2_156 - 1))) near_201)))), .unset] [])) _
      refine XS.aload X201.here hx rfl (hb hby at_296) rfl rfl ?_
      show Steps p.tables e below (T201.setTop (mkF m 298 #[.val (.int p1), .val (.int p2), .val (.int p3), .val (.int p4), .val (.int p5), .val (.int p6), .val (.ref b101), .val (.int r_), .val (.int (Int32.ofNat x0)), .val (.int o1_), .val (.int o2_), .val (.int (Int32.ofNat x1)), .val (.int (Int32.ofNat x2)), .val (.int (Int32.ofNat qq)), .val (.ref b124), .val (.int (Int32.ofNat (opn2_156 near_178))), .val (.int (Int32.ofNat ((own_up opn2_156 near_178 (opn2_156 (oc2_156 - 1))) near_201))), .val (.int (Int32.ofNat (3 - (opn2_156 near_178) - ((own_up opn2_156 near_178 (opn2_156 (oc2_156 - 1))) near_201)))), .unset] [(.ref b101)])) _
      refine XS.iload X201.here hx rfl (hb hby at_298) rfl ?_
      show Steps p.tables e below (T201.setTop (mkF m 300 #[.val (.int p1), .val (.int p2), .val (.int p3), .val (.int p4), .val (.int p5), .val (.int p6), .val (.ref b101), .val (.int r_), .val (.int (Int32.ofNat x0)), .val (.int o1_), .val (.int o2_), .val (.int (Int32.ofNat x1)), .val (.int (Int32.ofNat x2)), .val (.int (Int32.ofNat qq)), .val (.ref b124), .val (.int (Int32.ofNat (opn2_156 near_178))), .val (.int (Int32.ofNat ((own_up opn2_156 near_178 (opn2_156 (oc2_156 - 1))) near_201))), .val (.int (Int32.ofNat (3 - (opn2_156 near_178) - ((own_up opn2_156 near_178 (opn2_156 (oc2_156 - 1))) near_201)))), .unset] [(.int (Int32.ofNat ((own_up opn2_156 near_178 (opn2_156 (oc2_156 - 1))) near_201))), (.ref b101)])) _
      refine X201.laload hx (j := (Int32.ofNat ((own_up opn2_156 near_178 (opn2_156 (oc2_156 - 1))) near_201))) (v := (.long ((own_up (own_sel p1.toInt64 p2.toInt64 p3.toInt64) qq r_162) ((own_up opn2_156 near_178 (opn2_156 (oc2_156 - 1))) near_201)))) Ar204.1 (State.isArrayOf_alike hZ.alike Ar204.2.1) Ar204.2.2 in205 at206 (g := (mkF m 300 #[.val (.int p1), .val (.int p2), .val (.int p3), .val (.int p4), .val (.int p5), .val (.int p6), .val (.ref b101), .val (.int r_), .val (.int (Int32.ofNat x0)), .val (.int o1_), .val (.int o2_), .val (.int (Int32.ofNat x1)), .val (.int (Int32.ofNat x2)), .val (.int (Int32.ofNat qq)), .val (.ref b124), .val (.int (Int32.ofNat (opn2_156 near_178))), .val (.int (Int32.ofNat ((own_up opn2_156 near_178 (opn2_156 (oc2_156 - 1))) near_201))), .val (.int (Int32.ofNat (3 - (opn2_156 near_178) - ((own_up opn2_156 near_178 (opn2_156 (oc2_156 - 1))) near_201)))), .unset] [(.int (Int32.ofNat ((own_up opn2_156 near_178 (opn2_156 (oc2_156 - 1))) near_201))), (.ref b101)])) rfl rfl (hb hby at_300) _ ?_
      show Steps p.tables e below (T201.setTop (mkF m 301 #[.val (.int p1), .val (.int p2), .val (.int p3), .val (.int p4), .val (.int p5), .val (.int p6), .val (.ref b101), .val (.int r_), .val (.int (Int32.ofNat x0)), .val (.int o1_), .val (.int o2_), .val (.int (Int32.ofNat x1)), .val (.int (Int32.ofNat x2)), .val (.int (Int32.ofNat qq)), .val (.ref b124), .val (.int (Int32.ofNat (opn2_156 near_178))), .val (.int (Int32.ofNat ((own_up opn2_156 near_178 (opn2_156 (oc2_156 - 1))) near_201))), .val (.int (Int32.ofNat (3 - (opn2_156 near_178) - ((own_up opn2_156 near_178 (opn2_156 (oc2_156 - 1))) near_201)))), .unset] [(.long ((own_up (own_sel p1.toInt64 p2.toInt64 p3.toInt64) qq r_162) ((own_up opn2_156 near_178 (opn2_156 (oc2_156 - 1))) near_201)))])) _
      refine XS.aload X201.here hx rfl (hb hby at_301) rfl rfl ?_
      show Steps p.tables e below (T201.setTop (mkF m 303 #[.val (.int p1), .val (.int p2), .val (.int p3), .val (.int p4), .val (.int p5), .val (.int p6), .val (.ref b101), .val (.int r_), .val (.int (Int32.ofNat x0)), .val (.int o1_), .val (.int o2_), .val (.int (Int32.ofNat x1)), .val (.int (Int32.ofNat x2)), .val (.int (Int32.ofNat qq)), .val (.ref b124), .val (.int (Int32.ofNat (opn2_156 near_178))), .val (.int (Int32.ofNat ((own_up opn2_156 near_178 (opn2_156 (oc2_156 - 1))) near_201))), .val (.int (Int32.ofNat (3 - (opn2_156 near_178) - ((own_up opn2_156 near_178 (opn2_156 (oc2_156 - 1))) near_201)))), .unset] [(.ref b101), (.long ((own_up (own_sel p1.toInt64 p2.toInt64 p3.toInt64) qq r_162) ((own_up opn2_156 near_178 (opn2_156 (oc2_156 - 1))) near_201)))])) _
      refine XS.iload X201.here hx rfl (hb hby at_303) rfl ?_
      show Steps p.tables e below (T201.setTop (mkF m 305 #[.val (.int p1), .val (.int p2), .val (.int p3), .val (.int p4), .val (.int p5), .val (.int p6), .val (.ref b101), .val (.int r_), .val (.int (Int32.ofNat x0)), .val (.int o1_), .val (.int o2_), .val (.int (Int32.ofNat x1)), .val (.int (Int32.ofNat x2)), .val (.int (Int32.ofNat qq)), .val (.ref b124), .val (.int (Int32.ofNat (opn2_156 near_178))), .val (.int (Int32.ofNat ((own_up opn2_156 near_178 (opn2_156 (oc2_156 - 1))) near_201))), .val (.int (Int32.ofNat (3 - (opn2_156 near_178) - ((own_up opn2_156 near_178 (opn2_156 (oc2_156 - 1))) near_201)))), .unset] [(.int (Int32.ofNat (3 - (opn2_156 near_178) - ((own_up opn2_156 near_178 (opn2_156 (oc2_156 - 1))) near_201)))), (.ref b101), (.long ((own_up (own_sel p1.toInt64 p2.toInt64 p3.toInt64) qq r_162) ((own_up opn2_156 near_178 (opn2_156 (oc2_156 - 1))) near_201)))])) _
      refine X201.laload hx (j := (Int32.ofNat (3 - (opn2_156 near_178) - ((own_up opn2_156 near_178 (opn2_156 (oc2_156 - 1))) near_201)))) (v := (.long ((own_up (own_sel p1.toInt64 p2.toInt64 p3.toInt64) qq r_162) (3 - (opn2_156 near_178) - ((own_up opn2_156 near_178 (opn2_156 (oc2_156 - 1))) near_201))))) Ar207.1 (State.isArrayOf_alike hZ.alike Ar207.2.1) Ar207.2.2 in208 at209 (g := (mkF m 305 #[.val (.int p1), .val (.int p2), .val (.int p3), .val (.int p4), .val (.int p5), .val (.int p6), .val (.ref b101), .val (.int r_), .val (.int (Int32.ofNat x0)), .val (.int o1_), .val (.int o2_), .val (.int (Int32.ofNat x1)), .val (.int (Int32.ofNat x2)), .val (.int (Int32.ofNat qq)), .val (.ref b124), .val (.int (Int32.ofNat (opn2_156 near_178))), .val (.int (Int32.ofNat ((own_up opn2_156 near_178 (opn2_156 (oc2_156 - 1))) near_201))), .val (.int (Int32.ofNat (3 - (opn2_156 near_178) - ((own_up opn2_156 near_178 (opn2_156 (oc2_156 - 1))) near_201)))), .unset] [(.int (Int32.ofNat (3 - (opn2_156 near_178) - ((own_up opn2_156 near_178 (opn2_156 (oc2_156 - 1))) near_201)))), (.ref b101), (.long ((own_up (own_sel p1.toInt64 p2.toInt64 p3.toInt64) qq r_162) ((own_up opn2_156 near_178 (opn2_156 (oc2_156 - 1))) near_201)))])) rfl rfl (hb hby at_305) _ ?_
      show Steps p.tables e below (T201.setTop (mkF m 306 #[.val (.int p1), .val (.int p2), .val (.int p3), .val (.int p4), .val (.int p5), .val (.int p6), .val (.ref b101), .val (.int r_), .val (.int (Int32.ofNat x0)), .val (.int o1_), .val (.int o2_), .val (.int (Int32.ofNat x1)), .val (.int (Int32.ofNat x2)), .val (.int (Int32.ofNat qq)), .val (.ref b124), .val (.int (Int32.ofNat (opn2_156 near_178))), .val (.int (Int32.ofNat ((own_up opn2_156 near_178 (opn2_156 (oc2_156 - 1))) near_201))), .val (.int (Int32.ofNat (3 - (opn2_156 near_178) - ((own_up opn2_156 near_178 (opn2_156 (oc2_156 - 1))) near_201)))), .unset] [(.long ((own_up (own_sel p1.toInt64 p2.toInt64 p3.toInt64) qq r_162) (3 - (opn2_156 near_178) - ((own_up opn2_156 near_178 (opn2_156 (oc2_156 - 1))) near_201)))), (.long ((own_up (own_sel p1.toInt64 p2.toInt64 p3.toInt64) qq r_162) ((own_up opn2_156 near_178 (opn2_156 (oc2_156 - 1))) near_201)))])) _
      refine XS.lcmp X201.here hx rfl (hb hby at_306) rfl ?_
      show Steps p.tables e below (T201.setTop (mkF m 307 #[.val (.int p1), .val (.int p2), .val (.int p3), .val (.int p4), .val (.int p5), .val (.int p6), .val (.ref b101), .val (.int r_), .val (.int (Int32.ofNat x0)), .val (.int o1_), .val (.int o2_), .val (.int (Int32.ofNat x1)), .val (.int (Int32.ofNat x2)), .val (.int (Int32.ofNat qq)), .val (.ref b124), .val (.int (Int32.ofNat (opn2_156 near_178))), .val (.int (Int32.ofNat ((own_up opn2_156 near_178 (opn2_156 (oc2_156 - 1))) near_201))), .val (.int (Int32.ofNat (3 - (opn2_156 near_178) - ((own_up opn2_156 near_178 (opn2_156 (oc2_156 - 1))) near_201)))), .unset] [(.int (lcmpW ((own_up (own_sel p1.toInt64 p2.toInt64 p3.toInt64) qq r_162) ((own_up opn2_156 near_178 (opn2_156 (oc2_156 - 1))) near_201)) ((own_up (own_sel p1.toInt64 p2.toInt64 p3.toInt64) qq r_162) (3 - (opn2_156 near_178) - ((own_up opn2_156 near_178 (opn2_156 (oc2_156 - 1))) near_201)))))])) _
      refine XS.ifYes X201.here hx rfl (pc0 := 307) (pc' := 312) rfl (hb hby at_307) rfl ((if0 _ _).trans (flt (own_lgt hmin2 : ¬ ((0 : Int32) < (lcmpW ((own_up (own_sel p1.toInt64 p2.toInt64 p3.toInt64) qq r_162) ((own_up opn2_156 near_178 (opn2_156 (oc2_156 - 1))) near_201)) ((own_up (own_sel p1.toInt64 p2.toInt64 p3.toInt64) qq r_162) (3 - (opn2_156 near_178) - ((own_up opn2_156 near_178 (opn2_156 (oc2_156 - 1))) near_201))))))).2.2.2) (by decide) (by decide) ?_
      show Steps p.tables e below (T201.setTop (mkF m 312 #[.val (.int p1), .val (.int p2), .val (.int p3), .val (.int p4), .val (.int p5), .val (.int p6), .val (.ref b101), .val (.int r_), .val (.int (Int32.ofNat x0)), .val (.int o1_), .val (.int o2_), .val (.int (Int32.ofNat x1)), .val (.int (Int32.ofNat x2)), .val (.int (Int32.ofNat qq)), .val (.ref b124), .val (.int (Int32.ofNat (opn2_156 near_178))), .val (.int (Int32.ofNat ((own_up opn2_156 near_178 (opn2_156 (oc2_156 - 1))) near_201))), .val (.int (Int32.ofNat (3 - (opn2_156 near_178) - ((own_up opn2_156 near_178 (opn2_156 (oc2_156 - 1))) near_201)))), .unset] [])) _
      refine XS.aload X201.here hx rfl (hb hby at_312) rfl rfl ?_
      show Steps p.tables e below (T201.setTop (mkF m 314 #[.val (.int p1), .val (.int p2), .val (.int p3), .val (.int p4), .val (.int p5), .val (.int p6), .val (.ref b101), .val (.int r_), .val (.int (Int32.ofNat x0)), .val (.int o1_), .val (.int o2_), .val (.int (Int32.ofNat x1)), .val (.int (Int32.ofNat x2)), .val (.int (Int32.ofNat qq)), .val (.ref b124), .val (.int (Int32.ofNat (opn2_156 near_178))), .val (.int (Int32.ofNat ((own_up opn2_156 near_178 (opn2_156 (oc2_156 - 1))) near_201))), .val (.int (Int32.ofNat (3 - (opn2_156 near_178) - ((own_up opn2_156 near_178 (opn2_156 (oc2_156 - 1))) near_201)))), .unset] [(.ref b124)])) _
      refine st210.trans ?_
      show Steps p.tables e below (T210.setTop (mkF m 317 #[.val (.int p1), .val (.int p2), .val (.int p3), .val (.int p4), .val (.int p5), .val (.int p6), .val (.ref b101), .val (.int r_), .val (.int (Int32.ofNat x0)), .val (.int o1_), .val (.int o2_), .val (.int (Int32.ofNat x1)), .val (.int (Int32.ofNat x2)), .val (.int (Int32.ofNat qq)), .val (.ref b124), .val (.int (Int32.ofNat (opn2_156 near_178))), .val (.int (Int32.ofNat ((own_up opn2_156 near_178 (opn2_156 (oc2_156 - 1))) near_201))), .val (.int (Int32.ofNat (3 - (opn2_156 near_178) - ((own_up opn2_156 near_178 (opn2_156 (oc2_156 - 1))) near_201)))), .unset] [(.int (Int32.ofNat ((own_up (own_up opn2_156 near_178 (opn2_156 (oc2_156 - 1))) near_201 ((own_up opn2_156 near_178 (opn2_156 (oc2_156 - 1))) ((oc2_156 - 1) - 1))) near_210)))])) _
      refine XS.istore X210.here hx rfl (hb hby at_317) rfl (l' := #[.val (.int p1), .val (.int p2), .val (.int p3), .val (.int p4), .val (.int p5), .val (.int p6), .val (.ref b101), .val (.int r_), .val (.int (Int32.ofNat x0)), .val (.int o1_), .val (.int o2_), .val (.int (Int32.ofNat x1)), .val (.int (Int32.ofNat x2)), .val (.int (Int32.ofNat qq)), .val (.ref b124), .val (.int (Int32.ofNat (opn2_156 near_178))), .val (.int (Int32.ofNat ((own_up opn2_156 near_178 (opn2_156 (oc2_156 - 1))) near_201))), .val (.int (Int32.ofNat (3 - (opn2_156 near_178) - ((own_up opn2_156 near_178 (opn2_156 (oc2_156 - 1))) near_201)))), .val (.int (Int32.ofNat ((own_up (own_up opn2_156 near_178 (opn2_156 (oc2_156 - 1))) near_201 ((own_up opn2_156 near_178 (opn2_156 (oc2_156 - 1))) ((oc2_156 - 1) - 1))) near_210)))]) rfl ?_
      show Steps p.tables e below (T210.setTop (mkF m 319 #[.val (.int p1), .val (.int p2), .val (.int p3), .val (.int p4), .val (.int p5), .val (.int p6), .val (.ref b101), .val (.int r_), .val (.int (Int32.ofNat x0)), .val (.int o1_), .val (.int o2_), .val (.int (Int32.ofNat x1)), .val (.int (Int32.ofNat x2)), .val (.int (Int32.ofNat qq)), .val (.ref b124), .val (.int (Int32.ofNat (opn2_156 near_178))), .val (.int (Int32.ofNat ((own_up opn2_156 near_178 (opn2_156 (oc2_156 - 1))) near_201))), .val (.int (Int32.ofNat (3 - (opn2_156 near_178) - ((own_up opn2_156 near_178 (opn2_156 (oc2_156 - 1))) near_201)))), .val (.int (Int32.ofNat ((own_up (own_up opn2_156 near_178 (opn2_156 (oc2_156 - 1))) near_201 ((own_up opn2_156 near_178 (opn2_156 (oc2_156 - 1))) ((oc2_156 - 1) - 1))) near_210)))] [])) _
      refine XS.iload X210.here hx rfl (hb hby at_319) rfl ?_
      show Steps p.tables e below (T210.setTop (mkF m 321 #[.val (.int p1), .val (.int p2), .val (.int p3), .val (.int p4), .val (.int p5), .val (.int p6), .val (.ref b101), .val (.int r_), .val (.int (Int32.ofNat x0)), .val (.int o1_), .val (.int o2_), .val (.int (Int32.ofNat x1)), .val (.int (Int32.ofNat x2)), .val (.int (Int32.ofNat qq)), .val (.ref b124), .val (.int (Int32.ofNat (opn2_156 near_178))), .val (.int (Int32.ofNat ((own_up opn2_156 near_178 (opn2_156 (oc2_156 - 1))) near_201))), .val (.int (Int32.ofNat (3 - (opn2_156 near_178) - ((own_up opn2_156 near_178 (opn2_156 (oc2_156 - 1))) near_201)))), .val (.int (Int32.ofNat ((own_up (own_up opn2_156 near_178 (opn2_156 (oc2_156 - 1))) near_201 ((own_up opn2_156 near_178 (opn2_156 (oc2_156 - 1))) ((oc2_156 - 1) - 1))) near_210)))] [(.int (Int32.ofNat ((own_up (own_up opn2_156 near_178 (opn2_156 (oc2_156 - 1))) near_201 ((own_up opn2_156 near_178 (opn2_156 (oc2_156 - 1))) ((oc2_156 - 1) - 1))) near_210)))])) _
      refine XS.iload X210.here hx rfl (hb hby at_321) rfl ?_
      show Steps p.tables e below (T210.setTop (mkF m 323 #[.val (.int p1), .val (.int p2), .val (.int p3), .val (.int p4), .val (.int p5), .val (.int p6), .val (.ref b101), .val (.int r_), .val (.int (Int32.ofNat x0)), .val (.int o1_), .val (.int o2_), .val (.int (Int32.ofNat x1)), .val (.int (Int32.ofNat x2)), .val (.int (Int32.ofNat qq)), .val (.ref b124), .val (.int (Int32.ofNat (opn2_156 near_178))), .val (.int (Int32.ofNat ((own_up opn2_156 near_178 (opn2_156 (oc2_156 - 1))) near_201))), .val (.int (Int32.ofNat (3 - (opn2_156 near_178) - ((own_up opn2_156 near_178 (opn2_156 (oc2_156 - 1))) near_201)))), .val (.int (Int32.ofNat ((own_up (own_up opn2_156 near_178 (opn2_156 (oc2_156 - 1))) near_201 ((own_up opn2_156 near_178 (opn2_156 (oc2_156 - 1))) ((oc2_156 - 1) - 1))) near_210)))] [(.int (Int32.ofNat (3 - (opn2_156 near_178) - ((own_up opn2_156 near_178 (opn2_156 (oc2_156 - 1))) near_201)))), (.int (Int32.ofNat ((own_up (own_up opn2_156 near_178 (opn2_156 (oc2_156 - 1))) near_201 ((own_up opn2_156 near_178 (opn2_156 (oc2_156 - 1))) ((oc2_156 - 1) - 1))) near_210)))])) _
      refine XS.icmpYes X210.here hx rfl (pc0 := 323) (pc' := 328) rfl (hb hby at_323) rfl (teq ((eq32_iff (by omega) (by omega)).mpr (by omega) : (Int32.ofNat ((own_up (own_up opn2_156 near_178 (opn2_156 (oc2_156 - 1))) near_201 ((own_up opn2_156 near_178 (opn2_156 (oc2_156 - 1))) ((oc2_156 - 1) - 1))) near_210)) = (Int32.ofNat (3 - (opn2_156 near_178) - ((own_up opn2_156 near_178 (opn2_156 (oc2_156 - 1))) near_201))))).1 (by decide) (by decide) ?_
      show Steps p.tables e below (T210.setTop (mkF m 328 #[.val (.int p1), .val (.int p2), .val (.int p3), .val (.int p4), .val (.int p5), .val (.int p6), .val (.ref b101), .val (.int r_), .val (.int (Int32.ofNat x0)), .val (.int o1_), .val (.int o2_), .val (.int (Int32.ofNat x1)), .val (.int (Int32.ofNat x2)), .val (.int (Int32.ofNat qq)), .val (.ref b124), .val (.int (Int32.ofNat (opn2_156 near_178))), .val (.int (Int32.ofNat ((own_up opn2_156 near_178 (opn2_156 (oc2_156 - 1))) near_201))), .val (.int (Int32.ofNat (3 - (opn2_156 near_178) - ((own_up opn2_156 near_178 (opn2_156 (oc2_156 - 1))) near_201)))), .val (.int (Int32.ofNat ((own_up (own_up opn2_156 near_178 (opn2_156 (oc2_156 - 1))) near_201 ((own_up opn2_156 near_178 (opn2_156 (oc2_156 - 1))) ((oc2_156 - 1) - 1))) near_210)))] [])) _
      refine XS.aload X210.here hx rfl (hb hby at_328) rfl rfl ?_
      show Steps p.tables e below (T210.setTop (mkF m 330 #[.val (.int p1), .val (.int p2), .val (.int p3), .val (.int p4), .val (.int p5), .val (.int p6), .val (.ref b101), .val (.int r_), .val (.int (Int32.ofNat x0)), .val (.int o1_), .val (.int o2_), .val (.int (Int32.ofNat x1)), .val (.int (Int32.ofNat x2)), .val (.int (Int32.ofNat qq)), .val (.ref b124), .val (.int (Int32.ofNat (opn2_156 near_178))), .val (.int (Int32.ofNat ((own_up opn2_156 near_178 (opn2_156 (oc2_156 - 1))) near_201))), .val (.int (Int32.ofNat (3 - (opn2_156 near_178) - ((own_up opn2_156 near_178 (opn2_156 (oc2_156 - 1))) near_201)))), .val (.int (Int32.ofNat ((own_up (own_up opn2_156 near_178 (opn2_156 (oc2_156 - 1))) near_201 ((own_up opn2_156 near_178 (opn2_156 (oc2_156 - 1))) ((oc2_156 - 1) - 1))) near_210)))] [(.ref b124)])) _
      refine st212.trans ?_
      exact kt)
  obtain rfl : r_212 = (1 : Int32) := x212_0 ((eq32_iff (n := 0) (by omega) (by omega)).mpr (by omega))
  obtain ⟨fs, hr, hrun, hended, hW, hsame⟩ := X212.leave (v := some (.int (1 : Int32))) (fun h => by rw [Bd.returns] at h; cases h)
  refine ⟨_, _, pre213 _ ?_, hrun, hended, _, _, rfl, ?_, ⟨_, rfl⟩, hW, hsame.mono (by decide) (by decide)⟩
  · show Steps p.tables e below (T212.setTop (mkF m 333 #[.val (.int p1), .val (.int p2), .val (.int p3), .val (.int p4), .val (.int p5), .val (.int p6), .val (.ref b101), .val (.int r_), .val (.int (Int32.ofNat x0)), .val (.int o1_), .val (.int o2_), .val (.int (Int32.ofNat x1)), .val (.int (Int32.ofNat x2)), .val (.int (Int32.ofNat qq)), .val (.ref b124), .val (.int (Int32.ofNat (opn2_156 near_178))), .val (.int (Int32.ofNat ((own_up opn2_156 near_178 (opn2_156 (oc2_156 - 1))) near_201))), .val (.int (Int32.ofNat (3 - (opn2_156 near_178) - ((own_up opn2_156 near_178 (opn2_156 (oc2_156 - 1))) near_201)))), .val (.int (Int32.ofNat ((own_up (own_up opn2_156 near_178 (opn2_156 (oc2_156 - 1))) near_201 ((own_up opn2_156 near_178 (opn2_156 (oc2_156 - 1))) ((oc2_156 - 1) - 1))) near_210)))] [(.int (1 : Int32))])) _
    exact retN X212 hx (t := .boolean) Bd.returns (by simp) (hb hby at_333) hr
  · show Q0 Z p1 p2 p3 p4 p5 p6 h0 n0 _ T212.heap _
    rw [e212]
    exact ⟨rfl, N212⟩
set_option maxRecDepth 65536 in
set_option maxHeartbeats 40000000 in
theorem comes_1 {Post : Tables → Env → Array Value → State → Outcome → State → Prop} (hpost : ∀ tb e args s v u, (limb_1_1.after args s (.returned v) u = true ∧ limb_1_2.after args s (.returned v) u = true ∧ True) → FrameEnd s (.returned v) u (Jvm.fieldLocs frame_1_writes args s ++ Jvm.arrayLocs frame_1_arrays args s ++ Jvm.staticLocs frame_1_statics s) 24 128 → Post tb e args s (.returned v) u) :
    ArmFor flags0 classFile x code maxLocals ret World_1 tables_1 room_1 Calls_1 rest_1 Pre_1 Post := by
  intro l hfl _ _ p e ha hc hk s m args below hf hA hF happ hP
  obtain ⟨hcalls, hrest, hpre⟩ := hP
  obtain ⟨-, -, -, hnamed, -, -, -, hat⟩ := (Spec.applies_iff hf).mp happ
  obtain ⟨hg, hn⟩ := and_e (Cond.before_iff.mp (show (Jvm.Cond.and given_1 narrow_1).before args s = true from hpre))
  obtain ⟨g1, g2⟩ := and_e hg
  obtain ⟨g3, g4⟩ := and_e g2
  obtain ⟨g5, g6⟩ := and_e g4
  obtain ⟨g7, g8⟩ := and_e g6
  obtain ⟨g9, g10⟩ := and_e g8
  obtain ⟨g11, g12⟩ := and_e g10
  obtain ⟨w0, w1, w2, w3, w4, w5, rfl⟩ : ∃ w0 w1 w2 w3 w4 w5 : Value, args = #[w0, w1, w2, w3, w4, w5] := by
    have hs : args.size = 6 := by simpa [Cond.value, given_1] using g1
    obtain ⟨L⟩ := args
    match L, hs with
    | [w0, w1, w2, w3, w4, w5], _ => exact ⟨w0, w1, w2, w3, w4, w5, rfl⟩
  have hw := fun d (hd : d ∈ tables_1) => atoms_spec (ws := Jvm.Cond.code x code maxLocals ret :: tables_1) hat d (List.mem_cons_of_mem _ hd)
  have hfit : Fit s := fun {y c} hc i hi => by
    obtain ⟨ha, rfl⟩ := Array.getElem?_eq_some_iff.mp hc
    have q := List.all_eq_true.mp ((Array.all_eq_true_iff_forall_mem.mp hF) _ (Array.getElem_mem ha)) i (List.mem_range.mpr hi)
    simpa [Array.getElem?_eq_getElem hi] using q
  obtain ⟨i0, ei0⟩ := is_v g3
  obtain rfl : w0 = (.int i0) := Option.some.inj ei0
  obtain ⟨i1, ei1⟩ := is_v g5
  obtain rfl : w1 = (.int i1) := Option.some.inj ei1
  obtain ⟨i2, ei2⟩ := is_v g7
  obtain rfl : w2 = (.int i2) := Option.some.inj ei2
  obtain ⟨i3, ei3⟩ := is_v g9
  obtain rfl : w3 = (.int i3) := Option.some.inj ei3
  obtain ⟨i4, ei4⟩ := is_v g11
  obtain rfl : w4 = (.int i4) := Option.some.inj ei4
  obtain ⟨i5, ei5⟩ := is_v g12
  obtain rfl : w5 = (.int i5) := Option.some.inj ei5
  obtain ⟨n, o, h1, h2, h3, _, L, rfl, ⟨rfl, N⟩, hq⟩ := rm0 l s _ hw tables_1 i0 i1 i2 i3 i4 i5 s.heap s.heap.size (Nat.le_refl _)  p e ha hc hk s m _ below hf ((Spec.applies_iff_loose hf).mp happ).1 ⟨rfl, State.Warmed39.refl s, rfl⟩ trivial
  refine ⟨n, _, h1, h2, h3, hpost _ _ _ _ _ _ ⟨Cond.after_iff.mpr rfl, Cond.after_iff.mpr (eq_i res_at (Term.int_eval (1)) rfl), trivial⟩ ⟨hq.1, hq.2.1, (hq.2.2.sift fun y hy => Or.inr (N y hy)).mono (by decide) (by decide)⟩⟩
theorem main_1_1 : Claimed_1_1 := comes_1 fun _ _ _ _ _ _ h hF => ⟨h.1, hF⟩
theorem main_1_2 : Claimed_1_2 := comes_1 fun _ _ _ _ _ _ h hF => ⟨h.2.1, hF⟩
end Jvm.Pilot.@@N@@
namespace Jvm.Pilot.@@N@@
open Jvm Jvm.ClassFile Sem Op Lib Jvm.Free Jvm.Stand Jvm.Pilot.@@N@@.Jvm.D
/-! MADE BY PROGRAM (witnessworld.py) out of the Statement's table words and the real class files: 22 classes; the members and pool entries that the words name. The judged class is class 1, her method 1. -/
namespace start1
open Jvm.ClassFile
def u (s : String) : CpInfo := .utf8 (stringToUtf16 s)
/-- a pool by its gaps: so many unusable entries, then the entry; so many at the end -/
def gap : Nat → List CpInfo → List CpInfo
  | 0, r => r
  | n + 1, r => .unusable :: gap n r
def poolList (es : List (Nat × CpInfo)) (last : Nat) : List CpInfo := es.foldr (fun e r => gap e.1 (e.2 :: r)) (gap last [])
def pool (es : List (Nat × CpInfo)) (last : Nat) : Array CpInfo := ⟨poolList es last⟩
def fileOf (pool : Array CpInfo) (this : Nat) (attrs : Array Attribute := #[]) (ms : Array MethodInfo := #[]) (fl : Nat := 33) (sup : Nat := 0) (ifs : Array Nat := #[]) (fds : Array FieldInfo := #[]) : ClassFile where
  minorVersion := 0
  majorVersion := 65
  constantPool := pool
  accessFlags := fl
  thisClass := this
  superClass := sup
  interfaces := ifs
  fields := fds
  methods := ms
  attributes := attrs
def plain (name : String) (sup : Option ClassId) : Class where
  name := name
  kind := .ordinary
  loader := none
  accessFlags := 33
  super := sup
  interfaces := #[]
  cf := none
  fields := #[]
  methods := #[]
  instanceTypes := #[]
  staticTypes := #[]
  resolved := #[]
  callSites := []
  init := .initialized
  statics := none
  mirror := none

def pool0 : Array CpInfo := pool [(5, u "<init>"), (0, u "()V"), (1, .class_ 10), (1, u "java/lang/Object")] 113

def k0c0 : Code := { maxStack := 0, maxLocals := 1, code := object_method_1_code, exceptionTable := #[], attributes := #[] }
def k0m0 : Method := { name := "<init>", desc := "()V", sig := { parameters := [], returnType := none }, accessFlags := 1, code := some k0c0 }
/-- java/lang/Object -/
def k0 : Class := { plain "java/lang/Object" none with
  accessFlags := 33
  interfaces := #[]
  cf := some (fileOf pool0 8 #[] #[{ accessFlags := 1, nameIndex := 5, descriptorIndex := 6, attributes := #[] }] 33 0 #[] #[])
  fields := #[]
  methods := #[k0m0]
  instanceTypes := #[]
  staticTypes := #[]
  resolved := Array.replicate 124 none
  statics := none }

def pool1 : Array CpInfo := pool [(2, .class_ 4), (1, u "java/lang/Object"), (0, u "<init>"), (0, u "()V"), (0, .integer 2147483647), (0, .class_ 9), (0, u "com/example/slotwright/slotwright/exchange/Frontier"), (0, .methodref 8 11), (0, .nameAndType 5 12), (0, u "(I)V"), (0, .methodref 8 14), (0, .nameAndType 15 16), (0, u "reach"), (0, u "(ID)Z"), (0, .methodref 18 19), (0, .class_ 20), (0, .nameAndType 21 22), (0, u "java/lang/Math"), (0, u "min"), (0, u "(JJ)J"), (0, .methodref 8 24), (0, .nameAndType 25 26), (0, u "settleNearest"), (0, u "()I"), (0, .methodref 8 28), (0, .nameAndType 29 30), (0, u "isSettled"), (0, u "(I)Z"), (0, .methodref 8 32), (0, .nameAndType 33 34), (0, u "isEmpty"), (0, u "()Z"), (0, .class_ 36), (0, u "com/example/slotwright/slotwright/exchange/FrontierSettleNearestPinLaw"), (2, u "law"), (0, u "(IIIIII)Z")] 5

def k1m0 : Method := { name := "<init>", desc := "()V", sig := { parameters := [], returnType := none }, accessFlags := 2, code := none }
def k1c1 : Code := { maxStack := 6, maxLocals := 19, code := code, exceptionTable := #[], attributes := #[] }
def k1m1 : Method := { name := "law", desc := "(IIIIII)Z", sig := { parameters := [.int, .int, .int, .int, .int, .int], returnType := some .boolean }, accessFlags := 9, code := some k1c1 }
/-- com/example/slotwright/slotwright/exchange/FrontierSettleNearestPinLaw -/
def k1 : Class := { plain "com/example/slotwright/slotwright/exchange/FrontierSettleNearestPinLaw" (some 0) with
  accessFlags := 49
  interfaces := #[]
  cf := some (fileOf pool1 35 #[] #[{ accessFlags := 2, nameIndex := 5, descriptorIndex := 6, attributes := #[] }, { accessFlags := 9, nameIndex := 39, descriptorIndex := 40, attributes := #[] }] 49 2 #[] #[])
  fields := #[]
  methods := #[k1m0, k1m1]
  instanceTypes := #[]
  staticTypes := #[]
  resolved := Array.replicate 46 none
  statics := none }

def pool2 : Array CpInfo := pool [(1, .methodref 2 3), (0, .class_ 4), (0, .nameAndType 5 6), (0, u "java/lang/Object"), (0, u "<init>"), (0, u "()V"), (0, .fieldref 8 9), (0, .class_ 10), (0, .nameAndType 11 12), (0, u "com/example/slotwright/slotwright/exchange/Frontier"), (0, u "distance"), (0, u "[D"), (0, .class_ 14), (0, u "java/lang/Double"), (0, .double 9218868437227405312), (1, .methodref 18 19), (0, .class_ 20), (0, .nameAndType 21 22), (0, u "java/util/Arrays"), (0, u "fill"), (0, u "([DD)V"), (0, .fieldref 8 24), (0, .nameAndType 25 26), (0, u "settled"), (0, u "[Z"), (0, .fieldref 8 28), (0, .nameAndType 29 30), (0, u "reached"), (0, u "[I"), (0, .fieldref 8 32), (0, .nameAndType 33 30), (0, u "open"), (0, .methodref 13 35), (0, .nameAndType 36 37), (0, u "isFinite"), (0, u "(D)Z"), (9, .fieldref 8 48), (0, .nameAndType 49 50), (0, u "reachedCount"), (0, u "I"), (0, .fieldref 8 52), (0, .nameAndType 53 50), (0, u "openCount"), (5, u "(I)V"), (2, u "reach"), (0, u "(ID)Z"), (1, u "isEmpty"), (0, u "()Z"), (0, u "settleNearest"), (0, u "()I"), (1, u "isSettled"), (0, u "(I)Z")] 19

def k2c0 : Code := { maxStack := 3, maxLocals := 2, code := prog_39_method_1_code, exceptionTable := #[], attributes := #[] }
def k2m0 : Method := { name := "<init>", desc := "(I)V", sig := { parameters := [.int], returnType := none }, accessFlags := 0, code := some k2c0 }
def k2c1 : Code := { maxStack := 5, maxLocals := 5, code := prog_39_method_2_code, exceptionTable := #[], attributes := #[] }
def k2m1 : Method := { name := "reach", desc := "(ID)Z", sig := { parameters := [.int, .double], returnType := some .boolean }, accessFlags := 0, code := some k2c1 }
def k2c2 : Code := { maxStack := 1, maxLocals := 1, code := prog_39_method_3_code, exceptionTable := #[], attributes := #[] }
def k2m2 : Method := { name := "isEmpty", desc := "()Z", sig := { parameters := [], returnType := some .boolean }, accessFlags := 0, code := some k2c2 }
def k2c3 : Code := { maxStack := 5, maxLocals := 3, code := prog_39_method_4_code, exceptionTable := #[], attributes := #[] }
def k2m3 : Method := { name := "settleNearest", desc := "()I", sig := { parameters := [], returnType := some .int }, accessFlags := 0, code := some k2c3 }
def k2c4 : Code := { maxStack := 2, maxLocals := 2, code := prog_39_method_6_code, exceptionTable := #[], attributes := #[] }
def k2m4 : Method := { name := "isSettled", desc := "(I)Z", sig := { parameters := [.int], returnType := some .boolean }, accessFlags := 0, code := some k2c4 }
/-- com/example/slotwright/slotwright/exchange/Frontier -/
def k2 : Class := { plain "com/example/slotwright/slotwright/exchange/Frontier" (some 0) with
  accessFlags := 48
  interfaces := #[]
  cf := some (fileOf pool2 8 #[] #[{ accessFlags := 0, nameIndex := 5, descriptorIndex := 59, attributes := #[] }, { accessFlags := 0, nameIndex := 62, descriptorIndex := 63, attributes := #[] }, { accessFlags := 0, nameIndex := 65, descriptorIndex := 66, attributes := #[] }, { accessFlags := 0, nameIndex := 67, descriptorIndex := 68, attributes := #[] }, { accessFlags := 0, nameIndex := 70, descriptorIndex := 71, attributes := #[] }] 48 2 #[] #[{ accessFlags := 18, nameIndex := 11, descriptorIndex := 12, attributes := #[] }, { accessFlags := 18, nameIndex := 25, descriptorIndex := 26, attributes := #[] }, { accessFlags := 18, nameIndex := 29, descriptorIndex := 30, attributes := #[] }, { accessFlags := 2, nameIndex := 49, descriptorIndex := 50, attributes := #[] }, { accessFlags := 18, nameIndex := 33, descriptorIndex := 30, attributes := #[] }, { accessFlags := 2, nameIndex := 53, descriptorIndex := 50, attributes := #[] }])
  fields := #[{ name := "distance", type := (.array .double), accessFlags := 18, slot := 0, constantValue := 0 }, { name := "settled", type := (.array .boolean), accessFlags := 18, slot := 1, constantValue := 0 }, { name := "reached", type := (.array .int), accessFlags := 18, slot := 2, constantValue := 0 }, { name := "reachedCount", type := .int, accessFlags := 2, slot := 3, constantValue := 0 }, { name := "open", type := (.array .int), accessFlags := 18, slot := 4, constantValue := 0 }, { name := "openCount", type := .int, accessFlags := 2, slot := 5, constantValue := 0 }]
  methods := #[k2m0, k2m1, k2m2, k2m3, k2m4]
  instanceTypes := #[(.array .double), (.array .boolean), (.array .int), .int, (.array .int), .int]
  staticTypes := #[]
  resolved := Array.replicate 91 none
  statics := none }

def pool3 : Array CpInfo := pool [(2, .class_ 4), (1, u "java/lang/Object"), (0, u "<init>"), (0, u "()V"), (7, .class_ 16), (1, u "java/util/Arrays"), (57, .class_ 76), (1, u "java/util/Arrays$NaturalOrder"), (36, .class_ 115), (1, u "java/util/Arrays$LegacyMergeSort"), (1, u "Z"), (257, .class_ 376), (0, u "java/util/Arrays$ArrayList"), (68, u "$assertionsDisabled"), (269, u "MIN_ARRAY_SORT_GRAN"), (0, u "I"), (2, u "INSERTIONSORT_THRESHOLD"), (120, u "fill"), (13, u "([DD)V"), (120, .class_ 976), (0, u "java/util/Arrays$ArrayItr")] 52

def k3m0 : Method := { name := "<init>", desc := "()V", sig := { parameters := [], returnType := none }, accessFlags := 2, code := none }
def k3c1 : Code := { maxStack := 4, maxLocals := 5, code := jdk_65_method_113_code, exceptionTable := #[], attributes := #[] }
def k3m1 : Method := { name := "fill", desc := "([DD)V", sig := { parameters := [(.array .double), .double], returnType := none }, accessFlags := 9, code := some k3c1 }
/-- java/util/Arrays -/
def k3 : Class := { plain "java/util/Arrays" (some 0) with
  accessFlags := 49
  interfaces := #[]
  cf := some (fileOf pool3 14 #[.nestMembers #[975, 375, 113, 74]] #[{ accessFlags := 2, nameIndex := 5, descriptorIndex := 6, attributes := #[] }, { accessFlags := 9, nameIndex := 840, descriptorIndex := 854, attributes := #[] }] 49 2 #[] #[{ accessFlags := 26, nameIndex := 715, descriptorIndex := 716, attributes := #[] }, { accessFlags := 26, nameIndex := 719, descriptorIndex := 716, attributes := #[] }, { accessFlags := 4120, nameIndex := 445, descriptorIndex := 117, attributes := #[] }])
  fields := #[{ name := "MIN_ARRAY_SORT_GRAN", type := .int, accessFlags := 26, slot := 0, constantValue := 0 }, { name := "INSERTIONSORT_THRESHOLD", type := .int, accessFlags := 26, slot := 1, constantValue := 0 }, { name := "$assertionsDisabled", type := .boolean, accessFlags := 4120, slot := 2, constantValue := 0 }]
  methods := #[k3m0, k3m1]
  instanceTypes := #[]
  staticTypes := #[.int, .int, .boolean]
  resolved := Array.replicate 1029 none
  statics := none }

def pool4 : Array CpInfo := pool [(1, .class_ 2), (0, u "java/io/Serializable"), (0, .class_ 4), (0, u "java/lang/Object")] 2

/-- java/io/Serializable -/
def k4 : Class := { plain "java/io/Serializable" (some 0) with
  accessFlags := 1537
  interfaces := #[]
  cf := some (fileOf pool4 1 #[] #[] 1537 3 #[] #[])
  fields := #[]
  methods := #[]
  instanceTypes := #[]
  staticTypes := #[]
  resolved := Array.replicate 7 none
  statics := none }

def pool5 : Array CpInfo := pool [(2, .class_ 4), (1, u "java/lang/Object"), (0, u "<init>"), (0, u "()V"), (1, .class_ 10), (1, u "java/lang/Number"), (2, .class_ 14), (0, u "java/io/Serializable"), (0, u "serialVersionUID"), (0, u "J")] 20

def k5m0 : Method := { name := "<init>", desc := "()V", sig := { parameters := [], returnType := none }, accessFlags := 1, code := none }
/-- java/lang/Number -/
def k5 : Class := { plain "java/lang/Number" (some 0) with
  accessFlags := 1057
  interfaces := #[4]
  cf := some (fileOf pool5 8 #[] #[{ accessFlags := 1, nameIndex := 5, descriptorIndex := 6, attributes := #[] }] 1057 2 #[13] #[{ accessFlags := 26, nameIndex := 15, descriptorIndex := 16, attributes := #[] }])
  fields := #[{ name := "serialVersionUID", type := .long, accessFlags := 26, slot := 0, constantValue := 0 }]
  methods := #[k5m0]
  instanceTypes := #[]
  staticTypes := #[.long]
  resolved := Array.replicate 37 none
  statics := none }

def pool6 : Array CpInfo := pool [(1, .class_ 2), (0, u "java/lang/Comparable"), (0, .class_ 4), (0, u "java/lang/Object")] 7

/-- java/lang/Comparable -/
def k6 : Class := { plain "java/lang/Comparable" (some 0) with
  accessFlags := 1537
  interfaces := #[]
  cf := some (fileOf pool6 1 #[] #[] 1537 3 #[] #[])
  fields := #[]
  methods := #[]
  instanceTypes := #[]
  staticTypes := #[]
  resolved := Array.replicate 12 none
  statics := none }

def pool7 : Array CpInfo := pool [(1, .class_ 2), (0, u "java/lang/constant/Constable"), (0, .class_ 4), (0, u "java/lang/Object")] 6

/-- java/lang/constant/Constable -/
def k7 : Class := { plain "java/lang/constant/Constable" (some 0) with
  accessFlags := 1537
  interfaces := #[]
  cf := some (fileOf pool7 1 #[] #[] 1537 3 #[] #[])
  fields := #[]
  methods := #[]
  instanceTypes := #[]
  staticTypes := #[]
  resolved := Array.replicate 11 none
  statics := none }

def pool8 : Array CpInfo := pool [(1, .class_ 2), (0, u "java/lang/constant/ConstantDesc"), (0, .class_ 4), (0, u "java/lang/Object")] 32

/-- java/lang/constant/ConstantDesc -/
def k8 : Class := { plain "java/lang/constant/ConstantDesc" (some 0) with
  accessFlags := 1537
  interfaces := #[]
  cf := some (fileOf pool8 1 #[] #[] 1537 3 #[] #[])
  fields := #[]
  methods := #[]
  instanceTypes := #[]
  staticTypes := #[]
  resolved := Array.replicate 37 none
  statics := none }

def pool9 : Array CpInfo := pool [(1, .class_ 2), (0, u "java/lang/Double"), (10, u "isFinite"), (0, u "(D)Z"), (8, .class_ 25), (1, u "java/lang/Math"), (12, .methodref 23 39), (0, .nameAndType 40 41), (0, u "abs"), (0, u "(D)D"), (69, .double 9218868437227405311), (2, .class_ 116), (1, u "java/lang/Number"), (3, u "value"), (0, u "D"), (51, u "TYPE"), (0, u "Ljava/lang/Class;"), (0, .class_ 176), (0, u "java/lang/Comparable"), (0, .class_ 178), (0, u "java/lang/constant/Constable"), (0, .class_ 180), (0, u "java/lang/constant/ConstantDesc"), (0, u "POSITIVE_INFINITY"), (3, u "NEGATIVE_INFINITY"), (2, u "NaN"), (2, u "MAX_VALUE"), (0, u "MIN_NORMAL"), (0, u "MIN_VALUE"), (2, u "SIZE"), (0, u "I"), (1, u "PRECISION"), (1, u "MAX_EXPONENT"), (1, u "MIN_EXPONENT"), (1, u "BYTES"), (3, u "serialVersionUID"), (0, u "J")] 79

def k9c0 : Code := { maxStack := 4, maxLocals := 2, code := jdk_117_method_8_code, exceptionTable := #[], attributes := #[] }
def k9m0 : Method := { name := "isFinite", desc := "(D)Z", sig := { parameters := [.double], returnType := some .boolean }, accessFlags := 9, code := some k9c0 }
/-- java/lang/Double -/
def k9 : Class := { plain "java/lang/Double" (some 5) with
  accessFlags := 49
  interfaces := #[6, 7, 8]
  cf := some (fileOf pool9 1 #[] #[{ accessFlags := 9, nameIndex := 13, descriptorIndex := 14, attributes := #[] }] 49 114 #[175, 177, 179] #[{ accessFlags := 25, nameIndex := 181, descriptorIndex := 121, attributes := #[] }, { accessFlags := 25, nameIndex := 185, descriptorIndex := 121, attributes := #[] }, { accessFlags := 25, nameIndex := 188, descriptorIndex := 121, attributes := #[] }, { accessFlags := 25, nameIndex := 191, descriptorIndex := 121, attributes := #[] }, { accessFlags := 25, nameIndex := 192, descriptorIndex := 121, attributes := #[] }, { accessFlags := 25, nameIndex := 193, descriptorIndex := 121, attributes := #[] }, { accessFlags := 25, nameIndex := 196, descriptorIndex := 197, attributes := #[] }, { accessFlags := 25, nameIndex := 199, descriptorIndex := 197, attributes := #[] }, { accessFlags := 25, nameIndex := 201, descriptorIndex := 197, attributes := #[] }, { accessFlags := 25, nameIndex := 203, descriptorIndex := 197, attributes := #[] }, { accessFlags := 25, nameIndex := 205, descriptorIndex := 197, attributes := #[] }, { accessFlags := 25, nameIndex := 173, descriptorIndex := 174, attributes := #[] }, { accessFlags := 18, nameIndex := 120, descriptorIndex := 121, attributes := #[] }, { accessFlags := 26, nameIndex := 209, descriptorIndex := 210, attributes := #[] }])
  fields := #[{ name := "POSITIVE_INFINITY", type := .double, accessFlags := 25, slot := 0, constantValue := 0 }, { name := "NEGATIVE_INFINITY", type := .double, accessFlags := 25, slot := 1, constantValue := 0 }, { name := "NaN", type := .double, accessFlags := 25, slot := 2, constantValue := 0 }, { name := "MAX_VALUE", type := .double, accessFlags := 25, slot := 3, constantValue := 0 }, { name := "MIN_NORMAL", type := .double, accessFlags := 25, slot := 4, constantValue := 0 }, { name := "MIN_VALUE", type := .double, accessFlags := 25, slot := 5, constantValue := 0 }, { name := "SIZE", type := .int, accessFlags := 25, slot := 6, constantValue := 0 }, { name := "PRECISION", type := .int, accessFlags := 25, slot := 7, constantValue := 0 }, { name := "MAX_EXPONENT", type := .int, accessFlags := 25, slot := 8, constantValue := 0 }, { name := "MIN_EXPONENT", type := .int, accessFlags := 25, slot := 9, constantValue := 0 }, { name := "BYTES", type := .int, accessFlags := 25, slot := 10, constantValue := 0 }, { name := "TYPE", type := (.object "java/lang/Class"), accessFlags := 25, slot := 11, constantValue := 0 }, { name := "value", type := .double, accessFlags := 18, slot := 0, constantValue := 0 }, { name := "serialVersionUID", type := .long, accessFlags := 26, slot := 12, constantValue := 0 }]
  methods := #[k9m0]
  instanceTypes := #[.double]
  staticTypes := #[.double, .double, .double, .double, .double, .double, .int, .int, .int, .int, .int, (.object "java/lang/Class"), .long]
  resolved := Array.replicate 290 none
  statics := none }

def pool10 : Array CpInfo := pool [(1, .class_ 2), (0, u "java/lang/Math"), (1, .class_ 6), (1, u "java/lang/Object"), (0, u "<init>"), (0, u "()V"), (5, u "(D)D"), (83, .class_ 100), (1, u "java/lang/Math$RandomNumberGeneratorHolder"), (20, u "(JJ)J"), (2, u "abs"), (47, u "negativeZeroFloatBits"), (0, u "J"), (2, u "negativeZeroDoubleBits"), (24, u "min"), (43, u "$assertionsDisabled"), (0, u "Z"), (91, u "twoToTheDoubleScaleDown"), (0, u "D"), (4, u "twoToTheDoubleScaleUp"), (9, u "E"), (3, u "PI"), (2, u "TAU"), (2, u "DEGREES_TO_RADIANS"), (0, u "RADIANS_TO_DEGREES")] 94

def k10m0 : Method := { name := "<init>", desc := "()V", sig := { parameters := [], returnType := none }, accessFlags := 2, code := none }
def k10c1 : Code := { maxStack := 4, maxLocals := 2, code := jdk_29_method_64_code, exceptionTable := #[], attributes := #[] }
def k10m1 : Method := { name := "abs", desc := "(D)D", sig := { parameters := [.double], returnType := some .double }, accessFlags := 9, code := some k10c1 }
def k10c2 : Code := { maxStack := 4, maxLocals := 4, code := jdk_29_method_70_code, exceptionTable := #[], attributes := #[] }
def k10m2 : Method := { name := "min", desc := "(JJ)J", sig := { parameters := [.long, .long], returnType := some .long }, accessFlags := 9, code := some k10c2 }
/-- java/lang/Math -/
def k10 : Class := { plain "java/lang/Math" (some 0) with
  accessFlags := 49
  interfaces := #[]
  cf := some (fileOf pool10 1 #[.nestMembers #[98]] #[{ accessFlags := 2, nameIndex := 7, descriptorIndex := 8, attributes := #[] }, { accessFlags := 9, nameIndex := 124, descriptorIndex := 14, attributes := #[] }, { accessFlags := 9, nameIndex := 201, descriptorIndex := 121, attributes := #[] }] 49 4 #[] #[{ accessFlags := 25, nameIndex := 354, descriptorIndex := 339, attributes := #[] }, { accessFlags := 25, nameIndex := 358, descriptorIndex := 339, attributes := #[] }, { accessFlags := 25, nameIndex := 361, descriptorIndex := 339, attributes := #[] }, { accessFlags := 26, nameIndex := 364, descriptorIndex := 339, attributes := #[] }, { accessFlags := 26, nameIndex := 365, descriptorIndex := 339, attributes := #[] }, { accessFlags := 26, nameIndex := 172, descriptorIndex := 173, attributes := #[] }, { accessFlags := 26, nameIndex := 176, descriptorIndex := 173, attributes := #[] }, { accessFlags := 8, nameIndex := 344, descriptorIndex := 339, attributes := #[] }, { accessFlags := 8, nameIndex := 338, descriptorIndex := 339, attributes := #[] }, { accessFlags := 4120, nameIndex := 245, descriptorIndex := 246, attributes := #[] }])
  fields := #[{ name := "E", type := .double, accessFlags := 25, slot := 0, constantValue := 0 }, { name := "PI", type := .double, accessFlags := 25, slot := 1, constantValue := 0 }, { name := "TAU", type := .double, accessFlags := 25, slot := 2, constantValue := 0 }, { name := "DEGREES_TO_RADIANS", type := .double, accessFlags := 26, slot := 3, constantValue := 0 }, { name := "RADIANS_TO_DEGREES", type := .double, accessFlags := 26, slot := 4, constantValue := 0 }, { name := "negativeZeroFloatBits", type := .long, accessFlags := 26, slot := 5, constantValue := 0 }, { name := "negativeZeroDoubleBits", type := .long, accessFlags := 26, slot := 6, constantValue := 0 }, { name := "twoToTheDoubleScaleUp", type := .double, accessFlags := 8, slot := 7, constantValue := 0 }, { name := "twoToTheDoubleScaleDown", type := .double, accessFlags := 8, slot := 8, constantValue := 0 }, { name := "$assertionsDisabled", type := .boolean, accessFlags := 4120, slot := 9, constantValue := 0 }]
  methods := #[k10m0, k10m1, k10m2]
  instanceTypes := #[]
  staticTypes := #[.double, .double, .double, .double, .double, .long, .long, .double, .double, .boolean]
  resolved := Array.replicate 460 none
  statics := none }

def pool11 : Array CpInfo := pool [(1, u "java/lang/Cloneable"), (0, .class_ 1), (0, u "java/lang/Object"), (0, .class_ 3)] 3

/-- java/lang/Cloneable -/
def k11 : Class := { plain "java/lang/Cloneable" (some 0) with
  accessFlags := 1537
  interfaces := #[]
  cf := some (fileOf pool11 2 #[] #[] 1537 4 #[] #[])
  fields := #[]
  methods := #[]
  instanceTypes := #[]
  staticTypes := #[]
  resolved := Array.replicate 8 none
  statics := none }

/-- the primitive boolean -/
def k12 : Class := { plain "boolean" none with kind := .primitive 'Z', accessFlags := 0x411 }
/-- [Z -/
def k13 : Class := { plain "[Z" (some 0) with kind := .array 12 .boolean, interfaces := #[11, 4], accessFlags := 1041 }

/-- the primitive byte -/
def k14 : Class := { plain "byte" none with kind := .primitive 'B', accessFlags := 0x411 }
/-- [B -/
def k15 : Class := { plain "[B" (some 0) with kind := .array 14 .byte, interfaces := #[11, 4], accessFlags := 1041 }

/-- the primitive double -/
def k16 : Class := { plain "double" none with kind := .primitive 'D', accessFlags := 0x411 }
/-- [D -/
def k17 : Class := { plain "[D" (some 0) with kind := .array 16 .double, interfaces := #[11, 4], accessFlags := 1041 }

/-- the primitive int -/
def k18 : Class := { plain "int" none with kind := .primitive 'I', accessFlags := 0x411 }
/-- [I -/
def k19 : Class := { plain "[I" (some 0) with kind := .array 18 .int, interfaces := #[11, 4], accessFlags := 1041 }

/-- the primitive long -/
def k20 : Class := { plain "long" none with kind := .primitive 'J', accessFlags := 0x411 }
/-- [J -/
def k21 : Class := { plain "[J" (some 0) with kind := .array 20 .long, interfaces := #[11, 4], accessFlags := 1041 }

def heap : Heap := #[]
def classes : Array Class := #[k0, k1, k2, k3, k4, k5, k6, k7, k8, k9, k10, k11, k12, k13, k14, k15, k16, k17, k18, k19, k20, k21]
def interned : List (Array UInt16 × Addr) := []
def slotsUsed : Nat := 0
def theMethod : MethodId := ⟨1, 1⟩
def args0 : Array Value := #[.int 5, .int 5, .int 5, .int 5, .int 5, .int 5]
def aboutOver (below : List Frame) : State where
  vm := { classes := classes, interned := interned.toArray }
  heap := heap
  slotsUsed := slotsUsed
  threads := #[{ frames := .invoking theMethod args0 :: below }]
def below0 : List Frame := [.native { method := ⟨0, 0⟩, args := #[] }]
def about1 : State := aboutOver below0
def p0 : Program := .bare "" "" ""
def e0 : Env := launch0.env 0 0 0
theorem w_frames : about1.frames = Frame.invoking theMethod args0 :: below0 := rfl
set_option maxRecDepth 65536 in
theorem w_args : argsFit about1.vm theMethod args0 = true := by decide +kernel
set_option maxRecDepth 65536 in
theorem w_heap : heapFits about1 = true := by decide +kernel
set_option maxRecDepth 65536 in
theorem w_runnable : about1.curStatus? = some .runnable := by decide +kernel
set_option maxRecDepth 65536 in
theorem w_alone : about1.alone = true := by decide +kernel
set_option maxRecDepth 65536 in
theorem w_named : about1.methodNamed? x = some theMethod := by decide +kernel
set_option maxRecDepth 65536 in
theorem w_hears : about1.hears theMethod below0 = true := by decide +kernel
set_option maxRecDepth 65536 in
theorem w_ripe : about1.ripe theMethod args0 below0 = true := by decide +kernel
theorem w_running : about1.status = .running := rfl
set_option maxRecDepth 65536 in
theorem w_room : about1.hasRoom e0.platform room_1 = true :=
  launch0.hasRoom_least _ room_1 (by decide +kernel) (by decide +kernel) (by decide +kernel) (by decide +kernel) (by decide +kernel) (by decide +kernel)
theorem allAtoms_all (ts : List Jvm.Cond) (a : Array Jvm.Value) (st : Jvm.State) : (allAtoms ts).before a st = ts.all (fun c => c.before a st) := by
  induction ts with
  | nil => rfl
  | cons c t ih =>
    show (Jvm.Cond.and c (allAtoms t)).before a st = _
    rw [Jvm.Cond.before_and, ih, List.all_cons]
def words1 : List Jvm.Cond := Jvm.Cond.code x code maxLocals ret :: tables_1
/-- a 'code' word, met by the world's own term for the bytes: nothing is compared byte by byte -/
theorem code_word {y : MethodName} {bytes : ByteArray} {mx : Nat} {rt : Option FieldType} {a : Array Value} {s : State} {m : MethodId} {meth : Method} {c : Code} (h1 : s.methodNamed? y = some m) (h2 : s.vm.method? m = some meth) (h3 : meth.code = some c) (h4 : c.code = bytes)
    (h5 : (c.maxLocals == mx && c.exceptionTable.isEmpty && decide (c.maxStack ≤ mostOperands) && decide (meth.sig.returnType = rt) && !meth.locks && decide (parseMethodDescriptor y.desc = some meth.sig)) = true) : (Jvm.Cond.code y bytes mx rt).before a s = true := by
  simp only [Bool.and_eq_true, beq_iff_eq, Bool.not_eq_true', decide_eq_true_eq] at h5
  obtain ⟨⟨⟨⟨⟨g1, g2⟩, g3⟩, g4⟩, g5⟩, g6⟩ := h5
  simp [Cond.before, Cond.holds, Cond.value, h1, h2, h3, h4, g1, g2, g3, g4, g5, g6]
def isCode : Jvm.Cond → Bool
  | .code _ _ _ _ => true
  | _ => false
theorem all_split {L : List Jvm.Cond} {P : Jvm.Cond → Bool} (h1 : L.all (fun c => isCode c || P c) = true) (h2 : ∀ c ∈ L.filter isCode, P c = true) : L.all P = true := by
  refine List.all_eq_true.mpr fun c hc => ?_
  have h := List.all_eq_true.mp h1 c hc
  rcases Bool.eq_false_or_eq_true (isCode c) with hi | hi
  · exact h2 c (List.mem_filter.mpr ⟨hc, hi⟩)
  · simpa [hi] using h
set_option maxRecDepth 65536 in
theorem w_c0 : (Jvm.Cond.code x code maxLocals ret).before args0 about1 = true := code_word (m := ⟨1, 1⟩) (meth := k1m1) (c := k1c1) (by decide +kernel) rfl rfl rfl (by decide +kernel)
set_option maxRecDepth 65536 in
theorem w_c1 : (Jvm.Cond.code ({ cls := "com/example/slotwright/slotwright/exchange/Frontier", name := "<init>", desc := "(I)V" } : Jvm.MethodName) prog_39_method_1_code (2 : Nat) (Option.none : Option Jvm.ClassFile.FieldType)).before args0 about1 = true := code_word (m := ⟨2, 0⟩) (meth := k2m0) (c := k2c0) (by decide +kernel) rfl rfl rfl (by decide +kernel)
set_option maxRecDepth 65536 in
theorem w_c2 : (Jvm.Cond.code ({ cls := "java/lang/Object", name := "<init>", desc := "()V" } : Jvm.MethodName) object_method_1_code (1 : Nat) (Option.none : Option Jvm.ClassFile.FieldType)).before args0 about1 = true := code_word (m := ⟨0, 0⟩) (meth := k0m0) (c := k0c0) (by decide +kernel) rfl rfl rfl (by decide +kernel)
set_option maxRecDepth 65536 in
theorem w_c3 : (Jvm.Cond.code ({ cls := "java/util/Arrays", name := "fill", desc := "([DD)V" } : Jvm.MethodName) jdk_65_method_113_code (5 : Nat) (Option.none : Option Jvm.ClassFile.FieldType)).before args0 about1 = true := code_word (m := ⟨3, 1⟩) (meth := k3m1) (c := k3c1) (by decide +kernel) rfl rfl rfl (by decide +kernel)
set_option maxRecDepth 65536 in
theorem w_c4 : (Jvm.Cond.code ({ cls := "com/example/slotwright/slotwright/exchange/Frontier", name := "reach", desc := "(ID)Z" } : Jvm.MethodName) prog_39_method_2_code (5 : Nat) (Option.some Jvm.ClassFile.FieldType.boolean)).before args0 about1 = true := code_word (m := ⟨2, 1⟩) (meth := k2m1) (c := k2c1) (by decide +kernel) rfl rfl rfl (by decide +kernel)
set_option maxRecDepth 65536 in
theorem w_c5 : (Jvm.Cond.code ({ cls := "java/lang/Double", name := "isFinite", desc := "(D)Z" } : Jvm.MethodName) jdk_117_method_8_code (2 : Nat) (Option.some Jvm.ClassFile.FieldType.boolean)).before args0 about1 = true := code_word (m := ⟨9, 0⟩) (meth := k9m0) (c := k9c0) (by decide +kernel) rfl rfl rfl (by decide +kernel)
set_option maxRecDepth 65536 in
theorem w_c6 : (Jvm.Cond.code ({ cls := "java/lang/Math", name := "abs", desc := "(D)D" } : Jvm.MethodName) jdk_29_method_64_code (2 : Nat) (Option.some Jvm.ClassFile.FieldType.double)).before args0 about1 = true := code_word (m := ⟨10, 1⟩) (meth := k10m1) (c := k10c1) (by decide +kernel) rfl rfl rfl (by decide +kernel)
set_option maxRecDepth 65536 in
theorem w_c7 : (Jvm.Cond.code ({ cls := "java/lang/Math", name := "min", desc := "(JJ)J" } : Jvm.MethodName) jdk_29_method_70_code (4 : Nat) (Option.some Jvm.ClassFile.FieldType.long)).before args0 about1 = true := code_word (m := ⟨10, 2⟩) (meth := k10m2) (c := k10c2) (by decide +kernel) rfl rfl rfl (by decide +kernel)
set_option maxRecDepth 65536 in
theorem w_c8 : (Jvm.Cond.code ({ cls := "com/example/slotwright/slotwright/exchange/Frontier", name := "settleNearest", desc := "()I" } : Jvm.MethodName) prog_39_method_4_code (3 : Nat) (Option.some Jvm.ClassFile.FieldType.int)).before args0 about1 = true := code_word (m := ⟨2, 3⟩) (meth := k2m3) (c := k2c3) (by decide +kernel) rfl rfl rfl (by decide +kernel)
set_option maxRecDepth 65536 in
theorem w_c9 : (Jvm.Cond.code ({ cls := "com/example/slotwright/slotwright/exchange/Frontier", name := "isSettled", desc := "(I)Z" } : Jvm.MethodName) prog_39_method_6_code (2 : Nat) (Option.some Jvm.ClassFile.FieldType.boolean)).before args0 about1 = true := code_word (m := ⟨2, 4⟩) (meth := k2m4) (c := k2c4) (by decide +kernel) rfl rfl rfl (by decide +kernel)
set_option maxRecDepth 65536 in
theorem w_c10 : (Jvm.Cond.code ({ cls := "com/example/slotwright/slotwright/exchange/Frontier", name := "isEmpty", desc := "()Z" } : Jvm.MethodName) prog_39_method_3_code (1 : Nat) (Option.some Jvm.ClassFile.FieldType.boolean)).before args0 about1 = true := code_word (m := ⟨2, 2⟩) (meth := k2m2) (c := k2c2) (by decide +kernel) rfl rfl rfl (by decide +kernel)
def codes1 : List Jvm.Cond := [Jvm.Cond.code x code maxLocals ret, Jvm.Cond.code ({ cls := "com/example/slotwright/slotwright/exchange/Frontier", name := "<init>", desc := "(I)V" } : Jvm.MethodName) prog_39_method_1_code (2 : Nat) (Option.none : Option Jvm.ClassFile.FieldType), Jvm.Cond.code ({ cls := "java/lang/Object", name := "<init>", desc := "()V" } : Jvm.MethodName) object_method_1_code (1 : Nat) (Option.none : Option Jvm.ClassFile.FieldType), Jvm.Cond.code ({ cls := "java/util/Arrays", name := "fill", desc := "([DD)V" } : Jvm.MethodName) jdk_65_method_113_code (5 : Nat) (Option.none : Option Jvm.ClassFile.FieldType), Jvm.Cond.code ({ cls := "com/example/slotwright/slotwright/exchange/Frontier", name := "reach", desc := "(ID)Z" } : Jvm.MethodName) prog_39_method_2_code (5 : Nat) (Option.some Jvm.ClassFile.FieldType.boolean), Jvm.Cond.code ({ cls := "java/lang/Double", name := "isFinite", desc := "(D)Z" } : Jvm.MethodName) jdk_117_method_8_code (2 : Nat) (Option.some Jvm.ClassFile.FieldType.boolean), Jvm.Cond.code ({ cls := "java/lang/Math", name := "abs", desc := "(D)D" } : Jvm.MethodName) jdk_29_method_64_code (2 : Nat) (Option.some Jvm.ClassFile.FieldType.double), Jvm.Cond.code ({ cls := "java/lang/Math", name := "min", desc := "(JJ)J" } : Jvm.MethodName) jdk_29_method_70_code (4 : Nat) (Option.some Jvm.ClassFile.FieldType.long), Jvm.Cond.code ({ cls := "com/example/slotwright/slotwright/exchange/Frontier", name := "settleNearest", desc := "()I" } : Jvm.MethodName) prog_39_method_4_code (3 : Nat) (Option.some Jvm.ClassFile.FieldType.int), Jvm.Cond.code ({ cls := "com/example/slotwright/slotwright/exchange/Frontier", name := "isSettled", desc := "(I)Z" } : Jvm.MethodName) prog_39_method_6_code (2 : Nat) (Option.some Jvm.ClassFile.FieldType.boolean), Jvm.Cond.code ({ cls := "com/example/slotwright/slotwright/exchange/Frontier", name := "isEmpty", desc := "()Z" } : Jvm.MethodName) prog_39_method_3_code (1 : Nat) (Option.some Jvm.ClassFile.FieldType.boolean)]
set_option maxRecDepth 65536 in
theorem codes_eq : words1.filter isCode = codes1 := rfl
theorem w_codes : ∀ c ∈ words1.filter isCode, c.before args0 about1 = true := by
  rw [codes_eq]
  intro c hc
  simp only [codes1, List.mem_cons, List.not_mem_nil, or_false] at hc
  rcases hc with rfl | rfl | rfl | rfl | rfl | rfl | rfl | rfl | rfl | rfl | rfl
  · exact w_c0
  · exact w_c1
  · exact w_c2
  · exact w_c3
  · exact w_c4
  · exact w_c5
  · exact w_c6
  · exact w_c7
  · exact w_c8
  · exact w_c9
  · exact w_c10
set_option maxRecDepth 65536 in
theorem w_t1 : (words1.take 24).all (fun c => isCode c || c.before args0 about1) = true := by decide +kernel
set_option maxRecDepth 65536 in
theorem w_t2 : ((words1.drop 24).take 24).all (fun c => isCode c || c.before args0 about1) = true := by decide +kernel
set_option maxRecDepth 65536 in
theorem w_t3 : ((words1.drop 24).drop 24).all (fun c => isCode c || c.before args0 about1) = true := by decide +kernel
theorem w_tables : (allAtoms (Jvm.Cond.code x code maxLocals ret :: tables_1)).before args0 about1 = true := by
  rw [allAtoms_all]
  show words1.all (fun c => c.before args0 about1) = true
  refine all_split ?_ w_codes
  rw [← List.take_append_drop 24 words1, List.all_append, w_t1, ← List.take_append_drop 24 (words1.drop 24), List.all_append, w_t2, w_t3]
  rfl
set_option maxRecDepth 65536 in
theorem w_case : (Jvm.Cond.and given_1 narrow_1).before args0 about1 = true := by decide +kernel
theorem w_applies : (headSpec (Jvm.Cond.code x code maxLocals ret :: tables_1) room_1).applies x e0.platform about1 = true :=
  (Spec.applies_iff w_frames).mpr ⟨w_running, w_runnable, w_alone, w_named, w_hears, w_ripe, w_room, w_tables⟩
theorem atStart : AtStart classFile x code maxLocals ret World_1 tables_1 room_1 Calls_1 rest_1 Pre_1 launch0 p0 e0 about1 theMethod args0 below0 :=
  ⟨lists_1, trivial, launch0.admits_env _ _ _, launch0.least_env, fairChoices_fair.cas, fairChoices_fair.clock, w_frames, w_args, w_heap, w_applies, trivial, trivial, w_case⟩
end start1
theorem witness_1 : WitnessClaimed_1 := ⟨start1.p0, start1.e0, start1.about1, start1.theMethod, start1.args0, start1.below0, start1.atStart⟩
end Jvm.Pilot.@@N@@
