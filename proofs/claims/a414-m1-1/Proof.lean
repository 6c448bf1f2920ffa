import JvmDerived
import JvmDerived.Pilot.@@N@@Statement
import JvmDerived.Pilot.@@N@@Code
set_option linter.unusedVariables false
set_option linter.unusedSimpArgs false
namespace Jvm.RoadKit
open Sem ClassFile Op Lib Jvm.Stand Jvm.Free Jvm.LawKit
section New
variable {p : Program} {l : Launch} {e : Env} {R : Room} {s : State} {m : MethodId} {args : Array Value} {below : List Frame} {meth : Method} {c : Code} {T : State} {locs : List Loc} {cells slots : Nat}
theorem retI (X : Stand p l e R s m args below meth c T locs cells slots) (hx : p.tables.exec = Jvm.exec) {pc : Nat} {Ls : Array Slot} {z : Int32} {rest : List Value} (hret : meth.sig.returnType = some .int) (hd : decode c.code pc = .ok (.ireturn, 1)) {fs : List Frame}
    (hl : ∀ (f : JFrame) (acts : List Action), f.method = m → f.locked = none → f.entered = [] → (doReturn e (T.setTop f) acts (some (.int z))).1 = T.setFrames fs) : Steps p.tables e below (T.setTop (mkF m pc Ls (.int z :: rest))) (T.setFrames fs) := by
  have hm' : T.vm.method? m = some meth := X.method'
  have hn : narrow .int (.int z) = .int z := rfl
  show Steps p.tables e below (T.setTop { method := m, pc := pc, locals := Ls, stack := _ :: rest, locked := none }) _
  jvm_step X.here [X.here.top, hx, hd, hm', hret, hn]
  first | (intro acts; rw [hl _ acts rfl rfl rfl]) | rw [hl _ _ rfl rfl rfl]
  exact Steps.refl _
theorem own_retJ (X : Stand p l e R s m args below meth c T locs cells slots) (hx : p.tables.exec = Jvm.exec) {pc : Nat} {Ls : Array Slot} {z : Int64} {rest : List Value} (hret : meth.sig.returnType = some .long) (hd : decode c.code pc = .ok (.lreturn, 1)) {fs : List Frame}
    (hl : ∀ (f : JFrame) (acts : List Action), f.method = m → f.locked = none → f.entered = [] → (doReturn e (T.setTop f) acts (some (.long z))).1 = T.setFrames fs) : Steps p.tables e below (T.setTop (mkF m pc Ls (.long z :: rest))) (T.setFrames fs) := by
  have hm' : T.vm.method? m = some meth := X.method'
  show Steps p.tables e below (T.setTop { method := m, pc := pc, locals := Ls, stack := _ :: rest, locked := none }) _
  jvm_step X.here [X.here.top, hx, hd, hm', hret, narrow]
  first | (intro acts; rw [hl _ acts rfl rfl rfl]) | rw [hl _ _ rfl rfl rfl]
  exact Steps.refl _
theorem own_retD (X : Stand p l e R s m args below meth c T locs cells slots) (hx : p.tables.exec = Jvm.exec) {pc : Nat} {Ls : Array Slot} {z : UInt64} {rest : List Value} (hret : meth.sig.returnType = some .double) (hd : decode c.code pc = .ok (.dreturn, 1)) {fs : List Frame}
    (hl : ∀ (f : JFrame) (acts : List Action), f.method = m → f.locked = none → f.entered = [] → (doReturn e (T.setTop f) acts (some (.double z))).1 = T.setFrames fs) : Steps p.tables e below (T.setTop (mkF m pc Ls (.double z :: rest))) (T.setFrames fs) := by
  have hm' : T.vm.method? m = some meth := X.method'
  show Steps p.tables e below (T.setTop { method := m, pc := pc, locals := Ls, stack := _ :: rest, locked := none }) _
  jvm_step X.here [X.here.top, hx, hd, hm', hret, narrow]
  first | (intro acts; rw [hl _ acts rfl rfl rfl]) | rw [hl _ _ rfl rfl rfl]
  exact Steps.refl _
theorem own_retR (X : Stand p l e R s m args below meth c T locs cells slots) (hx : p.tables.exec = Jvm.exec) {pc : Nat} {Ls : Array Slot} {z : Addr} {rest : List Value} {ty : FieldType} (hret : meth.sig.returnType = some ty) (hty : ty.isReference = true) (hd : decode c.code pc = .ok (.areturn, 1)) {fs : List Frame}
    (hl : ∀ (f : JFrame) (acts : List Action), f.method = m → f.locked = none → f.entered = [] → (doReturn e (T.setTop f) acts (some (.ref z))).1 = T.setFrames fs) : Steps p.tables e below (T.setTop (mkF m pc Ls (.ref z :: rest))) (T.setFrames fs) := by
  have hm' : T.vm.method? m = some meth := X.method'
  show Steps p.tables e below (T.setTop { method := m, pc := pc, locals := Ls, stack := _ :: rest, locked := none }) _
  jvm_step X.here [X.here.top, hx, hd, hm', hret, hty, Value.isRef]
  first | (intro acts; rw [hl _ acts rfl rfl rfl]) | rw [hl _ _ rfl rfl rfl]
  exact Steps.refl _
theorem own_nm0 {a : Addr} : a ∉ ([] : List Addr) := List.not_mem_nil
theorem own_nmc {a w : Addr} {ws : List Addr} (h : a ≠ w) (r : a ∉ ws) : a ∉ w :: ws := fun q => (List.mem_cons.mp q).elim h r
theorem own_wm0 {P : Addr → Prop} : ∀ x ∈ ([] : List Addr), P x := fun _ q => nomatch q
theorem own_wmc {P : Addr → Prop} {w : Addr} {ws : List Addr} (h : P w) (r : ∀ x ∈ ws, P x) : ∀ x ∈ w :: ws, P x := fun x q => (List.mem_cons.mp q).elim (fun z => z ▸ h) (r x)
end New
end Jvm.RoadKit
namespace Jvm.OwnFP
open Jvm.FP Jvm.Free.Fl Sem ClassFile Op
/-- the double's value in units of 2 ^ -1074 -/
def zv (x : UInt64) : Int := Core.zval Core.b64 (Core.val64 x)
def zm (x : UInt64) : Nat := Core.zmag Core.b64 (Core.val64 x)
theorem nn {x : UInt64} (h : NoNaN64 x) : Core.val64 x ≠ .nan := (Core.notNaN_iff x).mp (noNaN64_no.mp h)
theorem nnF {x : UInt64} (h : Fin64 x) : NoNaN64 x := h.noNaN
theorem cv {x y : UInt64} (hx : NoNaN64 x) (hy : NoNaN64 y) (o : CmpOp) : cmpValue (FP.dcmp x y) o = if zv x < zv y then -1 else if zv x = zv y then 0 else 1 := by
  have h : FP.dcmp x y = some (compare (zv x) (zv y)) := Core.dcmp_zval (nn hx) (nn hy)
  rw [h, Core.compare_ite]
  by_cases h1 : zv x < zv y
  · rw [if_pos h1, if_pos h1]; cases o <;> rfl
  · rw [if_neg h1, if_neg h1]
    by_cases h2 : zv x = zv y
    · rw [if_pos h2, if_pos h2]; cases o <;> rfl
    · rw [if_neg h2, if_neg h2]; cases o <;> rfl
theorem cv_lt {x y : UInt64} (hx : NoNaN64 x) (hy : NoNaN64 y) (h : zv x < zv y) (o : CmpOp) : cmpValue (FP.dcmp x y) o = -1 := by rw [cv hx hy, if_pos h]
theorem cv_eq {x y : UInt64} (hx : NoNaN64 x) (hy : NoNaN64 y) (h : zv x = zv y) (o : CmpOp) : cmpValue (FP.dcmp x y) o = 0 := by rw [cv hx hy, if_neg (by omega), if_pos h]
theorem cv_gt {x y : UInt64} (hx : NoNaN64 x) (hy : NoNaN64 y) (h : zv y < zv x) (o : CmpOp) : cmpValue (FP.dcmp x y) o = 1 := by rw [cv hx hy, if_neg (by omega), if_neg (by omega)]
theorem cv_ge {x y : UInt64} (hx : NoNaN64 x) (hy : NoNaN64 y) (h : zv y ≤ zv x) (o : CmpOp) : ¬ cmpValue (FP.dcmp x y) o < 0 := by
  rw [cv hx hy, if_neg (by omega)]; split <;> decide
theorem cv_le {x y : UInt64} (hx : NoNaN64 x) (hy : NoNaN64 y) (h : zv x ≤ zv y) (o : CmpOp) : ¬ 0 < cmpValue (FP.dcmp x y) o := by
  rw [cv hx hy]; split
  · decide
  · rw [if_pos (by omega)]; decide
theorem sh {x : UInt64} (h : Fin64 x) : ∃ s c q, Core.val64 x = .fin s c q := fin64_core.mp h
theorem zv_dint {i : Int} {x : UInt64} (h : Core.DInt i x) : zv x = i * (Core.one64 : Int) := Core.DInt_zval h
theorem zv_zero : zv 0 = 0 := Core.zval64_zero
theorem fin_zero : Fin64 0 := by unfold Fin64; decide
theorem fin_one : Fin64 4607182418800017408 := by unfold Fin64; decide
theorem one_pos : (0 : Int) < (Core.one64 : Int) := by have := Core.one64_pos; omega
theorem zv_sgn (x : UInt64) : zv x = Core.signed (Core.sgn (Core.val64 x)) (zm x) := rfl
theorem zm_abs (x : UInt64) : (zv x).natAbs = zm x := by rw [zv_sgn, Core.natAbs_signed]
theorem add_le {x y v : UInt64} (hx : Fin64 x) (hy : Fin64 y) (hv : NoNaN64 v) (h : zv x + zv y ≤ zv v) : zv (FP.dadd x y) ≤ zv v := by
  show Core.zval Core.b64 (Core.val64 (Core.dadd x y)) ≤ _
  rw [Core.val64_dadd]
  exact Core.sum_le Core.good_b64 (sh hx) (sh hy) (Core.val64_fits x) (Core.val64_fits y) (Core.val64_fits v) (nn hv) h
theorem add_ge {x y v : UInt64} (hx : Fin64 x) (hy : Fin64 y) (hv : NoNaN64 v) (h : zv v ≤ zv x + zv y) : zv v ≤ zv (FP.dadd x y) := by
  show _ ≤ Core.zval Core.b64 (Core.val64 (Core.dadd x y))
  rw [Core.val64_dadd]
  exact Core.sum_ge Core.good_b64 (sh hx) (sh hy) (Core.val64_fits x) (Core.val64_fits y) (Core.val64_fits v) (nn hv) h
theorem shn {x : UInt64} (h : Fin64 x) : ∃ s c q, Core.negate (Core.val64 x) = .fin s c q := by
  obtain ⟨s, c, q, e⟩ := sh h; exact ⟨!s, c, q, by rw [e]; rfl⟩
theorem sub_le {x y v : UInt64} (hx : Fin64 x) (hy : Fin64 y) (hv : NoNaN64 v) (h : zv x - zv y ≤ zv v) : zv (FP.dsub x y) ≤ zv v := by
  show Core.zval Core.b64 (Core.val64 (Core.dsub x y)) ≤ _
  rw [Core.val64_dsub]
  exact Core.sum_le Core.good_b64 (sh hx) (shn hy) (Core.val64_fits x) (Core.negate_fits (Core.val64_fits y)) (Core.val64_fits v) (nn hv) (by rw [Core.zval_negate]; exact h)
theorem sub_ge {x y v : UInt64} (hx : Fin64 x) (hy : Fin64 y) (hv : NoNaN64 v) (h : zv v ≤ zv x - zv y) : zv v ≤ zv (FP.dsub x y) := by
  show _ ≤ Core.zval Core.b64 (Core.val64 (Core.dsub x y))
  rw [Core.val64_dsub]
  exact Core.sum_ge Core.good_b64 (sh hx) (shn hy) (Core.val64_fits x) (Core.negate_fits (Core.val64_fits y)) (Core.val64_fits v) (nn hv) (by rw [Core.zval_negate]; exact h)
/-- no NaN and no greater than something finite: finite -/
theorem fin_of {x v : UInt64} (hx : NoNaN64 x) (hv : Fin64 v) (h : zm x ≤ zm v) : Fin64 x := by
  refine fin64_core.mpr ?_
  have h1 : Core.zmag Core.b64 (Core.val64 v) < _ := (fin64_core.mp hv).zval_lt
  have h2 := nn hx
  unfold zm at h
  cases e : Core.val64 x with
  | nan => exact absurd e h2
  | inf s => rw [e] at h; exact absurd (Nat.lt_of_le_of_lt h h1) (Nat.lt_irrefl _)
  | fin s c q => exact ⟨s, c, q, e⟩
/-- 2 ^ -k in those units -/
def U (k : Nat) : Int := ((2 ^ (1074 - k) : Nat) : Int)
theorem U_pos (k : Nat) : 0 < U k := by unfold U; have := Nat.two_pow_pos (1074 - k); omega
theorem U_zero : U 0 = (Core.one64 : Int) := rfl
theorem U_add {k j : Nat} (h : k + j ≤ 1074) : U k = ((2 ^ j : Nat) : Int) * U (k + j) := by
  unfold U
  rw [← Int.natCast_mul, ← Nat.pow_add, show j + (1074 - (k + j)) = 1074 - k by omega]
/-- x is i / 2 ^ k, exactly -/
def Is (x : UInt64) (i : Int) (k : Nat) : Prop := Fin64 x ∧ zv x = i * U k
theorem signed_abs (i : Int) : Core.signed (decide (i < 0)) i.natAbs = i := by
  unfold Core.signed
  by_cases h : i < 0
  · simp [h]; omega
  · simp [h]; omega
theorem repr (i : Int) (k : Nat) (hk : k ≤ 1074) (hi : i.natAbs < 2 ^ 53) : ∃ v : UInt64, Is v i k := by
  obtain ⟨c', q', h1, h2⟩ := Core.round_exact Core.good_b64 (decide (i < 0)) (c := i.natAbs) (q := -(k : Int)) hi (by rw [Core.qmin_b64]; omega) (by show _ ≤ (971 : Int); omega)
  have hf : Core.fits Core.b64 (.fin (decide (i < 0)) c' q') := h1 ▸ Core.round_fits Core.good_b64 _
  have hv := Core.val64_of64 hf
  refine ⟨Core.of64 (.fin (decide (i < 0)) c' q'), fin64_core.mpr ⟨_, _, _, hv⟩, ?_⟩
  unfold zv Core.zval
  rw [hv]
  show Core.signed (decide (i < 0)) (Core.inUnits c' q' Core.b64.qmin) = _
  rw [h2]
  unfold Core.inUnits
  rw [Core.signed_mul, signed_abs, Core.qmin_b64]
  unfold U
  rw [show (-(k : Int) - -1074).toNat = 1074 - k by omega]
theorem is_dint {i : Int} {x : UInt64} (h : Core.DInt i x) (hf : Fin64 x) : Is x i 0 := ⟨hf, by rw [zv_dint h, U_zero]⟩
theorem is_i2d (v : Int32) : Is (FP.i2d v) v.toInt 0 := is_dint (Core.i2d_int v) (i2d_fin v)
theorem is_l2d {v : Int64} (h : v.toInt.natAbs ≤ 2 ^ 53) : Is (FP.l2d v) v.toInt 0 := is_dint (Core.l2d_int h) (l2d_fin v)
theorem is_zero (k : Nat) : Is 0 0 k := ⟨fin_zero, by rw [zv_zero, Int.zero_mul]⟩
theorem is_one : Is 4607182418800017408 1 0 := is_dint Core.dint_one fin_one
theorem Is.nn {x : UInt64} {i : Int} {k : Nat} (h : Is x i k) : NoNaN64 x := h.1.noNaN
theorem Is.up {x : UInt64} {i : Int} {k : Nat} (h : Is x i k) (j : Nat) (hj : k + j ≤ 1074) : Is x (i * ((2 ^ j : Nat) : Int)) (k + j) := ⟨h.1, by rw [h.2, U_add hj, Int.mul_assoc]⟩
theorem is_val {x v : UInt64} {i : Int} {k : Nat} (hn : NoNaN64 x) (hv : Is v i k) (h : zv x = zv v) : Is x i k := ⟨fin_of hn hv.1 (by rw [← zm_abs, ← zm_abs, h]; exact Nat.le_refl _), h.trans hv.2⟩
theorem Is.add {x y : UInt64} {i j : Int} {k : Nat} (hx : Is x i k) (hy : Is y j k) (hk : k ≤ 1074) (h : (i + j).natAbs < 2 ^ 53) : Is (FP.dadd x y) (i + j) k := by
  obtain ⟨v, hv⟩ := repr (i + j) k hk h
  have e : zv x + zv y = zv v := by rw [hx.2, hy.2, hv.2, Int.add_mul]
  exact is_val (dadd_out hx.nn hy.1) hv (Int.le_antisymm (add_le hx.1 hy.1 hv.nn (by omega)) (add_ge hx.1 hy.1 hv.nn (by omega)))
theorem Is.sub {x y : UInt64} {i j : Int} {k : Nat} (hx : Is x i k) (hy : Is y j k) (hk : k ≤ 1074) (h : (i - j).natAbs < 2 ^ 53) : Is (FP.dsub x y) (i - j) k := by
  obtain ⟨v, hv⟩ := repr (i - j) k hk h
  have e : zv x - zv y = zv v := by rw [hx.2, hy.2, hv.2, Int.sub_mul]
  exact is_val (dsub_out hx.nn hy.1) hv (Int.le_antisymm (sub_le hx.1 hy.1 hv.nn (by omega)) (sub_ge hx.1 hy.1 hv.nn (by omega)))
theorem Is.lt_iff {x y : UInt64} {i j : Int} {k : Nat} (hx : Is x i k) (hy : Is y j k) : zv x < zv y ↔ i < j := by
  rw [hx.2, hy.2]; exact Int.mul_lt_mul_right (U_pos k)
theorem Is.eq_iff {x y : UInt64} {i j : Int} {k : Nat} (hx : Is x i k) (hy : Is y j k) : zv x = zv y ↔ i = j := by
  rw [hx.2, hy.2]; exact ⟨fun h => Int.eq_of_mul_eq_mul_right (Int.ne_of_gt (U_pos k)) h, fun h => by rw [h]⟩
theorem Is.cmp {x y : UInt64} {i j : Int} {k : Nat} (hx : Is x i k) (hy : Is y j k) (o : CmpOp) : cmpValue (FP.dcmp x y) o = if i < j then -1 else if i = j then 0 else 1 := by
  rw [cv hx.nn hy.nn]
  simp only [hx.lt_iff hy, hx.eq_iff hy]
/-- a quotient: her magnitude lies on the same side of any double as the true one; her sign is the signs' product -/
theorem div_shape {x y : UInt64} (hx : Fin64 x) (hy : Fin64 y) (hz : zm y ≠ 0) : ∃ (s t : Bool) (c d : Nat) (q r : Int), Core.val64 x = .fin s c q ∧ Core.val64 y = .fin t d r ∧ 0 < d ∧ Core.val64 (FP.ddiv x y) = Core.roundRatio Core.b64 (s != t) c d (q - r) := by
  obtain ⟨s, c, q, e1⟩ := sh hx
  obtain ⟨t, d, r, e2⟩ := sh hy
  have hd : d ≠ 0 := fun h => hz (by unfold zm; rw [e2]; show Core.inUnits d r _ = 0; rw [h]; simp [Core.inUnits])
  refine ⟨s, t, c, d, q, r, e1, e2, by omega, ?_⟩
  have := Core.val64_ddiv x y
  rw [e1, e2] at this
  show Core.val64 (Core.ddiv x y) = _
  rw [this]
  simp [Core.quotient, hd]
theorem units2 (c : Nat) (q r : Int) (hq : -1074 ≤ q) (hr : -1074 ≤ r) : Core.inUnits c (q - r) (-1074 - (r + 1074)) = Core.inUnits c q (-1074) * Core.one64 := by
  unfold Core.inUnits Core.one64
  rw [Nat.mul_assoc, ← Nat.pow_add]
  congr 2
  omega
theorem div_le {x y v : UInt64} (hx : Fin64 x) (hy : Fin64 y) (hz : zm y ≠ 0) (hv : NoNaN64 v) (h : zm x * Core.one64 ≤ zm v * zm y) : zm (FP.ddiv x y) ≤ zm v := by
  obtain ⟨s, t, c, d, q, r, e1, e2, hd, e3⟩ := div_shape hx hy hz
  have f1 := Core.val64_fits x; have f2 := Core.val64_fits y
  rw [e1] at f1; rw [e2] at f2
  have q1 := f1.2.1; have r1 := f2.2.1
  rw [Core.qmin_b64] at q1 r1
  unfold zm at h ⊢
  rw [e3]
  rw [e1, e2] at h
  refine Core.zmag_roundRatio_le Core.good_b64 hd (Core.val64_fits v) (nn hv) (e0 := -1074 - (r + 1074)) (by rw [Core.qmin_b64]; omega) (by omega) ?_
  rw [units2 c q r q1 r1, Core.qmin_b64, show (-1074 - (-1074 - (r + 1074))).toNat = (r + 1074).toNat by omega]
  change Core.inUnits c q Core.b64.qmin * _ ≤ _ * Core.inUnits d r Core.b64.qmin at h
  rw [Core.qmin_b64] at h
  refine Nat.le_trans h (Nat.le_of_eq ?_)
  unfold Core.inUnits
  rw [show (r - -1074).toNat = (r + 1074).toNat by omega]
  ac_rfl
theorem div_ge {x y v : UInt64} (hx : Fin64 x) (hy : Fin64 y) (hz : zm y ≠ 0) (h : zm v * zm y ≤ zm x * Core.one64) : zm v ≤ zm (FP.ddiv x y) := by
  obtain ⟨s, t, c, d, q, r, e1, e2, hd, e3⟩ := div_shape hx hy hz
  have f1 := Core.val64_fits x; have f2 := Core.val64_fits y
  rw [e1] at f1; rw [e2] at f2
  have q1 := f1.2.1; have r1 := f2.2.1
  rw [Core.qmin_b64] at q1 r1
  unfold zm at h ⊢
  rw [e3]
  rw [e1, e2] at h
  refine Core.zmag_roundRatio_ge Core.good_b64 hd (Core.val64_fits v) (e0 := -1074 - (r + 1074)) (by rw [Core.qmin_b64]; omega) (by omega) ?_
  rw [units2 c q r q1 r1, Core.qmin_b64, show (-1074 - (-1074 - (r + 1074))).toNat = (r + 1074).toNat by omega]
  change _ * Core.inUnits d r Core.b64.qmin ≤ Core.inUnits c q Core.b64.qmin * _ at h
  rw [Core.qmin_b64] at h
  refine Nat.le_trans (Nat.le_of_eq ?_) h
  unfold Core.inUnits
  rw [show (r - -1074).toNat = (r + 1074).toNat by omega]
  ac_rfl
theorem div_sgn {x y : UInt64} (hx : Fin64 x) (hy : Fin64 y) (hz : zm y ≠ 0) : Core.sgn (Core.val64 (FP.ddiv x y)) = (Core.sgn (Core.val64 x) != Core.sgn (Core.val64 y)) := by
  obtain ⟨s, t, c, d, q, r, e1, e2, hd, e3⟩ := div_shape hx hy hz
  rw [e3, Core.sgn_roundRatio, e1, e2]; rfl
theorem nz_of {y : UInt64} (hy : Fin64 y) (hz : zm y ≠ 0) : Nz64 y := by
  refine nz64_core.mpr fun ⟨s, q, e⟩ => hz ?_
  unfold zm; rw [e]; simp [Core.zmag, Core.inUnits]
theorem div_nn {x y : UInt64} (hx : Fin64 x) (hy : Fin64 y) (hz : zm y ≠ 0) : NoNaN64 (FP.ddiv x y) := ddiv_out hx.noNaN hy (nz_of hy hz)
theorem sgn_pos {x : UInt64} (h : 0 < zv x) : Core.sgn (Core.val64 x) = false := by
  rw [zv_sgn] at h
  cases e : Core.sgn (Core.val64 x)
  · rfl
  · rw [e] at h; simp [Core.signed] at h; omega
theorem zv_of_pos {x : UInt64} (h : Core.sgn (Core.val64 x) = false) : zv x = (zm x : Int) := by rw [zv_sgn, h]; rfl
theorem Is.zm {x : UInt64} {i : Int} {k : Nat} (h : Is x i k) : (OwnFP.zm x : Int) = (i.natAbs : Int) * U k := by
  rw [← zm_abs, h.2, Int.natAbs_mul, Int.natCast_mul, Int.natAbs_of_nonneg (Int.le_of_lt (U_pos k))]
/-- i / 2 ^ j is exact -/
theorem Is.div2 {x y : UInt64} {i : Int} {j : Nat} (hx : Is x i 0) (hy : Is y ((2 ^ j : Nat) : Int) 0) (hj : j ≤ 1074) (hi : i.natAbs < 2 ^ 53) : Is (FP.ddiv x y) i j := by
  obtain ⟨v, hv⟩ := repr i j hj hi
  have p2 := Nat.two_pow_pos j
  have hyz : (OwnFP.zm y : Int) = ((2 ^ j : Nat) : Int) * U 0 := by rw [hy.zm]; simp
  have hz : OwnFP.zm y ≠ 0 := fun h => by
    rw [h] at hyz
    have := Int.mul_pos (Int.natCast_pos.mpr p2) (U_pos 0)
    omega
  have e : OwnFP.zm x * Core.one64 = OwnFP.zm v * OwnFP.zm y := by
    have : ((OwnFP.zm x * Core.one64 : Nat) : Int) = ((OwnFP.zm v * OwnFP.zm y : Nat) : Int) := by
      rw [Int.natCast_mul, Int.natCast_mul, hx.zm, hv.zm, hyz, ← U_zero, U_add (k := 0) (j := j) (by omega), Nat.zero_add]
      ac_rfl
    exact Int.ofNat.inj this
  have em : OwnFP.zm (FP.ddiv x y) = OwnFP.zm v := Nat.le_antisymm (div_le hx.1 hy.1 hz hv.nn (Nat.le_of_eq e)) (div_ge hx.1 hy.1 hz (Nat.le_of_eq e.symm))
  have sy : Core.sgn (Core.val64 y) = false := sgn_pos (by rw [hy.2]; exact Int.mul_pos (Int.natCast_pos.mpr p2) (U_pos 0))
  refine ⟨fin_of (div_nn hx.1 hy.1 hz) hv.1 (Nat.le_of_eq em), ?_⟩
  rw [zv_sgn, div_sgn hx.1 hy.1 hz, sy, em]
  by_cases h0 : i = 0
  · have : OwnFP.zm v = 0 := by have := hv.zm; rw [h0] at this; simp at this; exact this
    rw [this, h0]; simp [Core.signed_zero]
  · have ex : Core.signed (Core.sgn (Core.val64 x)) (OwnFP.zm x) = i * U 0 := hx.2
    have hz2 := hv.zm
    have hzx := hx.zm
    have u0 := U_pos 0; have uj := U_pos j
    cases e : Core.sgn (Core.val64 x)
    · rw [e] at ex
      have : 0 < i := by
        have h1 : (0 : Int) ≤ i * U 0 := by rw [← ex]; simp [Core.signed]
        have h2 : 0 ≤ i := Int.not_lt.mp fun q => by have := Int.mul_neg_of_neg_of_pos q u0; omega
        omega
      show ((OwnFP.zm v : Nat) : Int) = _
      rw [hz2, show ((i.natAbs : Nat) : Int) = i by omega]
    · rw [e] at ex
      have : i < 0 := by
        have h1 : i * U 0 ≤ 0 := by rw [← ex]; simp [Core.signed]
        have h2 : i ≤ 0 := Int.not_lt.mp fun q => by have := Int.mul_pos q u0; omega
        omega
      show -((OwnFP.zm v : Nat) : Int) = _
      rw [hz2, show ((i.natAbs : Nat) : Int) = -i by omega, Int.neg_mul, Int.neg_neg]
theorem abs_le_max {x : UInt64} (h : Fin64 x) : ¬ (0 : Int32) < cmpValue (FP.dcmp (x &&& 0x7fffffffffffffff) (9218868437227405311 : UInt64)) .g := by
  rcases (Core.le_max (noNaN64_no.mp h.noNaN)).mpr (fin64_core.mp h) with q | q
  · rw [show FP.dcmp (x &&& 0x7fffffffffffffff) (9218868437227405311 : UInt64) = some .lt from q]; decide
  · rw [show FP.dcmp (x &&& 0x7fffffffffffffff) (9218868437227405311 : UInt64) = some .eq from q]; decide
/-- equal numbers over one divisor: equal numbers -/
theorem div_congr {x x' y : UInt64} (hx : Fin64 x) (hx' : Fin64 x') (h : zv x = zv x') (hy : Fin64 y) (hz : OwnFP.zm y ≠ 0) : zv (FP.ddiv x y) = zv (FP.ddiv x' y) := by
  by_cases h0 : zv x' = 0
  · have e1 : OwnFP.zm x = 0 := by rw [← zm_abs, h, h0]; rfl
    have e2 : OwnFP.zm x' = 0 := by rw [← zm_abs, h0]; rfl
    have z0 : OwnFP.zm 0 = 0 := by rw [← zm_abs, zv_zero]; rfl
    have d1 := div_le (v := 0) hx hy hz fin_zero.noNaN (by rw [e1]; simp)
    have d2 := div_le (v := 0) hx' hy hz fin_zero.noNaN (by rw [e2]; simp)
    rw [z0] at d1 d2
    rw [zv_sgn, zv_sgn, Nat.le_zero.mp d1, Nat.le_zero.mp d2, Core.signed_zero, Core.signed_zero]
  · have : x = x' := by
      refine Core.eq_bits (fun hz' => h0 hz'.zval) ?_
      have q : Core.dcmp x x' = some (compare (zv x) (zv x')) := Core.dcmp_zval (nn hx.noNaN) (nn hx'.noNaN)
      rw [q, h, Core.compare_self_int]
    rw [this]
end Jvm.OwnFP
namespace Jvm.Pilot.@@N@@
open Jvm Jvm.ClassFile Sem Op Lib Jvm.Free Jvm.Stand Jvm.LawKit Jvm.RoadKit Bundle Jvm.Pilot.@@N@@.Jvm.D
open Jvm.Free.Fl (NoNaN64 Fin64 Nz64)
theorem own_k4 (x : Int32) : ((1 : Int32) + (x &&& (3 : Int32))) = (1 : Int32) ∨ ((1 : Int32) + (x &&& (3 : Int32))) = (2 : Int32) ∨ ((1 : Int32) + (x &&& (3 : Int32))) = (3 : Int32) ∨ ((1 : Int32) + (x &&& (3 : Int32))) = (4 : Int32) := by
  have h := c_mask x 3 2 (by decide) (by decide)
  have e : ∀ k : Int32, (x &&& (3 : Int32)).toInt = k.toInt → (x &&& (3 : Int32)) = k := fun k q => Int32.toInt_inj.mp q
  have : x.toInt % (2 ^ 2 : Nat) = 0 ∨ x.toInt % (2 ^ 2 : Nat) = 1 ∨ x.toInt % (2 ^ 2 : Nat) = 2 ∨ x.toInt % (2 ^ 2 : Nat) = 3 := by
    have : ((2 ^ 2 : Nat) : Int) = 4 := by decide
    omega
  rcases this with q | q | q | q
  · rw [e 0 (h.trans q)]; decide
  · rw [e 1 (h.trans q)]; decide
  · rw [e 2 (h.trans q)]; decide
  · rw [e 3 (h.trans q)]; decide
theorem own_four : OwnFP.Is (4616189618054758400 : UInt64) ((2 ^ 2 : Nat) : Int) 0 := by
  refine OwnFP.is_dint (show FP.Core.DInt 4 (4616189618054758400 : UInt64) from ?_) (by unfold Fin64; decide)
  have : FP.i2d 4 = (4616189618054758400 : UInt64) := by decide +kernel
  rw [← this]; exact FP.Core.i2d_int 4
theorem own_q (x : Int32) : OwnFP.Is (FP.ddiv (FP.i2d x) (4616189618054758400 : UInt64)) x.toInt 2 := (OwnFP.is_i2d x).div2 own_four (by decide) (by have := rng32 x; omega)
theorem own_l {v : Int64} (h : v.toInt.natAbs < 2 ^ 40) : OwnFP.Is (FP.ddiv (FP.l2d v) (4616189618054758400 : UInt64)) v.toInt 2 := (OwnFP.is_l2d (by omega)).div2 own_four (by decide) (by omega)
theorem own_kz {k : Int32} (h : 0 < k.toInt) : OwnFP.zm (FP.i2d k) ≠ 0 := fun q => by
  have e := (OwnFP.is_i2d k).zm
  rw [q] at e
  have := Int.mul_pos (a := (k.toInt.natAbs : Int)) (by omega) (OwnFP.U_pos 0)
  omega
theorem own_z0 : OwnFP.Is 0 0 2 := OwnFP.is_zero 2
theorem own_end {x x' : UInt64} {i : Int} {k : Int32} (hx : OwnFP.Is x i 2) (hx' : OwnFP.Is x' i 2) (hk : 0 < k.toInt) : cmpValue (FP.dcmp (FP.ddiv x (FP.i2d k)) (FP.ddiv x' (FP.i2d k))) .l = 0 :=
  OwnFP.cv_eq (OwnFP.div_nn hx.1 (Fl.i2d_fin k) (own_kz hk)) (OwnFP.div_nn hx'.1 (Fl.i2d_fin k) (own_kz hk)) (OwnFP.div_congr hx.1 hx'.1 (by rw [hx.2, hx'.2]) (Fl.i2d_fin k) (own_kz hk)) .l
theorem own_add {x y : UInt64} {i j : Int} (hx : OwnFP.Is x i 2) (hy : OwnFP.Is y j 2) (h : (i + j).natAbs < 2 ^ 53) : OwnFP.Is (FP.dadd x y) (i + j) 2 := hx.add hy (by decide) h
theorem ef_mean1 (m : MethodId) (a1 : Addr) : entryFrame m #[(.ref a1)] 8 = mkF m 0 #[.val (.ref a1), .unset, .unset, .unset, .unset, .unset, .unset, .unset] [] := by first | (simp [entryFrame, mkF, argsToLocals, Value.category]; done) | rfl
theorem d1_0 : decode prog_40_method_8_code 0 = .ok (.dconst 0, 1) := by decide +kernel
theorem d1_1 : decode prog_40_method_8_code 1 = .ok (.dstore_n 1, 1) := by decide +kernel
theorem d1_2 : decode prog_40_method_8_code 2 = .ok (.aload_n 0, 1) := by decide +kernel
theorem d1_3 : decode prog_40_method_8_code 3 = .ok (.astore_n 3, 1) := by decide +kernel
theorem d1_4 : decode prog_40_method_8_code 4 = .ok (.aload_n 3, 1) := by decide +kernel
theorem d1_5 : decode prog_40_method_8_code 5 = .ok (.arraylength, 1) := by decide +kernel
theorem d1_6 : decode prog_40_method_8_code 6 = .ok (.istore 4, 2) := by decide +kernel
theorem d1_8 : decode prog_40_method_8_code 8 = .ok (.iconst 0, 1) := by decide +kernel
theorem d1_9 : decode prog_40_method_8_code 9 = .ok (.istore 5, 2) := by decide +kernel
theorem d1_11 : decode prog_40_method_8_code 11 = .ok (.iload 5, 2) := by decide +kernel
theorem d1_13 : decode prog_40_method_8_code 13 = .ok (.iload 4, 2) := by decide +kernel
theorem d1_15 : decode prog_40_method_8_code 15 = .ok (.if_icmp .ge 20, 3) := by decide +kernel
theorem d1_18 : decode prog_40_method_8_code 18 = .ok (.aload_n 3, 1) := by decide +kernel
theorem d1_19 : decode prog_40_method_8_code 19 = .ok (.iload 5, 2) := by decide +kernel
theorem d1_21 : decode prog_40_method_8_code 21 = .ok (.daload, 1) := by decide +kernel
theorem d1_22 : decode prog_40_method_8_code 22 = .ok (.dstore 6, 2) := by decide +kernel
theorem d1_24 : decode prog_40_method_8_code 24 = .ok (.dload_n 1, 1) := by decide +kernel
theorem d1_25 : decode prog_40_method_8_code 25 = .ok (.dload 6, 2) := by decide +kernel
theorem d1_27 : decode prog_40_method_8_code 27 = .ok (.dadd, 1) := by decide +kernel
theorem d1_28 : decode prog_40_method_8_code 28 = .ok (.dstore_n 1, 1) := by decide +kernel
theorem d1_29 : decode prog_40_method_8_code 29 = .ok (.iinc 5 1, 3) := by decide +kernel
theorem d1_32 : decode prog_40_method_8_code 32 = .ok (.goto (-21), 3) := by decide +kernel
theorem d1_35 : decode prog_40_method_8_code 35 = .ok (.dload_n 1, 1) := by decide +kernel
theorem d1_36 : decode prog_40_method_8_code 36 = .ok (.aload_n 0, 1) := by decide +kernel
theorem d1_37 : decode prog_40_method_8_code 37 = .ok (.arraylength, 1) := by decide +kernel
theorem d1_38 : decode prog_40_method_8_code 38 = .ok (.i2d, 1) := by decide +kernel
theorem d1_39 : decode prog_40_method_8_code 39 = .ok (.ddiv, 1) := by decide +kernel
theorem d1_40 : decode prog_40_method_8_code 40 = .ok (.dreturn, 1) := by decide +kernel
theorem pn_com_example_heft_heft_rank_Scope : plainName "com/example/heft/heft/rank/Scope" = true := by first | (simp [plainName, overriddenIn]; done) | decide +kernel
def Qmean1 (Z : State) (a1 : Addr) (d1 : UInt64) (kk : ClassId) (h0 : Heap) (n0 : Nat) (v : Option Value) (h : Heap) (L : List Loc) : Prop := v = some (.double (FP.ddiv (FP.dadd (0 : UInt64) d1) (FP.i2d (1 : Int32)))) ∧ Fr n0 L ∧ h = h0
set_option maxRecDepth 65536 in
set_option maxHeartbeats 40000000 in
theorem rmmean1 (l : Launch) (Z : State) (a0 : Array Value) (hw : ∀ d ∈ tables_1, d.before a0 Z = true) (ws : List Jvm.Cond) (a1 : Addr) (d1 : UInt64) (kk : ClassId) (h0 : Heap) (n0 : Nat) (Z0 : n0 ≤ h0.size) (P_V_a1 : Arv Z h0 a1 kk .double (1 : Int32) [(.double d1)] (.double (0 : UInt64))) (s1 : NoNaN64 (FP.dadd (0 : UInt64) d1)) (q : NoNaN64 (FP.ddiv (FP.dadd (0 : UInt64) d1) (FP.i2d (1 : Int32)))) :
    MetFree l (⟨"com/example/heft/heft/rank/Scope", "mean", "([D)D"⟩ : MethodName) (head1 (Jvm.Cond.code (⟨"com/example/heft/heft/rank/Scope", "mean", "([D)D"⟩ : MethodName) prog_40_method_8_code 8 (some .double) :: ws) ({ frames := 0, cells := 0, slots := 0, locals := 0 } : Room)) (fun a U => a = #[(.ref a1)] ∧ Z.Warmed39 U.vm ∧ U.heap = h0) (fun _ _ _ _ _ => True) (fun _ U o U' => ∃ v L, o = .returned v ∧ Qmean1 Z a1 d1 kk h0 n0 v U'.heap L ∧ FrameEnd U o U' L ({ frames := 0, cells := 0, slots := 0, locals := 0 } : Room).cells ({ frames := 0, cells := 0, slots := 0, locals := 0 } : Room).slots) := by
  refine MetFree.of_bodySF (plainFor_of_name pn_com_example_heft_heft_rank_Scope) hisR ?_
  intro p e s m args below meth c s₁ Bd hml0 hP hK
  obtain ⟨rfl, hZ, hh⟩ := hP
  have hx := Bd.exec
  have hby := Bd.bytes
  have hml : c.maxLocals = 8 := hml0
  have hown : s.vm.findClass "com/example/heft/heft/rank/Scope" = some m.cls := findClass_of_methodNamed Bd.named
  have hnm := (name_of_methodNamed Bd.named Bd.method).1
  have X0 : Stand p l e ({ frames := 0, cells := 0, slots := 0, locals := 0 } : Room) s m #[(.ref a1)] below meth c s₁ [] 0 0 := Stand.of_body Bd
  have e0 : s₁.heap = h0 := by rw [← hh, Bd.state]; rfl
  have N0 := Fr.nil n0
  have pre0 : ∀ t, Steps p.tables e below (s₁.setTop (mkF m 0 #[.val (.ref a1), .unset, .unset, .unset, .unset, .unset, .unset, .unset] [])) t → Steps p.tables e below (s₁.setTop (entryFrame m #[(.ref a1)] 8)) t := fun t k => castTop (ef_mean1 m a1) k
  obtain ⟨cl1, Ar1, Q1, S1, M1, H1, G1⟩ := id P_V_a1
  obtain ⟨cl2, Ar2, Q2, S2, M2, H2, G2⟩ := id P_V_a1
  have in3 : ¬ ((0 : Int32) < 0 ∨ cl2.slots.size ≤ ((0 : Int32)).toNatClampNeg) := inb_of S2 ⟨by decide, by decide⟩
  have at4 : cl2.slots[((0 : Int32)).toNatClampNeg]? = some (.double d1) := H2 0 (by rw [S2]; decide)
  obtain ⟨cl5, Ar5, Q5, S5, M5, H5, G5⟩ := id P_V_a1
  have pre6 : ∀ t, Steps p.tables e below (s₁.setTop (mkF m 40 #[.val (.ref a1), .val (.double (FP.dadd (0 : UInt64) d1)), .second, .val (.ref a1), .val (.int (1 : Int32)), .val (.int (1 : Int32)), .val (.double d1), .second] [(.double (FP.ddiv (FP.dadd (0 : UInt64) d1) (FP.i2d (1 : Int32))))])) t → Steps p.tables e below (s₁.setTop (entryFrame m #[(.ref a1)] 8)) t := fun t kt => pre0 t (by
      show Steps p.tables e below (s₁.setTop (mkF m 0 #[.val (.ref a1), .unset, .unset, .unset, .unset, .unset, .unset, .unset] [])) _
      refine XS.dconst0 X0.here hx rfl (hb hby d1_0) (v := (0 : UInt64)) rfl ?_
      show Steps p.tables e below (s₁.setTop (mkF m 1 #[.val (.ref a1), .unset, .unset, .unset, .unset, .unset, .unset, .unset] [(.double (0 : UInt64))])) _
      refine XS.dstoreN X0.here hx rfl (hb hby d1_1) rfl (l' := #[.val (.ref a1), .val (.double (0 : UInt64)), .second, .unset, .unset, .unset, .unset, .unset]) rfl ?_
      show Steps p.tables e below (s₁.setTop (mkF m 2 #[.val (.ref a1), .val (.double (0 : UInt64)), .second, .unset, .unset, .unset, .unset, .unset] [])) _
      refine XS.aloadN X0.here hx rfl (hb hby d1_2) rfl rfl ?_
      show Steps p.tables e below (s₁.setTop (mkF m 3 #[.val (.ref a1), .val (.double (0 : UInt64)), .second, .unset, .unset, .unset, .unset, .unset] [(.ref a1)])) _
      refine XS.astoreN X0.here hx rfl (hb hby d1_3) rfl rfl (l' := #[.val (.ref a1), .val (.double (0 : UInt64)), .second, .val (.ref a1), .unset, .unset, .unset, .unset]) rfl ?_
      show Steps p.tables e below (s₁.setTop (mkF m 4 #[.val (.ref a1), .val (.double (0 : UInt64)), .second, .val (.ref a1), .unset, .unset, .unset, .unset] [])) _
      refine XS.aloadN X0.here hx rfl (hb hby d1_4) rfl rfl ?_
      show Steps p.tables e below (s₁.setTop (mkF m 5 #[.val (.ref a1), .val (.double (0 : UInt64)), .second, .val (.ref a1), .unset, .unset, .unset, .unset] [(.ref a1)])) _
      refine X0.arraylength hx (cell := cl1) (by rw [e0]; exact Ar1.1) (State.isArrayOf_alike hZ.alike Ar1.2.1) (g := (mkF m 5 #[.val (.ref a1), .val (.double (0 : UInt64)), .second, .val (.ref a1), .unset, .unset, .unset, .unset] [(.ref a1)])) rfl rfl (hb hby d1_5) _ ?_
      rw [len_of S1 M1]
      show Steps p.tables e below (s₁.setTop (mkF m 6 #[.val (.ref a1), .val (.double (0 : UInt64)), .second, .val (.ref a1), .unset, .unset, .unset, .unset] [(.int (1 : Int32))])) _
      refine XS.istore X0.here hx rfl (hb hby d1_6) rfl (l' := #[.val (.ref a1), .val (.double (0 : UInt64)), .second, .val (.ref a1), .val (.int (1 : Int32)), .unset, .unset, .unset]) rfl ?_
      show Steps p.tables e below (s₁.setTop (mkF m 8 #[.val (.ref a1), .val (.double (0 : UInt64)), .second, .val (.ref a1), .val (.int (1 : Int32)), .unset, .unset, .unset] [])) _
      refine XS.iconst X0.here hx rfl (hb hby d1_8) ?_
      show Steps p.tables e below (s₁.setTop (mkF m 9 #[.val (.ref a1), .val (.double (0 : UInt64)), .second, .val (.ref a1), .val (.int (1 : Int32)), .unset, .unset, .unset] [(.int (0 : Int32))])) _
      refine XS.istore X0.here hx rfl (hb hby d1_9) rfl (l' := #[.val (.ref a1), .val (.double (0 : UInt64)), .second, .val (.ref a1), .val (.int (1 : Int32)), .val (.int (0 : Int32)), .unset, .unset]) rfl ?_
      show Steps p.tables e below (s₁.setTop (mkF m 11 #[.val (.ref a1), .val (.double (0 : UInt64)), .second, .val (.ref a1), .val (.int (1 : Int32)), .val (.int (0 : Int32)), .unset, .unset] [])) _
      refine XS.iload X0.here hx rfl (hb hby d1_11) rfl ?_
      show Steps p.tables e below (s₁.setTop (mkF m 13 #[.val (.ref a1), .val (.double (0 : UInt64)), .second, .val (.ref a1), .val (.int (1 : Int32)), .val (.int (0 : Int32)), .unset, .unset] [(.int (0 : Int32))])) _
      refine XS.iload X0.here hx rfl (hb hby d1_13) rfl ?_
      show Steps p.tables e below (s₁.setTop (mkF m 15 #[.val (.ref a1), .val (.double (0 : UInt64)), .second, .val (.ref a1), .val (.int (1 : Int32)), .val (.int (0 : Int32)), .unset, .unset] [(.int (1 : Int32)), (.int (0 : Int32))])) _
      refine XS.icmpNo X0.here hx rfl (hb hby d1_15) rfl (tlt ((by decide) : (0 : Int32) < (1 : Int32))).2.1 ?_
      show Steps p.tables e below (s₁.setTop (mkF m 18 #[.val (.ref a1), .val (.double (0 : UInt64)), .second, .val (.ref a1), .val (.int (1 : Int32)), .val (.int (0 : Int32)), .unset, .unset] [])) _
      refine XS.aloadN X0.here hx rfl (hb hby d1_18) rfl rfl ?_
      show Steps p.tables e below (s₁.setTop (mkF m 19 #[.val (.ref a1), .val (.double (0 : UInt64)), .second, .val (.ref a1), .val (.int (1 : Int32)), .val (.int (0 : Int32)), .unset, .unset] [(.ref a1)])) _
      refine XS.iload X0.here hx rfl (hb hby d1_19) rfl ?_
      show Steps p.tables e below (s₁.setTop (mkF m 21 #[.val (.ref a1), .val (.double (0 : UInt64)), .second, .val (.ref a1), .val (.int (1 : Int32)), .val (.int (0 : Int32)), .unset, .unset] [(.int (0 : Int32)), (.ref a1)])) _
      refine X0.daload hx (j := (0 : Int32)) (v := (.double d1)) (by rw [e0]; exact Ar2.1) (State.isArrayOf_alike hZ.alike Ar2.2.1) Ar2.2.2 in3 at4 (g := (mkF m 21 #[.val (.ref a1), .val (.double (0 : UInt64)), .second, .val (.ref a1), .val (.int (1 : Int32)), .val (.int (0 : Int32)), .unset, .unset] [(.int (0 : Int32)), (.ref a1)])) rfl rfl (hb hby d1_21) _ ?_
      show Steps p.tables e below (s₁.setTop (mkF m 22 #[.val (.ref a1), .val (.double (0 : UInt64)), .second, .val (.ref a1), .val (.int (1 : Int32)), .val (.int (0 : Int32)), .unset, .unset] [(.double d1)])) _
      refine XS.dstore X0.here hx rfl (hb hby d1_22) rfl (l' := #[.val (.ref a1), .val (.double (0 : UInt64)), .second, .val (.ref a1), .val (.int (1 : Int32)), .val (.int (0 : Int32)), .val (.double d1), .second]) rfl ?_
      show Steps p.tables e below (s₁.setTop (mkF m 24 #[.val (.ref a1), .val (.double (0 : UInt64)), .second, .val (.ref a1), .val (.int (1 : Int32)), .val (.int (0 : Int32)), .val (.double d1), .second] [])) _
      refine XS.dloadN X0.here hx rfl (hb hby d1_24) rfl ?_
      show Steps p.tables e below (s₁.setTop (mkF m 25 #[.val (.ref a1), .val (.double (0 : UInt64)), .second, .val (.ref a1), .val (.int (1 : Int32)), .val (.int (0 : Int32)), .val (.double d1), .second] [(.double (0 : UInt64))])) _
      refine XS.dload X0.here hx rfl (hb hby d1_25) rfl ?_
      show Steps p.tables e below (s₁.setTop (mkF m 27 #[.val (.ref a1), .val (.double (0 : UInt64)), .second, .val (.ref a1), .val (.int (1 : Int32)), .val (.int (0 : Int32)), .val (.double d1), .second] [(.double d1), (.double (0 : UInt64))])) _
      refine XS.daddS X0.here hx rfl (hb hby d1_27) rfl s1 (v := (FP.dadd (0 : UInt64) d1)) rfl ?_
      show Steps p.tables e below (s₁.setTop (mkF m 28 #[.val (.ref a1), .val (.double (0 : UInt64)), .second, .val (.ref a1), .val (.int (1 : Int32)), .val (.int (0 : Int32)), .val (.double d1), .second] [(.double (FP.dadd (0 : UInt64) d1))])) _
      refine XS.dstoreN X0.here hx rfl (hb hby d1_28) rfl (l' := #[.val (.ref a1), .val (.double (FP.dadd (0 : UInt64) d1)), .second, .val (.ref a1), .val (.int (1 : Int32)), .val (.int (0 : Int32)), .val (.double d1), .second]) rfl ?_
      show Steps p.tables e below (s₁.setTop (mkF m 29 #[.val (.ref a1), .val (.double (FP.dadd (0 : UInt64) d1)), .second, .val (.ref a1), .val (.int (1 : Int32)), .val (.int (0 : Int32)), .val (.double d1), .second] [])) _
      refine XS.iinc X0.here hx rfl (hb hby d1_29) rfl (l' := #[.val (.ref a1), .val (.double (FP.dadd (0 : UInt64) d1)), .second, .val (.ref a1), .val (.int (1 : Int32)), .val (.int (1 : Int32)), .val (.double d1), .second]) rfl ?_
      show Steps p.tables e below (s₁.setTop (mkF m 32 #[.val (.ref a1), .val (.double (FP.dadd (0 : UInt64) d1)), .second, .val (.ref a1), .val (.int (1 : Int32)), .val (.int (1 : Int32)), .val (.double d1), .second] [])) _
      refine XS.goto X0.here hx rfl (pc0 := 32) (pc' := 11) rfl (hb hby d1_32) (by decide) (by decide) ?_
      show Steps p.tables e below (s₁.setTop (mkF m 11 #[.val (.ref a1), .val (.double (FP.dadd (0 : UInt64) d1)), .second, .val (.ref a1), .val (.int (1 : Int32)), .val (.int (1 : Int32)), .val (.double d1), .second] [])) _
      refine XS.iload X0.here hx rfl (hb hby d1_11) rfl ?_
      show Steps p.tables e below (s₁.setTop (mkF m 13 #[.val (.ref a1), .val (.double (FP.dadd (0 : UInt64) d1)), .second, .val (.ref a1), .val (.int (1 : Int32)), .val (.int (1 : Int32)), .val (.double d1), .second] [(.int (1 : Int32))])) _
      refine XS.iload X0.here hx rfl (hb hby d1_13) rfl ?_
      show Steps p.tables e below (s₁.setTop (mkF m 15 #[.val (.ref a1), .val (.double (FP.dadd (0 : UInt64) d1)), .second, .val (.ref a1), .val (.int (1 : Int32)), .val (.int (1 : Int32)), .val (.double d1), .second] [(.int (1 : Int32)), (.int (1 : Int32))])) _
      refine XS.icmpYes X0.here hx rfl (pc0 := 15) (pc' := 35) rfl (hb hby d1_15) rfl (flt ((by decide) : ¬ ((1 : Int32) < (1 : Int32)))).2.1 (by decide) (by decide) ?_
      show Steps p.tables e below (s₁.setTop (mkF m 35 #[.val (.ref a1), .val (.double (FP.dadd (0 : UInt64) d1)), .second, .val (.ref a1), .val (.int (1 : Int32)), .val (.int (1 : Int32)), .val (.double d1), .second] [])) _
      refine XS.dloadN X0.here hx rfl (hb hby d1_35) rfl ?_
      show Steps p.tables e below (s₁.setTop (mkF m 36 #[.val (.ref a1), .val (.double (FP.dadd (0 : UInt64) d1)), .second, .val (.ref a1), .val (.int (1 : Int32)), .val (.int (1 : Int32)), .val (.double d1), .second] [(.double (FP.dadd (0 : UInt64) d1))])) _
      refine XS.aloadN X0.here hx rfl (hb hby d1_36) rfl rfl ?_
      show Steps p.tables e below (s₁.setTop (mkF m 37 #[.val (.ref a1), .val (.double (FP.dadd (0 : UInt64) d1)), .second, .val (.ref a1), .val (.int (1 : Int32)), .val (.int (1 : Int32)), .val (.double d1), .second] [(.ref a1), (.double (FP.dadd (0 : UInt64) d1))])) _
      refine X0.arraylength hx (cell := cl5) (by rw [e0]; exact Ar5.1) (State.isArrayOf_alike hZ.alike Ar5.2.1) (g := (mkF m 37 #[.val (.ref a1), .val (.double (FP.dadd (0 : UInt64) d1)), .second, .val (.ref a1), .val (.int (1 : Int32)), .val (.int (1 : Int32)), .val (.double d1), .second] [(.ref a1), (.double (FP.dadd (0 : UInt64) d1))])) rfl rfl (hb hby d1_37) _ ?_
      rw [len_of S5 M5]
      show Steps p.tables e below (s₁.setTop (mkF m 38 #[.val (.ref a1), .val (.double (FP.dadd (0 : UInt64) d1)), .second, .val (.ref a1), .val (.int (1 : Int32)), .val (.int (1 : Int32)), .val (.double d1), .second] [(.int (1 : Int32)), (.double (FP.dadd (0 : UInt64) d1))])) _
      refine XS.i2dS X0.here hx rfl (hb hby d1_38) rfl (v := (FP.i2d (1 : Int32))) rfl ?_
      show Steps p.tables e below (s₁.setTop (mkF m 39 #[.val (.ref a1), .val (.double (FP.dadd (0 : UInt64) d1)), .second, .val (.ref a1), .val (.int (1 : Int32)), .val (.int (1 : Int32)), .val (.double d1), .second] [(.double (FP.i2d (1 : Int32))), (.double (FP.dadd (0 : UInt64) d1))])) _
      refine XS.ddivS X0.here hx rfl (hb hby d1_39) rfl q (v := (FP.ddiv (FP.dadd (0 : UInt64) d1) (FP.i2d (1 : Int32)))) rfl ?_
      exact kt)
  obtain ⟨fs, hr, hrun, hended, hW, hsame⟩ := X0.leave (v := some (.double (FP.ddiv (FP.dadd (0 : UInt64) d1) (FP.i2d (1 : Int32))))) (fun h => by rw [Bd.returns] at h; cases h)
  refine ⟨_, _, pre6 _ ?_, hrun, hended, _, _, rfl, ?_, ⟨_, rfl⟩, hW, hsame.mono (by decide) (by decide)⟩
  · show Steps p.tables e below (s₁.setTop (mkF m 40 #[.val (.ref a1), .val (.double (FP.dadd (0 : UInt64) d1)), .second, .val (.ref a1), .val (.int (1 : Int32)), .val (.int (1 : Int32)), .val (.double d1), .second] [(.double (FP.ddiv (FP.dadd (0 : UInt64) d1) (FP.i2d (1 : Int32))))])) _
    exact own_retD X0 hx Bd.returns (hb hby d1_40) hr
  · show Qmean1 Z a1 d1 kk h0 n0 _ s₁.heap _
    rw [e0]
    exact ⟨rfl, N0, rfl⟩
theorem ef_mean2 (m : MethodId) (a1 : Addr) : entryFrame m #[(.ref a1)] 8 = mkF m 0 #[.val (.ref a1), .unset, .unset, .unset, .unset, .unset, .unset, .unset] [] := by first | (simp [entryFrame, mkF, argsToLocals, Value.category]; done) | rfl
def Qmean2 (Z : State) (a1 : Addr) (d1 : UInt64) (d2 : UInt64) (kk : ClassId) (h0 : Heap) (n0 : Nat) (v : Option Value) (h : Heap) (L : List Loc) : Prop := v = some (.double (FP.ddiv (FP.dadd (FP.dadd (0 : UInt64) d1) d2) (FP.i2d (2 : Int32)))) ∧ Fr n0 L ∧ h = h0
set_option maxRecDepth 65536 in
set_option maxHeartbeats 40000000 in
theorem rmmean2 (l : Launch) (Z : State) (a0 : Array Value) (hw : ∀ d ∈ tables_1, d.before a0 Z = true) (ws : List Jvm.Cond) (a1 : Addr) (d1 : UInt64) (d2 : UInt64) (kk : ClassId) (h0 : Heap) (n0 : Nat) (Z0 : n0 ≤ h0.size) (P_V_a1 : Arv Z h0 a1 kk .double (2 : Int32) [(.double d1), (.double d2)] (.double (0 : UInt64))) (s1 : NoNaN64 (FP.dadd (0 : UInt64) d1)) (s2 : NoNaN64 (FP.dadd (FP.dadd (0 : UInt64) d1) d2)) (q : NoNaN64 (FP.ddiv (FP.dadd (FP.dadd (0 : UInt64) d1) d2) (FP.i2d (2 : Int32)))) :
    MetFree l (⟨"com/example/heft/heft/rank/Scope", "mean", "([D)D"⟩ : MethodName) (head1 (Jvm.Cond.code (⟨"com/example/heft/heft/rank/Scope", "mean", "([D)D"⟩ : MethodName) prog_40_method_8_code 8 (some .double) :: ws) ({ frames := 0, cells := 0, slots := 0, locals := 0 } : Room)) (fun a U => a = #[(.ref a1)] ∧ Z.Warmed39 U.vm ∧ U.heap = h0) (fun _ _ _ _ _ => True) (fun _ U o U' => ∃ v L, o = .returned v ∧ Qmean2 Z a1 d1 d2 kk h0 n0 v U'.heap L ∧ FrameEnd U o U' L ({ frames := 0, cells := 0, slots := 0, locals := 0 } : Room).cells ({ frames := 0, cells := 0, slots := 0, locals := 0 } : Room).slots) := by
  refine MetFree.of_bodySF (plainFor_of_name pn_com_example_heft_heft_rank_Scope) hisR ?_
  intro p e s m args below meth c s₁ Bd hml0 hP hK
  obtain ⟨rfl, hZ, hh⟩ := hP
  have hx := Bd.exec
  have hby := Bd.bytes
  have hml : c.maxLocals = 8 := hml0
  have hown : s.vm.findClass "com/example/heft/heft/rank/Scope" = some m.cls := findClass_of_methodNamed Bd.named
  have hnm := (name_of_methodNamed Bd.named Bd.method).1
  have X0 : Stand p l e ({ frames := 0, cells := 0, slots := 0, locals := 0 } : Room) s m #[(.ref a1)] below meth c s₁ [] 0 0 := Stand.of_body Bd
  have e0 : s₁.heap = h0 := by rw [← hh, Bd.state]; rfl
  have N0 := Fr.nil n0
  have pre0 : ∀ t, Steps p.tables e below (s₁.setTop (mkF m 0 #[.val (.ref a1), .unset, .unset, .unset, .unset, .unset, .unset, .unset] [])) t → Steps p.tables e below (s₁.setTop (entryFrame m #[(.ref a1)] 8)) t := fun t k => castTop (ef_mean2 m a1) k
  obtain ⟨cl1, Ar1, Q1, S1, M1, H1, G1⟩ := id P_V_a1
  obtain ⟨cl2, Ar2, Q2, S2, M2, H2, G2⟩ := id P_V_a1
  have in3 : ¬ ((0 : Int32) < 0 ∨ cl2.slots.size ≤ ((0 : Int32)).toNatClampNeg) := inb_of S2 ⟨by decide, by decide⟩
  have at4 : cl2.slots[((0 : Int32)).toNatClampNeg]? = some (.double d1) := H2 0 (by rw [S2]; decide)
  obtain ⟨cl5, Ar5, Q5, S5, M5, H5, G5⟩ := id P_V_a1
  have in6 : ¬ ((1 : Int32) < 0 ∨ cl5.slots.size ≤ ((1 : Int32)).toNatClampNeg) := inb_of S5 ⟨by decide, by decide⟩
  have at7 : cl5.slots[((1 : Int32)).toNatClampNeg]? = some (.double d2) := H5 1 (by rw [S5]; decide)
  obtain ⟨cl8, Ar8, Q8, S8, M8, H8, G8⟩ := id P_V_a1
  have pre9 : ∀ t, Steps p.tables e below (s₁.setTop (mkF m 40 #[.val (.ref a1), .val (.double (FP.dadd (FP.dadd (0 : UInt64) d1) d2)), .second, .val (.ref a1), .val (.int (2 : Int32)), .val (.int (2 : Int32)), .val (.double d2), .second] [(.double (FP.ddiv (FP.dadd (FP.dadd (0 : UInt64) d1) d2) (FP.i2d (2 : Int32))))])) t → Steps p.tables e below (s₁.setTop (entryFrame m #[(.ref a1)] 8)) t := fun t kt => pre0 t (by
      show Steps p.tables e below (s₁.setTop (mkF m 0 #[.val (.ref a1), .unset, .unset, .unset, .unset, .unset, .unset, .unset] [])) _
      refine XS.dconst0 X0.here hx rfl (hb hby d1_0) (v := (0 : UInt64)) rfl ?_
      show Steps p.tables e below (s₁.setTop (mkF m 1 #[.val (.ref a1), .unset, .unset, .unset, .unset, .unset, .unset, .unset] [(.double (0 : UInt64))])) _
      refine XS.dstoreN X0.here hx rfl (hb hby d1_1) rfl (l' := #[.val (.ref a1), .val (.double (0 : UInt64)), .second, .unset, .unset, .unset, .unset, .unset]) rfl ?_
      show Steps p.tables e below (s₁.setTop (mkF m 2 #[.val (.ref a1), .val (.double (0 : UInt64)), .second, .unset, .unset, .unset, .unset, .unset] [])) _
      refine XS.aloadN X0.here hx rfl (hb hby d1_2) rfl rfl ?_
      show Steps p.tables e below (s₁.setTop (mkF m 3 #[.val (.ref a1), .val (.double (0 : UInt64)), .second, .unset, .unset, .unset, .unset, .unset] [(.ref a1)])) _
      refine XS.astoreN X0.here hx rfl (hb hby d1_3) rfl rfl (l' := #[.val (.ref a1), .val (.double (0 : UInt64)), .second, .val (.ref a1), .unset, .unset, .unset, .unset]) rfl ?_
      show Steps p.tables e below (s₁.setTop (mkF m 4 #[.val (.ref a1), .val (.double (0 : UInt64)), .second, .val (.ref a1), .unset, .unset, .unset, .unset] [])) _
      refine XS.aloadN X0.here hx rfl (hb hby d1_4) rfl rfl ?_
      show Steps p.tables e below (s₁.setTop (mkF m 5 #[.val (.ref a1), .val (.double (0 : UInt64)), .second, .val (.ref a1), .unset, .unset, .unset, .unset] [(.ref a1)])) _
      refine X0.arraylength hx (cell := cl1) (by rw [e0]; exact Ar1.1) (State.isArrayOf_alike hZ.alike Ar1.2.1) (g := (mkF m 5 #[.val (.ref a1), .val (.double (0 : UInt64)), .second, .val (.ref a1), .unset, .unset, .unset, .unset] [(.ref a1)])) rfl rfl (hb hby d1_5) _ ?_
      rw [len_of S1 M1]
      show Steps p.tables e below (s₁.setTop (mkF m 6 #[.val (.ref a1), .val (.double (0 : UInt64)), .second, .val (.ref a1), .unset, .unset, .unset, .unset] [(.int (2 : Int32))])) _
      refine XS.istore X0.here hx rfl (hb hby d1_6) rfl (l' := #[.val (.ref a1), .val (.double (0 : UInt64)), .second, .val (.ref a1), .val (.int (2 : Int32)), .unset, .unset, .unset]) rfl ?_
      show Steps p.tables e below (s₁.setTop (mkF m 8 #[.val (.ref a1), .val (.double (0 : UInt64)), .second, .val (.ref a1), .val (.int (2 : Int32)), .unset, .unset, .unset] [])) _
      refine XS.iconst X0.here hx rfl (hb hby d1_8) ?_
      show Steps p.tables e below (s₁.setTop (mkF m 9 #[.val (.ref a1), .val (.double (0 : UInt64)), .second, .val (.ref a1), .val (.int (2 : Int32)), .unset, .unset, .unset] [(.int (0 : Int32))])) _
      refine XS.istore X0.here hx rfl (hb hby d1_9) rfl (l' := #[.val (.ref a1), .val (.double (0 : UInt64)), .second, .val (.ref a1), .val (.int (2 : Int32)), .val (.int (0 : Int32)), .unset, .unset]) rfl ?_
      show Steps p.tables e below (s₁.setTop (mkF m 11 #[.val (.ref a1), .val (.double (0 : UInt64)), .second, .val (.ref a1), .val (.int (2 : Int32)), .val (.int (0 : Int32)), .unset, .unset] [])) _
      refine XS.iload X0.here hx rfl (hb hby d1_11) rfl ?_
      show Steps p.tables e below (s₁.setTop (mkF m 13 #[.val (.ref a1), .val (.double (0 : UInt64)), .second, .val (.ref a1), .val (.int (2 : Int32)), .val (.int (0 : Int32)), .unset, .unset] [(.int (0 : Int32))])) _
      refine XS.iload X0.here hx rfl (hb hby d1_13) rfl ?_
      show Steps p.tables e below (s₁.setTop (mkF m 15 #[.val (.ref a1), .val (.double (0 : UInt64)), .second, .val (.ref a1), .val (.int (2 : Int32)), .val (.int (0 : Int32)), .unset, .unset] [(.int (2 : Int32)), (.int (0 : Int32))])) _
      refine XS.icmpNo X0.here hx rfl (hb hby d1_15) rfl (tlt ((by decide) : (0 : Int32) < (2 : Int32))).2.1 ?_
      show Steps p.tables e below (s₁.setTop (mkF m 18 #[.val (.ref a1), .val (.double (0 : UInt64)), .second, .val (.ref a1), .val (.int (2 : Int32)), .val (.int (0 : Int32)), .unset, .unset] [])) _
      refine XS.aloadN X0.here hx rfl (hb hby d1_18) rfl rfl ?_
      show Steps p.tables e below (s₁.setTop (mkF m 19 #[.val (.ref a1), .val (.double (0 : UInt64)), .second, .val (.ref a1), .val (.int (2 : Int32)), .val (.int (0 : Int32)), .unset, .unset] [(.ref a1)])) _
      refine XS.iload X0.here hx rfl (hb hby d1_19) rfl ?_
      show Steps p.tables e below (s₁.setTop (mkF m 21 #[.val (.ref a1), .val (.double (0 : UInt64)), .second, .val (.ref a1), .val (.int (2 : Int32)), .val (.int (0 : Int32)), .unset, .unset] [(.int (0 : Int32)), (.ref a1)])) _
      refine X0.daload hx (j := (0 : Int32)) (v := (.double d1)) (by rw [e0]; exact Ar2.1) (State.isArrayOf_alike hZ.alike Ar2.2.1) Ar2.2.2 in3 at4 (g := (mkF m 21 #[.val (.ref a1), .val (.double (0 : UInt64)), .second, .val (.ref a1), .val (.int (2 : Int32)), .val (.int (0 : Int32)), .unset, .unset] [(.int (0 : Int32)), (.ref a1)])) rfl rfl (hb hby d1_21) _ ?_
      show Steps p.tables e below (s₁.setTop (mkF m 22 #[.val (.ref a1), .val (.double (0 : UInt64)), .second, .val (.ref a1), .val (.int (2 : Int32)), .val (.int (0 : Int32)), .unset, .unset] [(.double d1)])) _
      refine XS.dstore X0.here hx rfl (hb hby d1_22) rfl (l' := #[.val (.ref a1), .val (.double (0 : UInt64)), .second, .val (.ref a1), .val (.int (2 : Int32)), .val (.int (0 : Int32)), .val (.double d1), .second]) rfl ?_
      show Steps p.tables e below (s₁.setTop (mkF m 24 #[.val (.ref a1), .val (.double (0 : UInt64)), .second, .val (.ref a1), .val (.int (2 : Int32)), .val (.int (0 : Int32)), .val (.double d1), .second] [])) _
      refine XS.dloadN X0.here hx rfl (hb hby d1_24) rfl ?_
      show Steps p.tables e below (s₁.setTop (mkF m 25 #[.val (.ref a1), .val (.double (0 : UInt64)), .second, .val (.ref a1), .val (.int (2 : Int32)), .val (.int (0 : Int32)), .val (.double d1), .second] [(.double (0 : UInt64))])) _
      refine XS.dload X0.here hx rfl (hb hby d1_25) rfl ?_
      show Steps p.tables e below (s₁.setTop (mkF m 27 #[.val (.ref a1), .val (.double (0 : UInt64)), .second, .val (.ref a1), .val (.int (2 : Int32)), .val (.int (0 : Int32)), .val (.double d1), .second] [(.double d1), (.double (0 : UInt64))])) _
      refine XS.daddS X0.here hx rfl (hb hby d1_27) rfl s1 (v := (FP.dadd (0 : UInt64) d1)) rfl ?_
      show Steps p.tables e below (s₁.setTop (mkF m 28 #[.val (.ref a1), .val (.double (0 : UInt64)), .second, .val (.ref a1), .val (.int (2 : Int32)), .val (.int (0 : Int32)), .val (.double d1), .second] [(.double (FP.dadd (0 : UInt64) d1))])) _
      refine XS.dstoreN X0.here hx rfl (hb hby d1_28) rfl (l' := #[.val (.ref a1), .val (.double (FP.dadd (0 : UInt64) d1)), .second, .val (.ref a1), .val (.int (2 : Int32)), .val (.int (0 : Int32)), .val (.double d1), .second]) rfl ?_
      show Steps p.tables e below (s₁.setTop (mkF m 29 #[.val (.ref a1), .val (.double (FP.dadd (0 : UInt64) d1)), .second, .val (.ref a1), .val (.int (2 : Int32)), .val (.int (0 : Int32)), .val (.double d1), .second] [])) _
      refine XS.iinc X0.here hx rfl (hb hby d1_29) rfl (l' := #[.val (.ref a1), .val (.double (FP.dadd (0 : UInt64) d1)), .second, .val (.ref a1), .val (.int (2 : Int32)), .val (.int (1 : Int32)), .val (.double d1), .second]) rfl ?_
      show Steps p.tables e below (s₁.setTop (mkF m 32 #[.val (.ref a1), .val (.double (FP.dadd (0 : UInt64) d1)), .second, .val (.ref a1), .val (.int (2 : Int32)), .val (.int (1 : Int32)), .val (.double d1), .second] [])) _
      refine XS.goto X0.here hx rfl (pc0 := 32) (pc' := 11) rfl (hb hby d1_32) (by decide) (by decide) ?_
      show Steps p.tables e below (s₁.setTop (mkF m 11 #[.val (.ref a1), .val (.double (FP.dadd (0 : UInt64) d1)), .second, .val (.ref a1), .val (.int (2 : Int32)), .val (.int (1 : Int32)), .val (.double d1), .second] [])) _
      refine XS.iload X0.here hx rfl (hb hby d1_11) rfl ?_
      show Steps p.tables e below (s₁.setTop (mkF m 13 #[.val (.ref a1), .val (.double (FP.dadd (0 : UInt64) d1)), .second, .val (.ref a1), .val (.int (2 : Int32)), .val (.int (1 : Int32)), .val (.double d1), .second] [(.int (1 : Int32))])) _
      refine XS.iload X0.here hx rfl (hb hby d1_13) rfl ?_
      show Steps p.tables e below (s₁.setTop (mkF m 15 #[.val (.ref a1), .val (.double (FP.dadd (0 : UInt64) d1)), .second, .val (.ref a1), .val (.int (2 : Int32)), .val (.int (1 : Int32)), .val (.double d1), .second] [(.int (2 : Int32)), (.int (1 : Int32))])) _
      refine XS.icmpNo X0.here hx rfl (hb hby d1_15) rfl (tlt ((by decide) : (1 : Int32) < (2 : Int32))).2.1 ?_
      show Steps p.tables e below (s₁.setTop (mkF m 18 #[.val (.ref a1), .val (.double (FP.dadd (0 : UInt64) d1)), .second, .val (.ref a1), .val (.int (2 : Int32)), .val (.int (1 : Int32)), .val (.double d1), .second] [])) _
      refine XS.aloadN X0.here hx rfl (hb hby d1_18) rfl rfl ?_
      show Steps p.tables e below (s₁.setTop (mkF m 19 #[.val (.ref a1), .val (.double (FP.dadd (0 : UInt64) d1)), .second, .val (.ref a1), .val (.int (2 : Int32)), .val (.int (1 : Int32)), .val (.double d1), .second] [(.ref a1)])) _
      refine XS.iload X0.here hx rfl (hb hby d1_19) rfl ?_
      show Steps p.tables e below (s₁.setTop (mkF m 21 #[.val (.ref a1), .val (.double (FP.dadd (0 : UInt64) d1)), .second, .val (.ref a1), .val (.int (2 : Int32)), .val (.int (1 : Int32)), .val (.double d1), .second] [(.int (1 : Int32)), (.ref a1)])) _
      refine X0.daload hx (j := (1 : Int32)) (v := (.double d2)) (by rw [e0]; exact Ar5.1) (State.isArrayOf_alike hZ.alike Ar5.2.1) Ar5.2.2 in6 at7 (g := (mkF m 21 #[.val (.ref a1), .val (.double (FP.dadd (0 : UInt64) d1)), .second, .val (.ref a1), .val (.int (2 : Int32)), .val (.int (1 : Int32)), .val (.double d1), .second] [(.int (1 : Int32)), (.ref a1)])) rfl rfl (hb hby d1_21) _ ?_
      show Steps p.tables e below (s₁.setTop (mkF m 22 #[.val (.ref a1), .val (.double (FP.dadd (0 : UInt64) d1)), .second, .val (.ref a1), .val (.int (2 : Int32)), .val (.int (1 : Int32)), .val (.double d1), .second] [(.double d2)])) _
      refine XS.dstore X0.here hx rfl (hb hby d1_22) rfl (l' := #[.val (.ref a1), .val (.double (FP.dadd (0 : UInt64) d1)), .second, .val (.ref a1), .val (.int (2 : Int32)), .val (.int (1 : Int32)), .val (.double d2), .second]) rfl ?_
      show Steps p.tables e below (s₁.setTop (mkF m 24 #[.val (.ref a1), .val (.double (FP.dadd (0 : UInt64) d1)), .second, .val (.ref a1), .val (.int (2 : Int32)), .val (.int (1 : Int32)), .val (.double d2), .second] [])) _
      refine XS.dloadN X0.here hx rfl (hb hby d1_24) rfl ?_
      show Steps p.tables e below (s₁.setTop (mkF m 25 #[.val (.ref a1), .val (.double (FP.dadd (0 : UInt64) d1)), .second, .val (.ref a1), .val (.int (2 : Int32)), .val (.int (1 : Int32)), .val (.double d2), .second] [(.double (FP.dadd (0 : UInt64) d1))])) _
      refine XS.dload X0.here hx rfl (hb hby d1_25) rfl ?_
      show Steps p.tables e below (s₁.setTop (mkF m 27 #[.val (.ref a1), .val (.double (FP.dadd (0 : UInt64) d1)), .second, .val (.ref a1), .val (.int (2 : Int32)), .val (.int (1 : Int32)), .val (.double d2), .second] [(.double d2), (.double (FP.dadd (0 : UInt64) d1))])) _
      refine XS.daddS X0.here hx rfl (hb hby d1_27) rfl s2 (v := (FP.dadd (FP.dadd (0 : UInt64) d1) d2)) rfl ?_
      show Steps p.tables e below (s₁.setTop (mkF m 28 #[.val (.ref a1), .val (.double (FP.dadd (0 : UInt64) d1)), .second, .val (.ref a1), .val (.int (2 : Int32)), .val (.int (1 : Int32)), .val (.double d2), .second] [(.double (FP.dadd (FP.dadd (0 : UInt64) d1) d2))])) _
      refine XS.dstoreN X0.here hx rfl (hb hby d1_28) rfl (l' := #[.val (.ref a1), .val (.double (FP.dadd (FP.dadd (0 : UInt64) d1) d2)), .second, .val (.ref a1), .val (.int (2 : Int32)), .val (.int (1 : Int32)), .val (.double d2), .second]) rfl ?_
      show Steps p.tables e below (s₁.setTop (mkF m 29 #[.val (.ref a1), .val (.double (FP.dadd (FP.dadd (0 : UInt64) d1) d2)), .second, .val (.ref a1), .val (.int (2 : Int32)), .val (.int (1 : Int32)), .val (.double d2), .second] [])) _
      refine XS.iinc X0.here hx rfl (hb hby d1_29) rfl (l' := #[.val (.ref a1), .val (.double (FP.dadd (FP.dadd (0 : UInt64) d1) d2)), .second, .val (.ref a1), .val (.int (2 : Int32)), .val (.int (2 : Int32)), .val (.double d2), .second]) rfl ?_
      show Steps p.tables e below (s₁.setTop (mkF m 32 #[.val (.ref a1), .val (.double (FP.dadd (FP.dadd (0 : UInt64) d1) d2)), .second, .val (.ref a1), .val (.int (2 : Int32)), .val (.int (2 : Int32)), .val (.double d2), .second] [])) _
      refine XS.goto X0.here hx rfl (pc0 := 32) (pc' := 11) rfl (hb hby d1_32) (by decide) (by decide) ?_
      show Steps p.tables e below (s₁.setTop (mkF m 11 #[.val (.ref a1), .val (.double (FP.dadd (FP.dadd (0 : UInt64) d1) d2)), .second, .val (.ref a1), .val (.int (2 : Int32)), .val (.int (2 : Int32)), .val (.double d2), .second] [])) _
      refine XS.iload X0.here hx rfl (hb hby d1_11) rfl ?_
      show Steps p.tables e below (s₁.setTop (mkF m 13 #[.val (.ref a1), .val (.double (FP.dadd (FP.dadd (0 : UInt64) d1) d2)), .second, .val (.ref a1), .val (.int (2 : Int32)), .val (.int (2 : Int32)), .val (.double d2), .second] [(.int (2 : Int32))])) _
      refine XS.iload X0.here hx rfl (hb hby d1_13) rfl ?_
      show Steps p.tables e below (s₁.setTop (mkF m 15 #[.val (.ref a1), .val (.double (FP.dadd (FP.dadd (0 : UInt64) d1) d2)), .second, .val (.ref a1), .val (.int (2 : Int32)), .val (.int (2 : Int32)), .val (.double d2), .second] [(.int (2 : Int32)), (.int (2 : Int32))])) _
      refine XS.icmpYes X0.here hx rfl (pc0 := 15) (pc' := 35) rfl (hb hby d1_15) rfl (flt ((by decide) : ¬ ((2 : Int32) < (2 : Int32)))).2.1 (by decide) (by decide) ?_
      show Steps p.tables e below (s₁.setTop (mkF m 35 #[.val (.ref a1), .val (.double (FP.dadd (FP.dadd (0 : UInt64) d1) d2)), .second, .val (.ref a1), .val (.int (2 : Int32)), .val (.int (2 : Int32)), .val (.double d2), .second] [])) _
      refine XS.dloadN X0.here hx rfl (hb hby d1_35) rfl ?_
      show Steps p.tables e below (s₁.setTop (mkF m 36 #[.val (.ref a1), .val (.double (FP.dadd (FP.dadd (0 : UInt64) d1) d2)), .second, .val (.ref a1), .val (.int (2 : Int32)), .val (.int (2 : Int32)), .val (.double d2), .second] [(.double (FP.dadd (FP.dadd (0 : UInt64) d1) d2))])) _
      refine XS.aloadN X0.here hx rfl (hb hby d1_36) rfl rfl ?_
      show Steps p.tables e below (s₁.setTop (mkF m 37 #[.val (.ref a1), .val (.double (FP.dadd (FP.dadd (0 : UInt64) d1) d2)), .second, .val (.ref a1), .val (.int (2 : Int32)), .val (.int (2 : Int32)), .val (.double d2), .second] [(.ref a1), (.double (FP.dadd (FP.dadd (0 : UInt64) d1) d2))])) _
      refine X0.arraylength hx (cell := cl8) (by rw [e0]; exact Ar8.1) (State.isArrayOf_alike hZ.alike Ar8.2.1) (g := (mkF m 37 #[.val (.ref a1), .val (.double (FP.dadd (FP.dadd (0 : UInt64) d1) d2)), .second, .val (.ref a1), .val (.int (2 : Int32)), .val (.int (2 : Int32)), .val (.double d2), .second] [(.ref a1), (.double (FP.dadd (FP.dadd (0 : UInt64) d1) d2))])) rfl rfl (hb hby d1_37) _ ?_
      rw [len_of S8 M8]
      show Steps p.tables e below (s₁.setTop (mkF m 38 #[.val (.ref a1), .val (.double (FP.dadd (FP.dadd (0 : UInt64) d1) d2)), .second, .val (.ref a1), .val (.int (2 : Int32)), .val (.int (2 : Int32)), .val (.double d2), .second] [(.int (2 : Int32)), (.double (FP.dadd (FP.dadd (0 : UInt64) d1) d2))])) _
      refine XS.i2dS X0.here hx rfl (hb hby d1_38) rfl (v := (FP.i2d (2 : Int32))) rfl ?_
      show Steps p.tables e below (s₁.setTop (mkF m 39 #[.val (.ref a1), .val (.double (FP.dadd (FP.dadd (0 : UInt64) d1) d2)), .second, .val (.ref a1), .val (.int (2 : Int32)), .val (.int (2 : Int32)), .val (.double d2), .second] [(.double (FP.i2d (2 : Int32))), (.double (FP.dadd (FP.dadd (0 : UInt64) d1) d2))])) _
      refine XS.ddivS X0.here hx rfl (hb hby d1_39) rfl q (v := (FP.ddiv (FP.dadd (FP.dadd (0 : UInt64) d1) d2) (FP.i2d (2 : Int32)))) rfl ?_
      exact kt)
  obtain ⟨fs, hr, hrun, hended, hW, hsame⟩ := X0.leave (v := some (.double (FP.ddiv (FP.dadd (FP.dadd (0 : UInt64) d1) d2) (FP.i2d (2 : Int32))))) (fun h => by rw [Bd.returns] at h; cases h)
  refine ⟨_, _, pre9 _ ?_, hrun, hended, _, _, rfl, ?_, ⟨_, rfl⟩, hW, hsame.mono (by decide) (by decide)⟩
  · show Steps p.tables e below (s₁.setTop (mkF m 40 #[.val (.ref a1), .val (.double (FP.dadd (FP.dadd (0 : UInt64) d1) d2)), .second, .val (.ref a1), .val (.int (2 : Int32)), .val (.int (2 : Int32)), .val (.double d2), .second] [(.double (FP.ddiv (FP.dadd (FP.dadd (0 : UInt64) d1) d2) (FP.i2d (2 : Int32))))])) _
    exact own_retD X0 hx Bd.returns (hb hby d1_40) hr
  · show Qmean2 Z a1 d1 d2 kk h0 n0 _ s₁.heap _
    rw [e0]
    exact ⟨rfl, N0, rfl⟩
theorem ef_mean3 (m : MethodId) (a1 : Addr) : entryFrame m #[(.ref a1)] 8 = mkF m 0 #[.val (.ref a1), .unset, .unset, .unset, .unset, .unset, .unset, .unset] [] := by first | (simp [entryFrame, mkF, argsToLocals, Value.category]; done) | rfl
def Qmean3 (Z : State) (a1 : Addr) (d1 : UInt64) (d2 : UInt64) (d3 : UInt64) (kk : ClassId) (h0 : Heap) (n0 : Nat) (v : Option Value) (h : Heap) (L : List Loc) : Prop := v = some (.double (FP.ddiv (FP.dadd (FP.dadd (FP.dadd (0 : UInt64) d1) d2) d3) (FP.i2d (3 : Int32)))) ∧ Fr n0 L ∧ h = h0
set_option maxRecDepth 65536 in
set_option maxHeartbeats 40000000 in
theorem rmmean3 (l : Launch) (Z : State) (a0 : Array Value) (hw : ∀ d ∈ tables_1, d.before a0 Z = true) (ws : List Jvm.Cond) (a1 : Addr) (d1 : UInt64) (d2 : UInt64) (d3 : UInt64) (kk : ClassId) (h0 : Heap) (n0 : Nat) (Z0 : n0 ≤ h0.size) (P_V_a1 : Arv Z h0 a1 kk .double (3 : Int32) [(.double d1), (.double d2), (.double d3)] (.double (0 : UInt64))) (s1 : NoNaN64 (FP.dadd (0 : UInt64) d1)) (s2 : NoNaN64 (FP.dadd (FP.dadd (0 : UInt64) d1) d2)) (s3 : NoNaN64 (FP.dadd (FP.dadd (FP.dadd (0 : UInt64) d1) d2) d3)) (q : NoNaN64 (FP.ddiv (FP.dadd (FP.dadd (FP.dadd (0 : UInt64) d1) d2) d3) (FP.i2d (3 : Int32)))) :
    MetFree l (⟨"com/example/heft/heft/rank/Scope", "mean", "([D)D"⟩ : MethodName) (head1 (Jvm.Cond.code (⟨"com/example/heft/heft/rank/Scope", "mean", "([D)D"⟩ : MethodName) prog_40_method_8_code 8 (some .double) :: ws) ({ frames := 0, cells := 0, slots := 0, locals := 0 } : Room)) (fun a U => a = #[(.ref a1)] ∧ Z.Warmed39 U.vm ∧ U.heap = h0) (fun _ _ _ _ _ => True) (fun _ U o U' => ∃ v L, o = .returned v ∧ Qmean3 Z a1 d1 d2 d3 kk h0 n0 v U'.heap L ∧ FrameEnd U o U' L ({ frames := 0, cells := 0, slots := 0, locals := 0 } : Room).cells ({ frames := 0, cells := 0, slots := 0, locals := 0 } : Room).slots) := by
  refine MetFree.of_bodySF (plainFor_of_name pn_com_example_heft_heft_rank_Scope) hisR ?_
  intro p e s m args below meth c s₁ Bd hml0 hP hK
  obtain ⟨rfl, hZ, hh⟩ := hP
  have hx := Bd.exec
  have hby := Bd.bytes
  have hml : c.maxLocals = 8 := hml0
  have hown : s.vm.findClass "com/example/heft/heft/rank/Scope" = some m.cls := findClass_of_methodNamed Bd.named
  have hnm := (name_of_methodNamed Bd.named Bd.method).1
  have X0 : Stand p l e ({ frames := 0, cells := 0, slots := 0, locals := 0 } : Room) s m #[(.ref a1)] below meth c s₁ [] 0 0 := Stand.of_body Bd
  have e0 : s₁.heap = h0 := by rw [← hh, Bd.state]; rfl
  have N0 := Fr.nil n0
  have pre0 : ∀ t, Steps p.tables e below (s₁.setTop (mkF m 0 #[.val (.ref a1), .unset, .unset, .unset, .unset, .unset, .unset, .unset] [])) t → Steps p.tables e below (s₁.setTop (entryFrame m #[(.ref a1)] 8)) t := fun t k => castTop (ef_mean3 m a1) k
  obtain ⟨cl1, Ar1, Q1, S1, M1, H1, G1⟩ := id P_V_a1
  obtain ⟨cl2, Ar2, Q2, S2, M2, H2, G2⟩ := id P_V_a1
  have in3 : ¬ ((0 : Int32) < 0 ∨ cl2.slots.size ≤ ((0 : Int32)).toNatClampNeg) := inb_of S2 ⟨by decide, by decide⟩
  have at4 : cl2.slots[((0 : Int32)).toNatClampNeg]? = some (.double d1) := H2 0 (by rw [S2]; decide)
  obtain ⟨cl5, Ar5, Q5, S5, M5, H5, G5⟩ := id P_V_a1
  have in6 : ¬ ((1 : Int32) < 0 ∨ cl5.slots.size ≤ ((1 : Int32)).toNatClampNeg) := inb_of S5 ⟨by decide, by decide⟩
  have at7 : cl5.slots[((1 : Int32)).toNatClampNeg]? = some (.double d2) := H5 1 (by rw [S5]; decide)
  obtain ⟨cl8, Ar8, Q8, S8, M8, H8, G8⟩ := id P_V_a1
  have in9 : ¬ ((2 : Int32) < 0 ∨ cl8.slots.size ≤ ((2 : Int32)).toNatClampNeg) := inb_of S8 ⟨by decide, by decide⟩
  have at10 : cl8.slots[((2 : Int32)).toNatClampNeg]? = some (.double d3) := H8 2 (by rw [S8]; decide)
  obtain ⟨cl11, Ar11, Q11, S11, M11, H11, G11⟩ := id P_V_a1
  have pre12 : ∀ t, Steps p.tables e below (s₁.setTop (mkF m 40 #[.val (.ref a1), .val (.double (FP.dadd (FP.dadd (FP.dadd (0 : UInt64) d1) d2) d3)), .second, .val (.ref a1), .val (.int (3 : Int32)), .val (.int (3 : Int32)), .val (.double d3), .second] [(.double (FP.ddiv (FP.dadd (FP.dadd (FP.dadd (0 : UInt64) d1) d2) d3) (FP.i2d (3 : Int32))))])) t → Steps p.tables e below (s₁.setTop (entryFrame m #[(.ref a1)] 8)) t := fun t kt => pre0 t (by
      show Steps p.tables e below (s₁.setTop (mkF m 0 #[.val (.ref a1), .unset, .unset, .unset, .unset, .unset, .unset, .unset] [])) _
      refine XS.dconst0 X0.here hx rfl (hb hby d1_0) (v := (0 : UInt64)) rfl ?_
      show Steps p.tables e below (s₁.setTop (mkF m 1 #[.val (.ref a1), .unset, .unset, .unset, .unset, .unset, .unset, .unset] [(.double (0 : UInt64))])) _
      refine XS.dstoreN X0.here hx rfl (hb hby d1_1) rfl (l' := #[.val (.ref a1), .val (.double (0 : UInt64)), .second, .unset, .unset, .unset, .unset, .unset]) rfl ?_
      show Steps p.tables e below (s₁.setTop (mkF m 2 #[.val (.ref a1), .val (.double (0 : UInt64)), .second, .unset, .unset, .unset, .unset, .unset] [])) _
      refine XS.aloadN X0.here hx rfl (hb hby d1_2) rfl rfl ?_
      show Steps p.tables e below (s₁.setTop (mkF m 3 #[.val (.ref a1), .val (.double (0 : UInt64)), .second, .unset, .unset, .unset, .unset, .unset] [(.ref a1)])) _
      refine XS.astoreN X0.here hx rfl (hb hby d1_3) rfl rfl (l' := #[.val (.ref a1), .val (.double (0 : UInt64)), .second, .val (.ref a1), .unset, .unset, .unset, .unset]) rfl ?_
      show Steps p.tables e below (s₁.setTop (mkF m 4 #[.val (.ref a1), .val (.double (0 : UInt64)), .second, .val (.ref a1), .unset, .unset, .unset, .unset] [])) _
      refine XS.aloadN X0.here hx rfl (hb hby d1_4) rfl rfl ?_
      show Steps p.tables e below (s₁.setTop (mkF m 5 #[.val (.ref a1), .val (.double (0 : UInt64)), .second, .val (.ref a1), .unset, .unset, .unset, .unset] [(.ref a1)])) _
      refine X0.arraylength hx (cell := cl1) (by rw [e0]; exact Ar1.1) (State.isArrayOf_alike hZ.alike Ar1.2.1) (g := (mkF m 5 #[.val (.ref a1), .val (.double (0 : UInt64)), .second, .val (.ref a1), .unset, .unset, .unset, .unset] [(.ref a1)])) rfl rfl (hb hby d1_5) _ ?_
      rw [len_of S1 M1]
      show Steps p.tables e below (s₁.setTop (mkF m 6 #[.val (.ref a1), .val (.double (0 : UInt64)), .second, .val (.ref a1), .unset, .unset, .unset, .unset] [(.int (3 : Int32))])) _
      refine XS.istore X0.here hx rfl (hb hby d1_6) rfl (l' := #[.val (.ref a1), .val (.double (0 : UInt64)), .second, .val (.ref a1), .val (.int (3 : Int32)), .unset, .unset, .unset]) rfl ?_
      show Steps p.tables e below (s₁.setTop (mkF m 8 #[.val (.ref a1), .val (.double (0 : UInt64)), .second, .val (.ref a1), .val (.int (3 : Int32)), .unset, .unset, .unset] [])) _
      refine XS.iconst X0.here hx rfl (hb hby d1_8) ?_
      show Steps p.tables e below (s₁.setTop (mkF m 9 #[.val (.ref a1), .val (.double (0 : UInt64)), .second, .val (.ref a1), .val (.int (3 : Int32)), .unset, .unset, .unset] [(.int (0 : Int32))])) _
      refine XS.istore X0.here hx rfl (hb hby d1_9) rfl (l' := #[.val (.ref a1), .val (.double (0 : UInt64)), .second, .val (.ref a1), .val (.int (3 : Int32)), .val (.int (0 : Int32)), .unset, .unset]) rfl ?_
      show Steps p.tables e below (s₁.setTop (mkF m 11 #[.val (.ref a1), .val (.double (0 : UInt64)), .second, .val (.ref a1), .val (.int (3 : Int32)), .val (.int (0 : Int32)), .unset, .unset] [])) _
      refine XS.iload X0.here hx rfl (hb hby d1_11) rfl ?_
      show Steps p.tables e below (s₁.setTop (mkF m 13 #[.val (.ref a1), .val (.double (0 : UInt64)), .second, .val (.ref a1), .val (.int (3 : Int32)), .val (.int (0 : Int32)), .unset, .unset] [(.int (0 : Int32))])) _
      refine XS.iload X0.here hx rfl (hb hby d1_13) rfl ?_
      show Steps p.tables e below (s₁.setTop (mkF m 15 #[.val (.ref a1), .val (.double (0 : UInt64)), .second, .val (.ref a1), .val (.int (3 : Int32)), .val (.int (0 : Int32)), .unset, .unset] [(.int (3 : Int32)), (.int (0 : Int32))])) _
      refine XS.icmpNo X0.here hx rfl (hb hby d1_15) rfl (tlt ((by decide) : (0 : Int32) < (3 : Int32))).2.1 ?_
      show Steps p.tables e below (s₁.setTop (mkF m 18 #[.val (.ref a1), .val (.double (0 : UInt64)), .second, .val (.ref a1), .val (.int (3 : Int32)), .val (.int (0 : Int32)), .unset, .unset] [])) _
      refine XS.aloadN X0.here hx rfl (hb hby d1_18) rfl rfl ?_
      show Steps p.tables e below (s₁.setTop (mkF m 19 #[.val (.ref a1), .val (.double (0 : UInt64)), .second, .val (.ref a1), .val (.int (3 : Int32)), .val (.int (0 : Int32)), .unset, .unset] [(.ref a1)])) _
      refine XS.iload X0.here hx rfl (hb hby d1_19) rfl ?_
      show Steps p.tables e below (s₁.setTop (mkF m 21 #[.val (.ref a1), .val (.double (0 : UInt64)), .second, .val (.ref a1), .val (.int (3 : Int32)), .val (.int (0 : Int32)), .unset, .unset] [(.int (0 : Int32)), (.ref a1)])) _
      refine X0.daload hx (j := (0 : Int32)) (v := (.double d1)) (by rw [e0]; exact Ar2.1) (State.isArrayOf_alike hZ.alike Ar2.2.1) Ar2.2.2 in3 at4 (g := (mkF m 21 #[.val (.ref a1), .val (.double (0 : UInt64)), .second, .val (.ref a1), .val (.int (3 : Int32)), .val (.int (0 : Int32)), .unset, .unset] [(.int (0 : Int32)), (.ref a1)])) rfl rfl (hb hby d1_21) _ ?_
      show Steps p.tables e below (s₁.setTop (mkF m 22 #[.val (.ref a1), .val (.double (0 : UInt64)), .second, .val (.ref a1), .val (.int (3 : Int32)), .val (.int (0 : Int32)), .unset, .unset] [(.double d1)])) _
      refine XS.dstore X0.here hx rfl (hb hby d1_22) rfl (l' := #[.val (.ref a1), .val (.double (0 : UInt64)), .second, .val (.ref a1), .val (.int (3 : Int32)), .val (.int (0 : Int32)), .val (.double d1), .second]) rfl ?_
      show Steps p.tables e below (s₁.setTop (mkF m 24 #[.val (.ref a1), .val (.double (0 : UInt64)), .second, .val (.ref a1), .val (.int (3 : Int32)), .val (.int (0 : Int32)), .val (.double d1), .second] [])) _
      refine XS.dloadN X0.here hx rfl (hb hby d1_24) rfl ?_
      show Steps p.tables e below (s₁.setTop (mkF m 25 #[.val (.ref a1), .val (.double (0 : UInt64)), .second, .val (.ref a1), .val (.int (3 : Int32)), .val (.int (0 : Int32)), .val (.double d1), .second] [(.double (0 : UInt64))])) _
      refine XS.dload X0.here hx rfl (hb hby d1_25) rfl ?_
      show Steps p.tables e below (s₁.setTop (mkF m 27 #[.val (.ref a1), .val (.double (0 : UInt64)), .second, .val (.ref a1), .val (.int (3 : Int32)), .val (.int (0 : Int32)), .val (.double d1), .second] [(.double d1), (.double (0 : UInt64))])) _
      refine XS.daddS X0.here hx rfl (hb hby d1_27) rfl s1 (v := (FP.dadd (0 : UInt64) d1)) rfl ?_
      show Steps p.tables e below (s₁.setTop (mkF m 28 #[.val (.ref a1), .val (.double (0 : UInt64)), .second, .val (.ref a1), .val (.int (3 : Int32)), .val (.int (0 : Int32)), .val (.double d1), .second] [(.double (FP.dadd (0 : UInt64) d1))])) _
      refine XS.dstoreN X0.here hx rfl (hb hby d1_28) rfl (l' := #[.val (.ref a1), .val (.double (FP.dadd (0 : UInt64) d1)), .second, .val (.ref a1), .val (.int (3 : Int32)), .val (.int (0 : Int32)), .val (.double d1), .second]) rfl ?_
      show Steps p.tables e below (s₁.setTop (mkF m 29 #[.val (.ref a1), .val (.double (FP.dadd (0 : UInt64) d1)), .second, .val (.ref a1), .val (.int (3 : Int32)), .val (.int (0 : Int32)), .val (.double d1), .second] [])) _
      refine XS.iinc X0.here hx rfl (hb hby d1_29) rfl (l' := #[.val (.ref a1), .val (.double (FP.dadd (0 : UInt64) d1)), .second, .val (.ref a1), .val (.int (3 : Int32)), .val (.int (1 : Int32)), .val (.double d1), .second]) rfl ?_
      show Steps p.tables e below (s₁.setTop (mkF m 32 #[.val (.ref a1), .val (.double (FP.dadd (0 : UInt64) d1)), .second, .val (.ref a1), .val (.int (3 : Int32)), .val (.int (1 : Int32)), .val (.double d1), .second] [])) _
      refine XS.goto X0.here hx rfl (pc0 := 32) (pc' := 11) rfl (hb hby d1_32) (by decide) (by decide) ?_
      show Steps p.tables e below (s₁.setTop (mkF m 11 #[.val (.ref a1), .val (.double (FP.dadd (0 : UInt64) d1)), .second, .val (.ref a1), .val (.int (3 : Int32)), .val (.int (1 : Int32)), .val (.double d1), .second] [])) _
      refine XS.iload X0.here hx rfl (hb hby d1_11) rfl ?_
      show Steps p.tables e below (s₁.setTop (mkF m 13 #[.val (.ref a1), .val (.double (FP.dadd (0 : UInt64) d1)), .second, .val (.ref a1), .val (.int (3 : Int32)), .val (.int (1 : Int32)), .val (.double d1), .second] [(.int (1 : Int32))])) _
      refine XS.iload X0.here hx rfl (hb hby d1_13) rfl ?_
      show Steps p.tables e below (s₁.setTop (mkF m 15 #[.val (.ref a1), .val (.double (FP.dadd (0 : UInt64) d1)), .second, .val (.ref a1), .val (.int (3 : Int32)), .val (.int (1 : Int32)), .val (.double d1), .second] [(.int (3 : Int32)), (.int (1 : Int32))])) _
      refine XS.icmpNo X0.here hx rfl (hb hby d1_15) rfl (tlt ((by decide) : (1 : Int32) < (3 : Int32))).2.1 ?_
      show Steps p.tables e below (s₁.setTop (mkF m 18 #[.val (.ref a1), .val (.double (FP.dadd (0 : UInt64) d1)), .second, .val (.ref a1), .val (.int (3 : Int32)), .val (.int (1 : Int32)), .val (.double d1), .second] [])) _
      refine XS.aloadN X0.here hx rfl (hb hby d1_18) rfl rfl ?_
      show Steps p.tables e below (s₁.setTop (mkF m 19 #[.val (.ref a1), .val (.double (FP.dadd (0 : UInt64) d1)), .second, .val (.ref a1), .val (.int (3 : Int32)), .val (.int (1 : Int32)), .val (.double d1), .second] [(.ref a1)])) _
      refine XS.iload X0.here hx rfl (hb hby d1_19) rfl ?_
      show Steps p.tables e below (s₁.setTop (mkF m 21 #[.val (.ref a1), .val (.double (FP.dadd (0 : UInt64) d1)), .second, .val (.ref a1), .val (.int (3 : Int32)), .val (.int (1 : Int32)), .val (.double d1), .second] [(.int (1 : Int32)), (.ref a1)])) _
      refine X0.daload hx (j := (1 : Int32)) (v := (.double d2)) (by rw [e0]; exact Ar5.1) (State.isArrayOf_alike hZ.alike Ar5.2.1) Ar5.2.2 in6 at7 (g := (mkF m 21 #[.val (.ref a1), .val (.double (FP.dadd (0 : UInt64) d1)), .second, .val (.ref a1), .val (.int (3 : Int32)), .val (.int (1 : Int32)), .val (.double d1), .second] [(.int (1 : Int32)), (.ref a1)])) rfl rfl (hb hby d1_21) _ ?_
      show Steps p.tables e below (s₁.setTop (mkF m 22 #[.val (.ref a1), .val (.double (FP.dadd (0 : UInt64) d1)), .second, .val (.ref a1), .val (.int (3 : Int32)), .val (.int (1 : Int32)), .val (.double d1), .second] [(.double d2)])) _
      refine XS.dstore X0.here hx rfl (hb hby d1_22) rfl (l' := #[.val (.ref a1), .val (.double (FP.dadd (0 : UInt64) d1)), .second, .val (.ref a1), .val (.int (3 : Int32)), .val (.int (1 : Int32)), .val (.double d2), .second]) rfl ?_
      show Steps p.tables e below (s₁.setTop (mkF m 24 #[.val (.ref a1), .val (.double (FP.dadd (0 : UInt64) d1)), .second, .val (.ref a1), .val (.int (3 : Int32)), .val (.int (1 : Int32)), .val (.double d2), .second] [])) _
      refine XS.dloadN X0.here hx rfl (hb hby d1_24) rfl ?_
      show Steps p.tables e below (s₁.setTop (mkF m 25 #[.val (.ref a1), .val (.double (FP.dadd (0 : UInt64) d1)), .second, .val (.ref a1), .val (.int (3 : Int32)), .val (.int (1 : Int32)), .val (.double d2), .second] [(.double (FP.dadd (0 : UInt64) d1))])) _
      refine XS.dload X0.here hx rfl (hb hby d1_25) rfl ?_
      show Steps p.tables e below (s₁.setTop (mkF m 27 #[.val (.ref a1), .val (.double (FP.dadd (0 : UInt64) d1)), .second, .val (.ref a1), .val (.int (3 : Int32)), .val (.int (1 : Int32)), .val (.double d2), .second] [(.double d2), (.double (FP.dadd (0 : UInt64) d1))])) _
      refine XS.daddS X0.here hx rfl (hb hby d1_27) rfl s2 (v := (FP.dadd (FP.dadd (0 : UInt64) d1) d2)) rfl ?_
      show Steps p.tables e below (s₁.setTop (mkF m 28 #[.val (.ref a1), .val (.double (FP.dadd (0 : UInt64) d1)), .second, .val (.ref a1), .val (.int (3 : Int32)), .val (.int (1 : Int32)), .val (.double d2), .second] [(.double (FP.dadd (FP.dadd (0 : UInt64) d1) d2))])) _
      refine XS.dstoreN X0.here hx rfl (hb hby d1_28) rfl (l' := #[.val (.ref a1), .val (.double (FP.dadd (FP.dadd (0 : UInt64) d1) d2)), .second, .val (.ref a1), .val (.int (3 : Int32)), .val (.int (1 : Int32)), .val (.double d2), .second]) rfl ?_
      show Steps p.tables e below (s₁.setTop (mkF m 29 #[.val (.ref a1), .val (.double (FP.dadd (FP.dadd (0 : UInt64) d1) d2)), .second, .val (.ref a1), .val (.int (3 : Int32)), .val (.int (1 : Int32)), .val (.double d2), .second] [])) _
      refine XS.iinc X0.here hx rfl (hb hby d1_29) rfl (l' := #[.val (.ref a1), .val (.double (FP.dadd (FP.dadd (0 : UInt64) d1) d2)), .second, .val (.ref a1), .val (.int (3 : Int32)), .val (.int (2 : Int32)), .val (.double d2), .second]) rfl ?_
      show Steps p.tables e below (s₁.setTop (mkF m 32 #[.val (.ref a1), .val (.double (FP.dadd (FP.dadd (0 : UInt64) d1) d2)), .second, .val (.ref a1), .val (.int (3 : Int32)), .val (.int (2 : Int32)), .val (.double d2), .second] [])) _
      refine XS.goto X0.here hx rfl (pc0 := 32) (pc' := 11) rfl (hb hby d1_32) (by decide) (by decide) ?_
      show Steps p.tables e below (s₁.setTop (mkF m 11 #[.val (.ref a1), .val (.double (FP.dadd (FP.dadd (0 : UInt64) d1) d2)), .second, .val (.ref a1), .val (.int (3 : Int32)), .val (.int (2 : Int32)), .val (.double d2), .second] [])) _
      refine XS.iload X0.here hx rfl (hb hby d1_11) rfl ?_
      show Steps p.tables e below (s₁.setTop (mkF m 13 #[.val (.ref a1), .val (.double (FP.dadd (FP.dadd (0 : UInt64) d1) d2)), .second, .val (.ref a1), .val (.int (3 : Int32)), .val (.int (2 : Int32)), .val (.double d2), .second] [(.int (2 : Int32))])) _
      refine XS.iload X0.here hx rfl (hb hby d1_13) rfl ?_
      show Steps p.tables e below (s₁.setTop (mkF m 15 #[.val (.ref a1), .val (.double (FP.dadd (FP.dadd (0 : UInt64) d1) d2)), .second, .val (.ref a1), .val (.int (3 : Int32)), .val (.int (2 : Int32)), .val (.double d2), .second] [(.int (3 : Int32)), (.int (2 : Int32))])) _
      refine XS.icmpNo X0.here hx rfl (hb hby d1_15) rfl (tlt ((by decide) : (2 : Int32) < (3 : Int32))).2.1 ?_
      show Steps p.tables e below (s₁.setTop (mkF m 18 #[.val (.ref a1), .val (.double (FP.dadd (FP.dadd (0 : UInt64) d1) d2)), .second, .val (.ref a1), .val (.int (3 : Int32)), .val (.int (2 : Int32)), .val (.double d2), .second] [])) _
      refine XS.aloadN X0.here hx rfl (hb hby d1_18) rfl rfl ?_
      show Steps p.tables e below (s₁.setTop (mkF m 19 #[.val (.ref a1), .val (.double (FP.dadd (FP.dadd (0 : UInt64) d1) d2)), .second, .val (.ref a1), .val (.int (3 : Int32)), .val (.int (2 : Int32)), .val (.double d2), .second] [(.ref a1)])) _
      refine XS.iload X0.here hx rfl (hb hby d1_19) rfl ?_
      show Steps p.tables e below (s₁.setTop (mkF m 21 #[.val (.ref a1), .val (.double (FP.dadd (FP.dadd (0 : UInt64) d1) d2)), .second, .val (.ref a1), .val (.int (3 : Int32)), .val (.int (2 : Int32)), .val (.double d2), .second] [(.int (2 : Int32)), (.ref a1)])) _
      refine X0.daload hx (j := (2 : Int32)) (v := (.double d3)) (by rw [e0]; exact Ar8.1) (State.isArrayOf_alike hZ.alike Ar8.2.1) Ar8.2.2 in9 at10 (g := (mkF m 21 #[.val (.ref a1), .val (.double (FP.dadd (FP.dadd (0 : UInt64) d1) d2)), .second, .val (.ref a1), .val (.int (3 : Int32)), .val (.int (2 : Int32)), .val (.double d2), .second] [(.int (2 : Int32)), (.ref a1)])) rfl rfl (hb hby d1_21) _ ?_
      show Steps p.tables e below (s₁.setTop (mkF m 22 #[.val (.ref a1), .val (.double (FP.dadd (FP.dadd (0 : UInt64) d1) d2)), .second, .val (.ref a1), .val (.int (3 : Int32)), .val (.int (2 : Int32)), .val (.double d2), .second] [(.double d3)])) _
      refine XS.dstore X0.here hx rfl (hb hby d1_22) rfl (l' := #[.val (.ref a1), .val (.double (FP.dadd (FP.dadd (0 : UInt64) d1) d2)), .second, .val (.ref a1), .val (.int (3 : Int32)), .val (.int (2 : Int32)), .val (.double d3), .second]) rfl ?_
      show Steps p.tables e below (s₁.setTop (mkF m 24 #[.val (.ref a1), .val (.double (FP.dadd (FP.dadd (0 : UInt64) d1) d2)), .second, .val (.ref a1), .val (.int (3 : Int32)), .val (.int (2 : Int32)), .val (.double d3), .second] [])) _
      refine XS.dloadN X0.here hx rfl (hb hby d1_24) rfl ?_
      show Steps p.tables e below (s₁.setTop (mkF m 25 #[.val (.ref a1), .val (.double (FP.dadd (FP.dadd (0 : UInt64) d1) d2)), .second, .val (.ref a1), .val (.int (3 : Int32)), .val (.int (2 : Int32)), .val (.double d3), .second] [(.double (FP.dadd (FP.dadd (0 : UInt64) d1) d2))])) _
      refine XS.dload X0.here hx rfl (hb hby d1_25) rfl ?_
      show Steps p.tables e below (s₁.setTop (mkF m 27 #[.val (.ref a1), .val (.double (FP.dadd (FP.dadd (0 : UInt64) d1) d2)), .second, .val (.ref a1), .val (.int (3 : Int32)), .val (.int (2 : Int32)), .val (.double d3), .second] [(.double d3), (.double (FP.dadd (FP.dadd (0 : UInt64) d1) d2))])) _
      refine XS.daddS X0.here hx rfl (hb hby d1_27) rfl s3 (v := (FP.dadd (FP.dadd (FP.dadd (0 : UInt64) d1) d2) d3)) rfl ?_
      show Steps p.tables e below (s₁.setTop (mkF m 28 #[.val (.ref a1), .val (.double (FP.dadd (FP.dadd (0 : UInt64) d1) d2)), .second, .val (.ref a1), .val (.int (3 : Int32)), .val (.int (2 : Int32)), .val (.double d3), .second] [(.double (FP.dadd (FP.dadd (FP.dadd (0 : UInt64) d1) d2) d3))])) _
      refine XS.dstoreN X0.here hx rfl (hb hby d1_28) rfl (l' := #[.val (.ref a1), .val (.double (FP.dadd (FP.dadd (FP.dadd (0 : UInt64) d1) d2) d3)), .second, .val (.ref a1), .val (.int (3 : Int32)), .val (.int (2 : Int32)), .val (.double d3), .second]) rfl ?_
      show Steps p.tables e below (s₁.setTop (mkF m 29 #[.val (.ref a1), .val (.double (FP.dadd (FP.dadd (FP.dadd (0 : UInt64) d1) d2) d3)), .second, .val (.ref a1), .val (.int (3 : Int32)), .val (.int (2 : Int32)), .val (.double d3), .second] [])) _
      refine XS.iinc X0.here hx rfl (hb hby d1_29) rfl (l' := #[.val (.ref a1), .val (.double (FP.dadd (FP.dadd (FP.dadd (0 : UInt64) d1) d2) d3)), .second, .val (.ref a1), .val (.int (3 : Int32)), .val (.int (3 : Int32)), .val (.double d3), .second]) rfl ?_
      show Steps p.tables e below (s₁.setTop (mkF m 32 #[.val (.ref a1), .val (.double (FP.dadd (FP.dadd (FP.dadd (0 : UInt64) d1) d2) d3)), .second, .val (.ref a1), .val (.int (3 : Int32)), .val (.int (3 : Int32)), .val (.double d3), .second] [])) _
      refine XS.goto X0.here hx rfl (pc0 := 32) (pc' := 11) rfl (hb hby d1_32) (by decide) (by decide) ?_
      show Steps p.tables e below (s₁.setTop (mkF m 11 #[.val (.ref a1), .val (.double (FP.dadd (FP.dadd (FP.dadd (0 : UInt64) d1) d2) d3)), .second, .val (.ref a1), .val (.int (3 : Int32)), .val (.int (3 : Int32)), .val (.double d3), .second] [])) _
      refine XS.iload X0.here hx rfl (hb hby d1_11) rfl ?_
      show Steps p.tables e below (s₁.setTop (mkF m 13 #[.val (.ref a1), .val (.double (FP.dadd (FP.dadd (FP.dadd (0 : UInt64) d1) d2) d3)), .second, .val (.ref a1), .val (.int (3 : Int32)), .val (.int (3 : Int32)), .val (.double d3), .second] [(.int (3 : Int32))])) _
      refine XS.iload X0.here hx rfl (hb hby d1_13) rfl ?_
      show Steps p.tables e below (s₁.setTop (mkF m 15 #[.val (.ref a1), .val (.double (FP.dadd (FP.dadd (FP.dadd (0 : UInt64) d1) d2) d3)), .second, .val (.ref a1), .val (.int (3 : Int32)), .val (.int (3 : Int32)), .val (.double d3), .second] [(.int (3 : Int32)), (.int (3 : Int32))])) _
      refine XS.icmpYes X0.here hx rfl (pc0 := 15) (pc' := 35) rfl (hb hby d1_15) rfl (flt ((by decide) : ¬ ((3 : Int32) < (3 : Int32)))).2.1 (by decide) (by decide) ?_
      show Steps p.tables e below (s₁.setTop (mkF m 35 #[.val (.ref a1), .val (.double (FP.dadd (FP.dadd (FP.dadd (0 : UInt64) d1) d2) d3)), .second, .val (.ref a1), .val (.int (3 : Int32)), .val (.int (3 : Int32)), .val (.double d3), .second] [])) _
      refine XS.dloadN X0.here hx rfl (hb hby d1_35) rfl ?_
      show Steps p.tables e below (s₁.setTop (mkF m 36 #[.val (.ref a1), .val (.double (FP.dadd (FP.dadd (FP.dadd (0 : UInt64) d1) d2) d3)), .second, .val (.ref a1), .val (.int (3 : Int32)), .val (.int (3 : Int32)), .val (.double d3), .second] [(.double (FP.dadd (FP.dadd (FP.dadd (0 : UInt64) d1) d2) d3))])) _
      refine XS.aloadN X0.here hx rfl (hb hby d1_36) rfl rfl ?_
      show Steps p.tables e below (s₁.setTop (mkF m 37 #[.val (.ref a1), .val (.double (FP.dadd (FP.dadd (FP.dadd (0 : UInt64) d1) d2) d3)), .second, .val (.ref a1), .val (.int (3 : Int32)), .val (.int (3 : Int32)), .val (.double d3), .second] [(.ref a1), (.double (FP.dadd (FP.dadd (FP.dadd (0 : UInt64) d1) d2) d3))])) _
      refine X0.arraylength hx (cell := cl11) (by rw [e0]; exact Ar11.1) (State.isArrayOf_alike hZ.alike Ar11.2.1) (g := (mkF m 37 #[.val (.ref a1), .val (.double (FP.dadd (FP.dadd (FP.dadd (0 : UInt64) d1) d2) d3)), .second, .val (.ref a1), .val (.int (3 : Int32)), .val (.int (3 : Int32)), .val (.double d3), .second] [(.ref a1), (.double (FP.dadd (FP.dadd (FP.dadd (0 : UInt64) d1) d2) d3))])) rfl rfl (hb hby d1_37) _ ?_
      rw [len_of S11 M11]
      show Steps p.tables e below (s₁.setTop (mkF m 38 #[.val (.ref a1), .val (.double (FP.dadd (FP.dadd (FP.dadd (0 : UInt64) d1) d2) d3)), .second, .val (.ref a1), .val (.int (3 : Int32)), .val (.int (3 : Int32)), .val (.double d3), .second] [(.int (3 : Int32)), (.double (FP.dadd (FP.dadd (FP.dadd (0 : UInt64) d1) d2) d3))])) _
      refine XS.i2dS X0.here hx rfl (hb hby d1_38) rfl (v := (FP.i2d (3 : Int32))) rfl ?_
      show Steps p.tables e below (s₁.setTop (mkF m 39 #[.val (.ref a1), .val (.double (FP.dadd (FP.dadd (FP.dadd (0 : UInt64) d1) d2) d3)), .second, .val (.ref a1), .val (.int (3 : Int32)), .val (.int (3 : Int32)), .val (.double d3), .second] [(.double (FP.i2d (3 : Int32))), (.double (FP.dadd (FP.dadd (FP.dadd (0 : UInt64) d1) d2) d3))])) _
      refine XS.ddivS X0.here hx rfl (hb hby d1_39) rfl q (v := (FP.ddiv (FP.dadd (FP.dadd (FP.dadd (0 : UInt64) d1) d2) d3) (FP.i2d (3 : Int32)))) rfl ?_
      exact kt)
  obtain ⟨fs, hr, hrun, hended, hW, hsame⟩ := X0.leave (v := some (.double (FP.ddiv (FP.dadd (FP.dadd (FP.dadd (0 : UInt64) d1) d2) d3) (FP.i2d (3 : Int32))))) (fun h => by rw [Bd.returns] at h; cases h)
  refine ⟨_, _, pre12 _ ?_, hrun, hended, _, _, rfl, ?_, ⟨_, rfl⟩, hW, hsame.mono (by decide) (by decide)⟩
  · show Steps p.tables e below (s₁.setTop (mkF m 40 #[.val (.ref a1), .val (.double (FP.dadd (FP.dadd (FP.dadd (0 : UInt64) d1) d2) d3)), .second, .val (.ref a1), .val (.int (3 : Int32)), .val (.int (3 : Int32)), .val (.double d3), .second] [(.double (FP.ddiv (FP.dadd (FP.dadd (FP.dadd (0 : UInt64) d1) d2) d3) (FP.i2d (3 : Int32))))])) _
    exact own_retD X0 hx Bd.returns (hb hby d1_40) hr
  · show Qmean3 Z a1 d1 d2 d3 kk h0 n0 _ s₁.heap _
    rw [e0]
    exact ⟨rfl, N0, rfl⟩
theorem ef_mean4 (m : MethodId) (a1 : Addr) : entryFrame m #[(.ref a1)] 8 = mkF m 0 #[.val (.ref a1), .unset, .unset, .unset, .unset, .unset, .unset, .unset] [] := by first | (simp [entryFrame, mkF, argsToLocals, Value.category]; done) | rfl
def Qmean4 (Z : State) (a1 : Addr) (d1 : UInt64) (d2 : UInt64) (d3 : UInt64) (d4 : UInt64) (kk : ClassId) (h0 : Heap) (n0 : Nat) (v : Option Value) (h : Heap) (L : List Loc) : Prop := v = some (.double (FP.ddiv (FP.dadd (FP.dadd (FP.dadd (FP.dadd (0 : UInt64) d1) d2) d3) d4) (FP.i2d (4 : Int32)))) ∧ Fr n0 L ∧ h = h0
set_option maxRecDepth 65536 in
set_option maxHeartbeats 40000000 in
theorem rmmean4 (l : Launch) (Z : State) (a0 : Array Value) (hw : ∀ d ∈ tables_1, d.before a0 Z = true) (ws : List Jvm.Cond) (a1 : Addr) (d1 : UInt64) (d2 : UInt64) (d3 : UInt64) (d4 : UInt64) (kk : ClassId) (h0 : Heap) (n0 : Nat) (Z0 : n0 ≤ h0.size) (P_V_a1 : Arv Z h0 a1 kk .double (4 : Int32) [(.double d1), (.double d2), (.double d3), (.double d4)] (.double (0 : UInt64))) (s1 : NoNaN64 (FP.dadd (0 : UInt64) d1)) (s2 : NoNaN64 (FP.dadd (FP.dadd (0 : UInt64) d1) d2)) (s3 : NoNaN64 (FP.dadd (FP.dadd (FP.dadd (0 : UInt64) d1) d2) d3)) (s4 : NoNaN64 (FP.dadd (FP.dadd (FP.dadd (FP.dadd (0 : UInt64) d1) d2) d3) d4)) (q : NoNaN64 (FP.ddiv (FP.dadd (FP.dadd (FP.dadd (FP.dadd (0 : UInt64) d1) d2) d3) d4) (FP.i2d (4 : Int32)))) :
    MetFree l (⟨"com/example/heft/heft/rank/Scope", "mean", "([D)D"⟩ : MethodName) (head1 (Jvm.Cond.code (⟨"com/example/heft/heft/rank/Scope", "mean", "([D)D"⟩ : MethodName) prog_40_method_8_code 8 (some .double) :: ws) ({ frames := 0, cells := 0, slots := 0, locals := 0 } : Room)) (fun a U => a = #[(.ref a1)] ∧ Z.Warmed39 U.vm ∧ U.heap = h0) (fun _ _ _ _ _ => True) (fun _ U o U' => ∃ v L, o = .returned v ∧ Qmean4 Z a1 d1 d2 d3 d4 kk h0 n0 v U'.heap L ∧ FrameEnd U o U' L ({ frames := 0, cells := 0, slots := 0, locals := 0 } : Room).cells ({ frames := 0, cells := 0, slots := 0, locals := 0 } : Room).slots) := by
  refine MetFree.of_bodySF (plainFor_of_name pn_com_example_heft_heft_rank_Scope) hisR ?_
  intro p e s m args below meth c s₁ Bd hml0 hP hK
  obtain ⟨rfl, hZ, hh⟩ := hP
  have hx := Bd.exec
  have hby := Bd.bytes
  have hml : c.maxLocals = 8 := hml0
  have hown : s.vm.findClass "com/example/heft/heft/rank/Scope" = some m.cls := findClass_of_methodNamed Bd.named
  have hnm := (name_of_methodNamed Bd.named Bd.method).1
  have X0 : Stand p l e ({ frames := 0, cells := 0, slots := 0, locals := 0 } : Room) s m #[(.ref a1)] below meth c s₁ [] 0 0 := Stand.of_body Bd
  have e0 : s₁.heap = h0 := by rw [← hh, Bd.state]; rfl
  have N0 := Fr.nil n0
  have pre0 : ∀ t, Steps p.tables e below (s₁.setTop (mkF m 0 #[.val (.ref a1), .unset, .unset, .unset, .unset, .unset, .unset, .unset] [])) t → Steps p.tables e below (s₁.setTop (entryFrame m #[(.ref a1)] 8)) t := fun t k => castTop (ef_mean4 m a1) k
  obtain ⟨cl1, Ar1, Q1, S1, M1, H1, G1⟩ := id P_V_a1
  obtain ⟨cl2, Ar2, Q2, S2, M2, H2, G2⟩ := id P_V_a1
  have in3 : ¬ ((0 : Int32) < 0 ∨ cl2.slots.size ≤ ((0 : Int32)).toNatClampNeg) := inb_of S2 ⟨by decide, by decide⟩
  have at4 : cl2.slots[((0 : Int32)).toNatClampNeg]? = some (.double d1) := H2 0 (by rw [S2]; decide)
  obtain ⟨cl5, Ar5, Q5, S5, M5, H5, G5⟩ := id P_V_a1
  have in6 : ¬ ((1 : Int32) < 0 ∨ cl5.slots.size ≤ ((1 : Int32)).toNatClampNeg) := inb_of S5 ⟨by decide, by decide⟩
  have at7 : cl5.slots[((1 : Int32)).toNatClampNeg]? = some (.double d2) := H5 1 (by rw [S5]; decide)
  obtain ⟨cl8, Ar8, Q8, S8, M8, H8, G8⟩ := id P_V_a1
  have in9 : ¬ ((2 : Int32) < 0 ∨ cl8.slots.size ≤ ((2 : Int32)).toNatClampNeg) := inb_of S8 ⟨by decide, by decide⟩
  have at10 : cl8.slots[((2 : Int32)).toNatClampNeg]? = some (.double d3) := H8 2 (by rw [S8]; decide)
  obtain ⟨cl11, Ar11, Q11, S11, M11, H11, G11⟩ := id P_V_a1
  have in12 : ¬ ((3 : Int32) < 0 ∨ cl11.slots.size ≤ ((3 : Int32)).toNatClampNeg) := inb_of S11 ⟨by decide, by decide⟩
  have at13 : cl11.slots[((3 : Int32)).toNatClampNeg]? = some (.double d4) := H11 3 (by rw [S11]; decide)
  obtain ⟨cl14, Ar14, Q14, S14, M14, H14, G14⟩ := id P_V_a1
  have pre15 : ∀ t, Steps p.tables e below (s₁.setTop (mkF m 40 #[.val (.ref a1), .val (.double (FP.dadd (FP.dadd (FP.dadd (FP.dadd (0 : UInt64) d1) d2) d3) d4)), .second, .val (.ref a1), .val (.int (4 : Int32)), .val (.int (4 : Int32)), .val (.double d4), .second] [(.double (FP.ddiv (FP.dadd (FP.dadd (FP.dadd (FP.dadd (0 : UInt64) d1) d2) d3) d4) (FP.i2d (4 : Int32))))])) t → Steps p.tables e below (s₁.setTop (entryFrame m #[(.ref a1)] 8)) t := fun t kt => pre0 t (by
      show Steps p.tables e below (s₁.setTop (mkF m 0 #[.val (.ref a1), .unset, .unset, .unset, .unset, .unset, .unset, .unset] [])) _
      refine XS.dconst0 X0.here hx rfl (hb hby d1_0) (v := (0 : UInt64)) rfl ?_
      show Steps p.tables e below (s₁.setTop (mkF m 1 #[.val (.ref a1), .unset, .unset, .unset, .unset, .unset, .unset, .unset] [(.double (0 : UInt64))])) _
      refine XS.dstoreN X0.here hx rfl (hb hby d1_1) rfl (l' := #[.val (.ref a1), .val (.double (0 : UInt64)), .second, .unset, .unset, .unset, .unset, .unset]) rfl ?_
      show Steps p.tables e below (s₁.setTop (mkF m 2 #[.val (.ref a1), .val (.double (0 : UInt64)), .second, .unset, .unset, .unset, .unset, .unset] [])) _
      refine XS.aloadN X0.here hx rfl (hb hby d1_2) rfl rfl ?_
      show Steps p.tables e below (s₁.setTop (mkF m 3 #[.val (.ref a1), .val (.double (0 : UInt64)), .second, .unset, .unset, .unset, .unset, .unset] [(.ref a1)])) _
      refine XS.astoreN X0.here hx rfl (hb hby d1_3) rfl rfl (l' := #[.val (.ref a1), .val (.double (0 : UInt64)), .second, .val (.ref a1), .unset, .unset, .unset, .unset]) rfl ?_
      show Steps p.tables e below (s₁.setTop (mkF m 4 #[.val (.ref a1), .val (.double (0 : UInt64)), .second, .val (.ref a1), .unset, .unset, .unset, .unset] [])) _
      refine XS.aloadN X0.here hx rfl (hb hby d1_4) rfl rfl ?_
      show Steps p.tables e below (s₁.setTop (mkF m 5 #[.val (.ref a1), .val (.double (0 : UInt64)), .second, .val (.ref a1), .unset, .unset, .unset, .unset] [(.ref a1)])) _
      refine X0.arraylength hx (cell := cl1) (by rw [e0]; exact Ar1.1) (State.isArrayOf_alike hZ.alike Ar1.2.1) (g := (mkF m 5 #[.val (.ref a1), .val (.double (0 : UInt64)), .second, .val (.ref a1), .unset, .unset, .unset, .unset] [(.ref a1)])) rfl rfl (hb hby d1_5) _ ?_
      rw [len_of S1 M1]
      show Steps p.tables e below (s₁.setTop (mkF m 6 #[.val (.ref a1), .val (.double (0 : UInt64)), .second, .val (.ref a1), .unset, .unset, .unset, .unset] [(.int (4 : Int32))])) _
      refine XS.istore X0.here hx rfl (hb hby d1_6) rfl (l' := #[.val (.ref a1), .val (.double (0 : UInt64)), .second, .val (.ref a1), .val (.int (4 : Int32)), .unset, .unset, .unset]) rfl ?_
      show Steps p.tables e below (s₁.setTop (mkF m 8 #[.val (.ref a1), .val (.double (0 : UInt64)), .second, .val (.ref a1), .val (.int (4 : Int32)), .unset, .unset, .unset] [])) _
      refine XS.iconst X0.here hx rfl (hb hby d1_8) ?_
      show Steps p.tables e below (s₁.setTop (mkF m 9 #[.val (.ref a1), .val (.double (0 : UInt64)), .second, .val (.ref a1), .val (.int (4 : Int32)), .unset, .unset, .unset] [(.int (0 : Int32))])) _
      refine XS.istore X0.here hx rfl (hb hby d1_9) rfl (l' := #[.val (.ref a1), .val (.double (0 : UInt64)), .second, .val (.ref a1), .val (.int (4 : Int32)), .val (.int (0 : Int32)), .unset, .unset]) rfl ?_
      show Steps p.tables e below (s₁.setTop (mkF m 11 #[.val (.ref a1), .val (.double (0 : UInt64)), .second, .val (.ref a1), .val (.int (4 : Int32)), .val (.int (0 : Int32)), .unset, .unset] [])) _
      refine XS.iload X0.here hx rfl (hb hby d1_11) rfl ?_
      show Steps p.tables e below (s₁.setTop (mkF m 13 #[.val (.ref a1), .val (.double (0 : UInt64)), .second, .val (.ref a1), .val (.int (4 : Int32)), .val (.int (0 : Int32)), .unset, .unset] [(.int (0 : Int32))])) _
      refine XS.iload X0.here hx rfl (hb hby d1_13) rfl ?_
      show Steps p.tables e below (s₁.setTop (mkF m 15 #[.val (.ref a1), .val (.double (0 : UInt64)), .second, .val (.ref a1), .val (.int (4 : Int32)), .val (.int (0 : Int32)), .unset, .unset] [(.int (4 : Int32)), (.int (0 : Int32))])) _
      refine XS.icmpNo X0.here hx rfl (hb hby d1_15) rfl (tlt ((by decide) : (0 : Int32) < (4 : Int32))).2.1 ?_
      show Steps p.tables e below (s₁.setTop (mkF m 18 #[.val (.ref a1), .val (.double (0 : UInt64)), .second, .val (.ref a1), .val (.int (4 : Int32)), .val (.int (0 : Int32)), .unset, .unset] [])) _
      refine XS.aloadN X0.here hx rfl (hb hby d1_18) rfl rfl ?_
      show Steps p.tables e below (s₁.setTop (mkF m 19 #[.val (.ref a1), .val (.double (0 : UInt64)), .second, .val (.ref a1), .val (.int (4 : Int32)), .val (.int (0 : Int32)), .unset, .unset] [(.ref a1)])) _
      refine XS.iload X0.here hx rfl (hb hby d1_19) rfl ?_
      show Steps p.tables e below (s₁.setTop (mkF m 21 #[.val (.ref a1), .val (.double (0 : UInt64)), .second, .val (.ref a1), .val (.int (4 : Int32)), .val (.int (0 : Int32)), .unset, .unset] [(.int (0 : Int32)), (.ref a1)])) _
      refine X0.daload hx (j := (0 : Int32)) (v := (.double d1)) (by rw [e0]; exact Ar2.1) (State.isArrayOf_alike hZ.alike Ar2.2.1) Ar2.2.2 in3 at4 (g := (mkF m 21 #[.val (.ref a1), .val (.double (0 : UInt64)), .second, .val (.ref a1), .val (.int (4 : Int32)), .val (.int (0 : Int32)), .unset, .unset] [(.int (0 : Int32)), (.ref a1)])) rfl rfl (hb hby d1_21) _ ?_
      show Steps p.tables e below (s₁.setTop (mkF m 22 #[.val (.ref a1), .val (.double (0 : UInt64)), .second, .val (.ref a1), .val (.int (4 : Int32)), .val (.int (0 : Int32)), .unset, .unset] [(.double d1)])) _
      refine XS.dstore X0.here hx rfl (hb hby d1_22) rfl (l' := #[.val (.ref a1), .val (.double (0 : UInt64)), .second, .val (.ref a1), .val (.int (4 : Int32)), .val (.int (0 : Int32)), .val (.double d1), .second]) rfl ?_
      show Steps p.tables e below (s₁.setTop (mkF m 24 #[.val (.ref a1), .val (.double (0 : UInt64)), .second, .val (.ref a1), .val (.int (4 : Int32)), .val (.int (0 : Int32)), .val (.double d1), .second] [])) _
      refine XS.dloadN X0.here hx rfl (hb hby d1_24) rfl ?_
      show Steps p.tables e below (s₁.setTop (mkF m 25 #[.val (.ref a1), .val (.double (0 : UInt64)), .second, .val (.ref a1), .val (.int (4 : Int32)), .val (.int (0 : Int32)), .val (.double d1), .second] [(.double (0 : UInt64))])) _
      refine XS.dload X0.here hx rfl (hb hby d1_25) rfl ?_
      show Steps p.tables e below (s₁.setTop (mkF m 27 #[.val (.ref a1), .val (.double (0 : UInt64)), .second, .val (.ref a1), .val (.int (4 : Int32)), .val (.int (0 : Int32)), .val (.double d1), .second] [(.double d1), (.double (0 : UInt64))])) _
      refine XS.daddS X0.here hx rfl (hb hby d1_27) rfl s1 (v := (FP.dadd (0 : UInt64) d1)) rfl ?_
      show Steps p.tables e below (s₁.setTop (mkF m 28 #[.val (.ref a1), .val (.double (0 : UInt64)), .second, .val (.ref a1), .val (.int (4 : Int32)), .val (.int (0 : Int32)), .val (.double d1), .second] [(.double (FP.dadd (0 : UInt64) d1))])) _
      refine XS.dstoreN X0.here hx rfl (hb hby d1_28) rfl (l' := #[.val (.ref a1), .val (.double (FP.dadd (0 : UInt64) d1)), .second, .val (.ref a1), .val (.int (4 : Int32)), .val (.int (0 : Int32)), .val (.double d1), .second]) rfl ?_
      show Steps p.tables e below (s₁.setTop (mkF m 29 #[.val (.ref a1), .val (.double (FP.dadd (0 : UInt64) d1)), .second, .val (.ref a1), .val (.int (4 : Int32)), .val (.int (0 : Int32)), .val (.double d1), .second] [])) _
      refine XS.iinc X0.here hx rfl (hb hby d1_29) rfl (l' := #[.val (.ref a1), .val (.double (FP.dadd (0 : UInt64) d1)), .second, .val (.ref a1), .val (.int (4 : Int32)), .val (.int (1 : Int32)), .val (.double d1), .second]) rfl ?_
      show Steps p.tables e below (s₁.setTop (mkF m 32 #[.val (.ref a1), .val (.double (FP.dadd (0 : UInt64) d1)), .second, .val (.ref a1), .val (.int (4 : Int32)), .val (.int (1 : Int32)), .val (.double d1), .second] [])) _
      refine XS.goto X0.here hx rfl (pc0 := 32) (pc' := 11) rfl (hb hby d1_32) (by decide) (by decide) ?_
      show Steps p.tables e below (s₁.setTop (mkF m 11 #[.val (.ref a1), .val (.double (FP.dadd (0 : UInt64) d1)), .second, .val (.ref a1), .val (.int (4 : Int32)), .val (.int (1 : Int32)), .val (.double d1), .second] [])) _
      refine XS.iload X0.here hx rfl (hb hby d1_11) rfl ?_
      show Steps p.tables e below (s₁.setTop (mkF m 13 #[.val (.ref a1), .val (.double (FP.dadd (0 : UInt64) d1)), .second, .val (.ref a1), .val (.int (4 : Int32)), .val (.int (1 : Int32)), .val (.double d1), .second] [(.int (1 : Int32))])) _
      refine XS.iload X0.here hx rfl (hb hby d1_13) rfl ?_
      show Steps p.tables e below (s₁.setTop (mkF m 15 #[.val (.ref a1), .val (.double (FP.dadd (0 : UInt64) d1)), .second, .val (.ref a1), .val (.int (4 : Int32)), .val (.int (1 : Int32)), .val (.double d1), .second] [(.int (4 : Int32)), (.int (1 : Int32))])) _
      refine XS.icmpNo X0.here hx rfl (hb hby d1_15) rfl (tlt ((by decide) : (1 : Int32) < (4 : Int32))).2.1 ?_
      show Steps p.tables e below (s₁.setTop (mkF m 18 #[.val (.ref a1), .val (.double (FP.dadd (0 : UInt64) d1)), .second, .val (.ref a1), .val (.int (4 : Int32)), .val (.int (1 : Int32)), .val (.double d1), .second] [])) _
      refine XS.aloadN X0.here hx rfl (hb hby d1_18) rfl rfl ?_
      show Steps p.tables e below (s₁.setTop (mkF m 19 #[.val (.ref a1), .val (.double (FP.dadd (0 : UInt64) d1)), .second, .val (.ref a1), .val (.int (4 : Int32)), .val (.int (1 : Int32)), .val (.double d1), .second] [(.ref a1)])) _
      refine XS.iload X0.here hx rfl (hb hby d1_19) rfl ?_
      show Steps p.tables e below (s₁.setTop (mkF m 21 #[.val (.ref a1), .val (.double (FP.dadd (0 : UInt64) d1)), .second, .val (.ref a1), .val (.int (4 : Int32)), .val (.int (1 : Int32)), .val (.double d1), .second] [(.int (1 : Int32)), (.ref a1)])) _
      refine X0.daload hx (j := (1 : Int32)) (v := (.double d2)) (by rw [e0]; exact Ar5.1) (State.isArrayOf_alike hZ.alike Ar5.2.1) Ar5.2.2 in6 at7 (g := (mkF m 21 #[.val (.ref a1), .val (.double (FP.dadd (0 : UInt64) d1)), .second, .val (.ref a1), .val (.int (4 : Int32)), .val (.int (1 : Int32)), .val (.double d1), .second] [(.int (1 : Int32)), (.ref a1)])) rfl rfl (hb hby d1_21) _ ?_
      show Steps p.tables e below (s₁.setTop (mkF m 22 #[.val (.ref a1), .val (.double (FP.dadd (0 : UInt64) d1)), .second, .val (.ref a1), .val (.int (4 : Int32)), .val (.int (1 : Int32)), .val (.double d1), .second] [(.double d2)])) _
      refine XS.dstore X0.here hx rfl (hb hby d1_22) rfl (l' := #[.val (.ref a1), .val (.double (FP.dadd (0 : UInt64) d1)), .second, .val (.ref a1), .val (.int (4 : Int32)), .val (.int (1 : Int32)), .val (.double d2), .second]) rfl ?_
      show Steps p.tables e below (s₁.setTop (mkF m 24 #[.val (.ref a1), .val (.double (FP.dadd (0 : UInt64) d1)), .second, .val (.ref a1), .val (.int (4 : Int32)), .val (.int (1 : Int32)), .val (.double d2), .second] [])) _
      refine XS.dloadN X0.here hx rfl (hb hby d1_24) rfl ?_
      show Steps p.tables e below (s₁.setTop (mkF m 25 #[.val (.ref a1), .val (.double (FP.dadd (0 : UInt64) d1)), .second, .val (.ref a1), .val (.int (4 : Int32)), .val (.int (1 : Int32)), .val (.double d2), .second] [(.double (FP.dadd (0 : UInt64) d1))])) _
      refine XS.dload X0.here hx rfl (hb hby d1_25) rfl ?_
      show Steps p.tables e below (s₁.setTop (mkF m 27 #[.val (.ref a1), .val (.double (FP.dadd (0 : UInt64) d1)), .second, .val (.ref a1), .val (.int (4 : Int32)), .val (.int (1 : Int32)), .val (.double d2), .second] [(.double d2), (.double (FP.dadd (0 : UInt64) d1))])) _
      refine XS.daddS X0.here hx rfl (hb hby d1_27) rfl s2 (v := (FP.dadd (FP.dadd (0 : UInt64) d1) d2)) rfl ?_
      show Steps p.tables e below (s₁.setTop (mkF m 28 #[.val (.ref a1), .val (.double (FP.dadd (0 : UInt64) d1)), .second, .val (.ref a1), .val (.int (4 : Int32)), .val (.int (1 : Int32)), .val (.double d2), .second] [(.double (FP.dadd (FP.dadd (0 : UInt64) d1) d2))])) _
      refine XS.dstoreN X0.here hx rfl (hb hby d1_28) rfl (l' := #[.val (.ref a1), .val (.double (FP.dadd (FP.dadd (0 : UInt64) d1) d2)), .second, .val (.ref a1), .val (.int (4 : Int32)), .val (.int (1 : Int32)), .val (.double d2), .second]) rfl ?_
      show Steps p.tables e below (s₁.setTop (mkF m 29 #[.val (.ref a1), .val (.double (FP.dadd (FP.dadd (0 : UInt64) d1) d2)), .second, .val (.ref a1), .val (.int (4 : Int32)), .val (.int (1 : Int32)), .val (.double d2), .second] [])) _
      refine XS.iinc X0.here hx rfl (hb hby d1_29) rfl (l' := #[.val (.ref a1), .val (.double (FP.dadd (FP.dadd (0 : UInt64) d1) d2)), .second, .val (.ref a1), .val (.int (4 : Int32)), .val (.int (2 : Int32)), .val (.double d2), .second]) rfl ?_
      show Steps p.tables e below (s₁.setTop (mkF m 32 #[.val (.ref a1), .val (.double (FP.dadd (FP.dadd (0 : UInt64) d1) d2)), .second, .val (.ref a1), .val (.int (4 : Int32)), .val (.int (2 : Int32)), .val (.double d2), .second] [])) _
      refine XS.goto X0.here hx rfl (pc0 := 32) (pc' := 11) rfl (hb hby d1_32) (by decide) (by decide) ?_
      show Steps p.tables e below (s₁.setTop (mkF m 11 #[.val (.ref a1), .val (.double (FP.dadd (FP.dadd (0 : UInt64) d1) d2)), .second, .val (.ref a1), .val (.int (4 : Int32)), .val (.int (2 : Int32)), .val (.double d2), .second] [])) _
      refine XS.iload X0.here hx rfl (hb hby d1_11) rfl ?_
      show Steps p.tables e below (s₁.setTop (mkF m 13 #[.val (.ref a1), .val (.double (FP.dadd (FP.dadd (0 : UInt64) d1) d2)), .second, .val (.ref a1), .val (.int (4 : Int32)), .val (.int (2 : Int32)), .val (.double d2), .second] [(.int (2 : Int32))])) _
      refine XS.iload X0.here hx rfl (hb hby d1_13) rfl ?_
      show Steps p.tables e below (s₁.setTop (mkF m 15 #[.val (.ref a1), .val (.double (FP.dadd (FP.dadd (0 : UInt64) d1) d2)), .second, .val (.ref a1), .val (.int (4 : Int32)), .val (.int (2 : Int32)), .val (.double d2), .second] [(.int (4 : Int32)), (.int (2 : Int32))])) _
      refine XS.icmpNo X0.here hx rfl (hb hby d1_15) rfl (tlt ((by decide) : (2 : Int32) < (4 : Int32))).2.1 ?_
      show Steps p.tables e below (s₁.setTop (mkF m 18 #[.val (.ref a1), .val (.double (FP.dadd (FP.dadd (0 : UInt64) d1) d2)), .second, .val (.ref a1), .val (.int (4 : Int32)), .val (.int (2 : Int32)), .val (.double d2), .second] [])) _
      refine XS.aloadN X0.here hx rfl (hb hby d1_18) rfl rfl ?_
      show Steps p.tables e below (s₁.setTop (mkF m 19 #[.val (.ref a1), .val (.double (FP.dadd (FP.dadd (0 : UInt64) d1) d2)), .second, .val (.ref a1), .val (.int (4 : Int32)), .val (.int (2 : Int32)), .val (.double d2), .second] [(.ref a1)])) _
      refine XS.iload X0.here hx rfl (hb hby d1_19) rfl ?_
      show Steps p.tables e below (s₁.setTop (mkF m 21 #[.val (.ref a1), .val (.double (FP.dadd (FP.dadd (0 : UInt64) d1) d2)), .second, .val (.ref a1), .val (.int (4 : Int32)), .val (.int (2 : Int32)), .val (.double d2), .second] [(.int (2 : Int32)), (.ref a1)])) _
      refine X0.daload hx (j := (2 : Int32)) (v := (.double d3)) (by rw [e0]; exact Ar8.1) (State.isArrayOf_alike hZ.alike Ar8.2.1) Ar8.2.2 in9 at10 (g := (mkF m 21 #[.val (.ref a1), .val (.double (FP.dadd (FP.dadd (0 : UInt64) d1) d2)), .second, .val (.ref a1), .val (.int (4 : Int32)), .val (.int (2 : Int32)), .val (.double d2), .second] [(.int (2 : Int32)), (.ref a1)])) rfl rfl (hb hby d1_21) _ ?_
      show Steps p.tables e below (s₁.setTop (mkF m 22 #[.val (.ref a1), .val (.double (FP.dadd (FP.dadd (0 : UInt64) d1) d2)), .second, .val (.ref a1), .val (.int (4 : Int32)), .val (.int (2 : Int32)), .val (.double d2), .second] [(.double d3)])) _
      refine XS.dstore X0.here hx rfl (hb hby d1_22) rfl (l' := #[.val (.ref a1), .val (.double (FP.dadd (FP.dadd (0 : UInt64) d1) d2)), .second, .val (.ref a1), .val (.int (4 : Int32)), .val (.int (2 : Int32)), .val (.double d3), .second]) rfl ?_
      show Steps p.tables e below (s₁.setTop (mkF m 24 #[.val (.ref a1), .val (.double (FP.dadd (FP.dadd (0 : UInt64) d1) d2)), .second, .val (.ref a1), .val (.int (4 : Int32)), .val (.int (2 : Int32)), .val (.double d3), .second] [])) _
      refine XS.dloadN X0.here hx rfl (hb hby d1_24) rfl ?_
      show Steps p.tables e below (s₁.setTop (mkF m 25 #[.val (.ref a1), .val (.double (FP.dadd (FP.dadd (0 : UInt64) d1) d2)), .second, .val (.ref a1), .val (.int (4 : Int32)), .val (.int (2 : Int32)), .val (.double d3), .second] [(.double (FP.dadd (FP.dadd (0 : UInt64) d1) d2))])) _
      refine XS.dload X0.here hx rfl (hb hby d1_25) rfl ?_
      show Steps p.tables e below (s₁.setTop (mkF m 27 #[.val (.ref a1), .val (.double (FP.dadd (FP.dadd (0 : UInt64) d1) d2)), .second, .val (.ref a1), .val (.int (4 : Int32)), .val (.int (2 : Int32)), .val (.double d3), .second] [(.double d3), (.double (FP.dadd (FP.dadd (0 : UInt64) d1) d2))])) _
      refine XS.daddS X0.here hx rfl (hb hby d1_27) rfl s3 (v := (FP.dadd (FP.dadd (FP.dadd (0 : UInt64) d1) d2) d3)) rfl ?_
      show Steps p.tables e below (s₁.setTop (mkF m 28 #[.val (.ref a1), .val (.double (FP.dadd (FP.dadd (0 : UInt64) d1) d2)), .second, .val (.ref a1), .val (.int (4 : Int32)), .val (.int (2 : Int32)), .val (.double d3), .second] [(.double (FP.dadd (FP.dadd (FP.dadd (0 : UInt64) d1) d2) d3))])) _
      refine XS.dstoreN X0.here hx rfl (hb hby d1_28) rfl (l' := #[.val (.ref a1), .val (.double (FP.dadd (FP.dadd (FP.dadd (0 : UInt64) d1) d2) d3)), .second, .val (.ref a1), .val (.int (4 : Int32)), .val (.int (2 : Int32)), .val (.double d3), .second]) rfl ?_
      show Steps p.tables e below (s₁.setTop (mkF m 29 #[.val (.ref a1), .val (.double (FP.dadd (FP.dadd (FP.dadd (0 : UInt64) d1) d2) d3)), .second, .val (.ref a1), .val (.int (4 : Int32)), .val (.int (2 : Int32)), .val (.double d3), .second] [])) _
      refine XS.iinc X0.here hx rfl (hb hby d1_29) rfl (l' := #[.val (.ref a1), .val (.double (FP.dadd (FP.dadd (FP.dadd (0 : UInt64) d1) d2) d3)), .second, .val (.ref a1), .val (.int (4 : Int32)), .val (.int (3 : Int32)), .val (.double d3), .second]) rfl ?_
      show Steps p.tables e below (s₁.setTop (mkF m 32 #[.val (.ref a1), .val (.double (FP.dadd (FP.dadd (FP.dadd (0 : UInt64) d1) d2) d3)), .second, .val (.ref a1), .val (.int (4 : Int32)), .val (.int (3 : Int32)), .val (.double d3), .second] [])) _
      refine XS.goto X0.here hx rfl (pc0 := 32) (pc' := 11) rfl (hb hby d1_32) (by decide) (by decide) ?_
      show Steps p.tables e below (s₁.setTop (mkF m 11 #[.val (.ref a1), .val (.double (FP.dadd (FP.dadd (FP.dadd (0 : UInt64) d1) d2) d3)), .second, .val (.ref a1), .val (.int (4 : Int32)), .val (.int (3 : Int32)), .val (.double d3), .second] [])) _
      refine XS.iload X0.here hx rfl (hb hby d1_11) rfl ?_
      show Steps p.tables e below (s₁.setTop (mkF m 13 #[.val (.ref a1), .val (.double (FP.dadd (FP.dadd (FP.dadd (0 : UInt64) d1) d2) d3)), .second, .val (.ref a1), .val (.int (4 : Int32)), .val (.int (3 : Int32)), .val (.double d3), .second] [(.int (3 : Int32))])) _
      refine XS.iload X0.here hx rfl (hb hby d1_13) rfl ?_
      show Steps p.tables e below (s₁.setTop (mkF m 15 #[.val (.ref a1), .val (.double (FP.dadd (FP.dadd (FP.dadd (0 : UInt64) d1) d2) d3)), .second, .val (.ref a1), .val (.int (4 : Int32)), .val (.int (3 : Int32)), .val (.double d3), .second] [(.int (4 : Int32)), (.int (3 : Int32))])) _
      refine XS.icmpNo X0.here hx rfl (hb hby d1_15) rfl (tlt ((by decide) : (3 : Int32) < (4 : Int32))).2.1 ?_
      show Steps p.tables e below (s₁.setTop (mkF m 18 #[.val (.ref a1), .val (.double (FP.dadd (FP.dadd (FP.dadd (0 : UInt64) d1) d2) d3)), .second, .val (.ref a1), .val (.int (4 : Int32)), .val (.int (3 : Int32)), .val (.double d3), .second] [])) _
      refine XS.aloadN X0.here hx rfl (hb hby d1_18) rfl rfl ?_
      show Steps p.tables e below (s₁.setTop (mkF m 19 #[.val (.ref a1), .val (.double (FP.dadd (FP.dadd (FP.dadd (0 : UInt64) d1) d2) d3)), .second, .val (.ref a1), .val (.int (4 : Int32)), .val (.int (3 : Int32)), .val (.double d3), .second] [(.ref a1)])) _
      refine XS.iload X0.here hx rfl (hb hby d1_19) rfl ?_
      show Steps p.tables e below (s₁.setTop (mkF m 21 #[.val (.ref a1), .val (.double (FP.dadd (FP.dadd (FP.dadd (0 : UInt64) d1) d2) d3)), .second, .val (.ref a1), .val (.int (4 : Int32)), .val (.int (3 : Int32)), .val (.double d3), .second] [(.int (3 : Int32)), (.ref a1)])) _
      refine X0.daload hx (j := (3 : Int32)) (v := (.double d4)) (by rw [e0]; exact Ar11.1) (State.isArrayOf_alike hZ.alike Ar11.2.1) Ar11.2.2 in12 at13 (g := (mkF m 21 #[.val (.ref a1), .val (.double (FP.dadd (FP.dadd (FP.dadd (0 : UInt64) d1) d2) d3)), .second, .val (.ref a1), .val (.int (4 : Int32)), .val (.int (3 : Int32)), .val (.double d3), .second] [(.int (3 : Int32)), (.ref a1)])) rfl rfl (hb hby d1_21) _ ?_
      show Steps p.tables e below (s₁.setTop (mkF m 22 #[.val (.ref a1), .val (.double (FP.dadd (FP.dadd (FP.dadd (0 : UInt64) d1) d2) d3)), .second, .val (.ref a1), .val (.int (4 : Int32)), .val (.int (3 : Int32)), .val (.double d3), .second] [(.double d4)])) _
      refine XS.dstore X0.here hx rfl (hb hby d1_22) rfl (l' := #[.val (.ref a1), .val (.double (FP.dadd (FP.dadd (FP.dadd (0 : UInt64) d1) d2) d3)), .second, .val (.ref a1), .val (.int (4 : Int32)), .val (.int (3 : Int32)), .val (.double d4), .second]) rfl ?_
      show Steps p.tables e below (s₁.setTop (mkF m 24 #[.val (.ref a1), .val (.double (FP.dadd (FP.dadd (FP.dadd (0 : UInt64) d1) d2) d3)), .second, .val (.ref a1), .val (.int (4 : Int32)), .val (.int (3 : Int32)), .val (.double d4), .second] [])) _
      refine XS.dloadN X0.here hx rfl (hb hby d1_24) rfl ?_
      show Steps p.tables e below (s₁.setTop (mkF m 25 #[.val (.ref a1), .val (.double (FP.dadd (FP.dadd (FP.dadd (0 : UInt64) d1) d2) d3)), .second, .val (.ref a1), .val (.int (4 : Int32)), .val (.int (3 : Int32)), .val (.double d4), .second] [(.double (FP.dadd (FP.dadd (FP.dadd (0 : UInt64) d1) d2) d3))])) _
      refine XS.dload X0.here hx rfl (hb hby d1_25) rfl ?_
      show Steps p.tables e below (s₁.setTop (mkF m 27 #[.val (.ref a1), .val (.double (FP.dadd (FP.dadd (FP.dadd (0 : UInt64) d1) d2) d3)), .second, .val (.ref a1), .val (.int (4 : Int32)), .val (.int (3 : Int32)), .val (.double d4), .second] [(.double d4), (.double (FP.dadd (FP.dadd (FP.dadd (0 : UInt64) d1) d2) d3))])) _
      refine XS.daddS X0.here hx rfl (hb hby d1_27) rfl s4 (v := (FP.dadd (FP.dadd (FP.dadd (FP.dadd (0 : UInt64) d1) d2) d3) d4)) rfl ?_
      show Steps p.tables e below (s₁.setTop (mkF m 28 #[.val (.ref a1), .val (.double (FP.dadd (FP.dadd (FP.dadd (0 : UInt64) d1) d2) d3)), .second, .val (.ref a1), .val (.int (4 : Int32)), .val (.int (3 : Int32)), .val (.double d4), .second] [(.double (FP.dadd (FP.dadd (FP.dadd (FP.dadd (0 : UInt64) d1) d2) d3) d4))])) _
      refine XS.dstoreN X0.here hx rfl (hb hby d1_28) rfl (l' := #[.val (.ref a1), .val (.double (FP.dadd (FP.dadd (FP.dadd (FP.dadd (0 : UInt64) d1) d2) d3) d4)), .second, .val (.ref a1), .val (.int (4 : Int32)), .val (.int (3 : Int32)), .val (.double d4), .second]) rfl ?_
      show Steps p.tables e below (s₁.setTop (mkF m 29 #[.val (.ref a1), .val (.double (FP.dadd (FP.dadd (FP.dadd (FP.dadd (0 : UInt64) d1) d2) d3) d4)), .second, .val (.ref a1), .val (.int (4 : Int32)), .val (.int (3 : Int32)), .val (.double d4), .second] [])) _
      refine XS.iinc X0.here hx rfl (hb hby d1_29) rfl (l' := #[.val (.ref a1), .val (.double (FP.dadd (FP.dadd (FP.dadd (FP.dadd (0 : UInt64) d1) d2) d3) d4)), .second, .val (.ref a1), .val (.int (4 : Int32)), .val (.int (4 : Int32)), .val (.double d4), .second]) rfl ?_
      show Steps p.tables e below (s₁.setTop (mkF m 32 #[.val (.ref a1), .val (.double (FP.dadd (FP.dadd (FP.dadd (FP.dadd (0 : UInt64) d1) d2) d3) d4)), .second, .val (.ref a1), .val (.int (4 : Int32)), .val (.int (4 : Int32)), .val (.double d4), .second] [])) _
      refine XS.goto X0.here hx rfl (pc0 := 32) (pc' := 11) rfl (hb hby d1_32) (by decide) (by decide) ?_
      show Steps p.tables e below (s₁.setTop (mkF m 11 #[.val (.ref a1), .val (.double (FP.dadd (FP.dadd (FP.dadd (FP.dadd (0 : UInt64) d1) d2) d3) d4)), .second, .val (.ref a1), .val (.int (4 : Int32)), .val (.int (4 : Int32)), .val (.double d4), .second] [])) _
      refine XS.iload X0.here hx rfl (hb hby d1_11) rfl ?_
      show Steps p.tables e below (s₁.setTop (mkF m 13 #[.val (.ref a1), .val (.double (FP.dadd (FP.dadd (FP.dadd (FP.dadd (0 : UInt64) d1) d2) d3) d4)), .second, .val (.ref a1), .val (.int (4 : Int32)), .val (.int (4 : Int32)), .val (.double d4), .second] [(.int (4 : Int32))])) _
      refine XS.iload X0.here hx rfl (hb hby d1_13) rfl ?_
      show Steps p.tables e below (s₁.setTop (mkF m 15 #[.val (.ref a1), .val (.double (FP.dadd (FP.dadd (FP.dadd (FP.dadd (0 : UInt64) d1) d2) d3) d4)), .second, .val (.ref a1), .val (.int (4 : Int32)), .val (.int (4 : Int32)), .val (.double d4), .second] [(.int (4 : Int32)), (.int (4 : Int32))])) _
      refine XS.icmpYes X0.here hx rfl (pc0 := 15) (pc' := 35) rfl (hb hby d1_15) rfl (flt ((by decide) : ¬ ((4 : Int32) < (4 : Int32)))).2.1 (by decide) (by decide) ?_
      show Steps p.tables e below (s₁.setTop (mkF m 35 #[.val (.ref a1), .val (.double (FP.dadd (FP.dadd (FP.dadd (FP.dadd (0 : UInt64) d1) d2) d3) d4)), .second, .val (.ref a1), .val (.int (4 : Int32)), .val (.int (4 : Int32)), .val (.double d4), .second] [])) _
      refine XS.dloadN X0.here hx rfl (hb hby d1_35) rfl ?_
      show Steps p.tables e below (s₁.setTop (mkF m 36 #[.val (.ref a1), .val (.double (FP.dadd (FP.dadd (FP.dadd (FP.dadd (0 : UInt64) d1) d2) d3) d4)), .second, .val (.ref a1), .val (.int (4 : Int32)), .val (.int (4 : Int32)), .val (.double d4), .second] [(.double (FP.dadd (FP.dadd (FP.dadd (FP.dadd (0 : UInt64) d1) d2) d3) d4))])) _
      refine XS.aloadN X0.here hx rfl (hb hby d1_36) rfl rfl ?_
      show Steps p.tables e below (s₁.setTop (mkF m 37 #[.val (.ref a1), .val (.double (FP.dadd (FP.dadd (FP.dadd (FP.dadd (0 : UInt64) d1) d2) d3) d4)), .second, .val (.ref a1), .val (.int (4 : Int32)), .val (.int (4 : Int32)), .val (.double d4), .second] [(.ref a1), (.double (FP.dadd (FP.dadd (FP.dadd (FP.dadd (0 : UInt64) d1) d2) d3) d4))])) _
      refine X0.arraylength hx (cell := cl14) (by rw [e0]; exact Ar14.1) (State.isArrayOf_alike hZ.alike Ar14.2.1) (g := (mkF m 37 #[.val (.ref a1), .val (.double (FP.dadd (FP.dadd (FP.dadd (FP.dadd (0 : UInt64) d1) d2) d3) d4)), .second, .val (.ref a1), .val (.int (4 : Int32)), .val (.int (4 : Int32)), .val (.double d4), .second] [(.ref a1), (.double (FP.dadd (FP.dadd (FP.dadd (FP.dadd (0 : UInt64) d1) d2) d3) d4))])) rfl rfl (hb hby d1_37) _ ?_
      rw [len_of S14 M14]
      show Steps p.tables e below (s₁.setTop (mkF m 38 #[.val (.ref a1), .val (.double (FP.dadd (FP.dadd (FP.dadd (FP.dadd (0 : UInt64) d1) d2) d3) d4)), .second, .val (.ref a1), .val (.int (4 : Int32)), .val (.int (4 : Int32)), .val (.double d4), .second] [(.int (4 : Int32)), (.double (FP.dadd (FP.dadd (FP.dadd (FP.dadd (0 : UInt64) d1) d2) d3) d4))])) _
      refine XS.i2dS X0.here hx rfl (hb hby d1_38) rfl (v := (FP.i2d (4 : Int32))) rfl ?_
      show Steps p.tables e below (s₁.setTop (mkF m 39 #[.val (.ref a1), .val (.double (FP.dadd (FP.dadd (FP.dadd (FP.dadd (0 : UInt64) d1) d2) d3) d4)), .second, .val (.ref a1), .val (.int (4 : Int32)), .val (.int (4 : Int32)), .val (.double d4), .second] [(.double (FP.i2d (4 : Int32))), (.double (FP.dadd (FP.dadd (FP.dadd (FP.dadd (0 : UInt64) d1) d2) d3) d4))])) _
      refine XS.ddivS X0.here hx rfl (hb hby d1_39) rfl q (v := (FP.ddiv (FP.dadd (FP.dadd (FP.dadd (FP.dadd (0 : UInt64) d1) d2) d3) d4) (FP.i2d (4 : Int32)))) rfl ?_
      exact kt)
  obtain ⟨fs, hr, hrun, hended, hW, hsame⟩ := X0.leave (v := some (.double (FP.ddiv (FP.dadd (FP.dadd (FP.dadd (FP.dadd (0 : UInt64) d1) d2) d3) d4) (FP.i2d (4 : Int32))))) (fun h => by rw [Bd.returns] at h; cases h)
  refine ⟨_, _, pre15 _ ?_, hrun, hended, _, _, rfl, ?_, ⟨_, rfl⟩, hW, hsame.mono (by decide) (by decide)⟩
  · show Steps p.tables e below (s₁.setTop (mkF m 40 #[.val (.ref a1), .val (.double (FP.dadd (FP.dadd (FP.dadd (FP.dadd (0 : UInt64) d1) d2) d3) d4)), .second, .val (.ref a1), .val (.int (4 : Int32)), .val (.int (4 : Int32)), .val (.double d4), .second] [(.double (FP.ddiv (FP.dadd (FP.dadd (FP.dadd (FP.dadd (0 : UInt64) d1) d2) d3) d4) (FP.i2d (4 : Int32))))])) _
    exact own_retD X0 hx Bd.returns (hb hby d1_40) hr
  · show Qmean4 Z a1 d1 d2 d3 d4 kk h0 n0 _ s₁.heap _
    rw [e0]
    exact ⟨rfl, N0, rfl⟩
theorem ef_0 (m : MethodId) (p1 : Int32) (p2 : Int32) (p3 : Int32) (p4 : Int32) (p5 : Int32) : entryFrame m #[(.int p1), (.int p2), (.int p3), (.int p4), (.int p5)] maxLocals = mkF m 0 #[.val (.int p1), .val (.int p2), .val (.int p3), .val (.int p4), .val (.int p5), .unset, .unset, .unset, .unset, .unset, .unset] [] := by first | (simp [entryFrame, mkF, argsToLocals, Value.category, maxLocals]; done) | rfl
theorem pd__28_5bD_29D : parseMethodDescriptor "([D)D" = some ⟨[(.array .double)], some .double⟩ := by decide +kernel
theorem pn_com_example_heft_heft_rank_ScopeMeanPinLaw : plainName "com/example/heft/heft/rank/ScopeMeanPinLaw" = true := by first | (simp [plainName, overriddenIn]; done) | decide +kernel
def Q0 (Z : State) (p1 : Int32) (p2 : Int32) (p3 : Int32) (p4 : Int32) (p5 : Int32) (h0 : Heap) (n0 : Nat) (v : Option Value) (h : Heap) (L : List Loc) : Prop := v = some (.int (1 : Int32)) ∧ Fr n0 L
set_option maxRecDepth 65536 in
set_option maxHeartbeats 40000000 in
theorem rm0 (l : Launch) (Z : State) (a0 : Array Value) (hw : ∀ d ∈ tables_1, d.before a0 Z = true) (ws : List Jvm.Cond) (p1 : Int32) (p2 : Int32) (p3 : Int32) (p4 : Int32) (p5 : Int32) (h0 : Heap) (n0 : Nat) (Z0 : n0 ≤ h0.size) :
    MetFree l x (head1 (Jvm.Cond.code x code maxLocals ret :: ws) room_1) (fun a U => a = #[(.int p1), (.int p2), (.int p3), (.int p4), (.int p5)] ∧ Z.Warmed39 U.vm ∧ U.heap = h0) (fun _ _ _ _ _ => True) (fun _ U o U' => ∃ v L, o = .returned v ∧ Q0 Z p1 p2 p3 p4 p5 h0 n0 v U'.heap L ∧ FrameEnd U o U' L 16 128) := by
  refine MetFree.of_bodySF (plainFor_of_name pn_com_example_heft_heft_rank_ScopeMeanPinLaw) hisR ?_
  intro p e s m args below meth c s₁ Bd hml0 hP hK
  obtain ⟨rfl, hZ, hh⟩ := hP
  have hx := Bd.exec
  have hby := Bd.bytes
  have hml : c.maxLocals = 11 := hml0
  have hown : s.vm.findClass "com/example/heft/heft/rank/ScopeMeanPinLaw" = some m.cls := findClass_of_methodNamed Bd.named
  have hnm := (name_of_methodNamed Bd.named Bd.method).1
  have X0 : Stand p l e room_1 s m #[(.int p1), (.int p2), (.int p3), (.int p4), (.int p5)] below meth c s₁ [] 0 0 := Stand.of_body Bd
  have e0 : s₁.heap = h0 := by rw [← hh, Bd.state]; rfl
  have N0 := Fr.nil n0
  have pre0 : ∀ t, Steps p.tables e below (s₁.setTop (mkF m 0 #[.val (.int p1), .val (.int p2), .val (.int p3), .val (.int p4), .val (.int p5), .unset, .unset, .unset, .unset, .unset, .unset] [])) t → Steps p.tables e below (s₁.setTop (entryFrame m #[(.int p1), (.int p2), (.int p3), (.int p4), (.int p5)] maxLocals)) t := fun t k => castTop (ef_0 m p1 p2 p3 p4 p5) k
  rcases own_k4 p1 with hk | hk | hk | hk
  · skip
    have r2 := rng32 p2; have r3 := rng32 p3; have r4 := rng32 p4; have r5 := rng32 p5
    have c2 := c_i2l p2; have c3 := c_i2l p3; have c4 := c_i2l p4; have c5 := c_i2l p5
    have es : (p2.toInt64 : Int64).toInt = p2.toInt := by omega
    have hl := own_l (v := p2.toInt64) (by omega)
    rw [es] at hl
    have i0 := own_z0
    have i1 := own_add i0 (own_q p2) (by omega)
    have ie : (0 + p2.toInt : Int) = p2.toInt := by omega
    rw [ie] at i1
    obtain ⟨T1, h1, k1, X1, e1, E1, A1, st1⟩ := newP X0 hx hZ (hw _ (List.mem_of_getElem? (i := 0) rfl)) e0 (g := (mkF m 9 #[.val (.int p1), .val (.int p2), .val (.int p3), .val (.int p4), .val (.int p5), .val (.int (1 : Int32)), .unset, .unset, .unset, .unset, .unset] [(.int (1 : Int32))])) rfl (hb hby at_9) rfl (by decide) (cap := 1) (by decide) (by decide) (by decide) (by decide)
    obtain ⟨b1, g1⟩ : ∃ z, z = h0.size := ⟨_, rfl⟩
    rw [← g1] at A1 st1
    have g_b1 : n0 ≤ b1 := Nat.le_trans Z0 (Nat.le_of_eq g1.symm)
    have z2 : n0 ≤ h1.size := Nat.le_trans Z0 E1.1
    have V1 : Arv Z h1 b1 k1 .double (1 : Int32) [(.double (0 : UInt64))] (.double (0 : UInt64)) := (Arv.new A1 (by decide)).pad (pad_rep [] (.double (0 : UInt64)) 1)
    obtain ⟨cl3, Ar3, Q3, S3, M3, H3, G3⟩ := id V1
    have in4 : ¬ ((0 : Int32) < 0 ∨ cl3.slots.size ≤ ((0 : Int32)).toNatClampNeg) := inb_of S3 ⟨by decide, by decide⟩
    obtain ⟨T5, h5, X5, e5, W5, st5⟩ := stD X1 hx hZ e1 Ar3 (j := (0 : Int32)) in4 (g := (mkF m 22 #[.val (.int p1), .val (.int p2), .val (.int p3), .val (.int p4), .val (.int p5), .val (.int (1 : Int32)), .val (.ref b1), .unset, .unset, .unset, .unset] [(.double (FP.ddiv (FP.i2d p2) (4616189618054758400 : UInt64))), (.int (0 : Int32)), (.ref b1)])) rfl rfl (hb hby at_22)
    have z6 : n0 ≤ h5.size := Nat.le_trans z2 (Keep.of_wr W5).1
    have V5 : Arv Z h5 b1 k1 .double (1 : Int32) [(.double (FP.ddiv (FP.i2d p2) (4616189618054758400 : UInt64)))] (.double (0 : UInt64)) := Arv.set Ar3 Q3 S3 M3 H3 G3 rfl W5 0 rfl (Nat.le_of_ble_eq_true rfl)
    have N5 : Fr n0 _ := Fr.snoc X5 N0 g_b1
    obtain ⟨_, _, ⟨T7, L7, kk7, nn7⟩, -, X7, ⟨Lc7, hQ7, l7, y7, z7⟩, st7⟩ := Jvm.LawKit.callS X5 hx (y := (⟨"com/example/heft/heft/rank/Scope", "mean", "([D)D"⟩ : MethodName)) hown (mvT hZ (hw _ (List.mem_of_getElem? (i := 2) rfl))) (mvT hZ (hw _ (List.mem_of_getElem? (i := 3) rfl))) (mvT hZ (hw _ (List.mem_of_getElem? (i := 4) rfl))) (mvT hZ (hw _ (List.mem_of_getElem? (i := 5) rfl))) (by decide) (backOf (W := 0) (rmmean1 l Z a0 hw [] b1 (FP.ddiv (FP.i2d p2) (4616189618054758400 : UInt64)) k1 h5 n0 z6 V5 (i1.nn) (OwnFP.div_nn i1.1 (Fl.i2d_fin _) (own_kz (by decide)))) hZ (hw _ (List.mem_of_getElem? (i := 5) rfl)) (hw _ (List.mem_of_getElem? (i := 4) rfl)) (by decide) (by decide)) (g := (mkF m 113 #[.val (.int p1), .val (.int p2), .val (.int p3), .val (.int p4), .val (.int p5), .val (.int (1 : Int32)), .val (.ref b1), .val (.long (p2.toInt64)), .second, .val (.double (FP.ddiv (FP.ddiv (FP.l2d (p2.toInt64)) (4616189618054758400 : UInt64)) (FP.i2d (1 : Int32)))), .second] [(.ref b1)])) rfl (by rw [hml]; rfl) (argsL := [(.ref b1)]) (rest := []) (lenOf pd__28_5bD_29D rfl) rfl (by show 2 * 0 + _ ≤ _; exact Nat.le_of_eq rfl) (hb hby at_113) (fun _ _ => ⟨rfl, e5, (by decide : 1 + 0 ≤ _), (by decide : 1 + 0 ≤ _)⟩)
    dsimp only [Pt.U, Pt.locs, Pt.cells, Pt.slots] at X7 l7 y7 z7 st7 hQ7
    subst l7 y7 z7
    obtain ⟨rfl, N7q, e7⟩ := hQ7
    have N7 := Fr.app N5 N7q
    have pre8 : ∀ t, Steps p.tables e below (T7.setTop (mkF m 127 #[.val (.int p1), .val (.int p2), .val (.int p3), .val (.int p4), .val (.int p5), .val (.int (1 : Int32)), .val (.ref b1), .val (.long (p2.toInt64)), .second, .val (.double (FP.ddiv (FP.ddiv (FP.l2d (p2.toInt64)) (4616189618054758400 : UInt64)) (FP.i2d (1 : Int32)))), .second] [(.int (1 : Int32))])) t → Steps p.tables e below (s₁.setTop (entryFrame m #[(.int p1), (.int p2), (.int p3), (.int p4), (.int p5)] maxLocals)) t := fun t kt => pre0 t (by
        show Steps p.tables e below (s₁.setTop (mkF m 0 #[.val (.int p1), .val (.int p2), .val (.int p3), .val (.int p4), .val (.int p5), .unset, .unset, .unset, .unset, .unset, .unset] [])) _
        refine XS.iconst X0.here hx rfl (hb hby at_0) ?_
        show Steps p.tables e below (s₁.setTop (mkF m 1 #[.val (.int p1), .val (.int p2), .val (.int p3), .val (.int p4), .val (.int p5), .unset, .unset, .unset, .unset, .unset, .unset] [(.int (1 : Int32))])) _
        refine XS.iloadN X0.here hx rfl (hb hby at_1) rfl ?_
        show Steps p.tables e below (s₁.setTop (mkF m 2 #[.val (.int p1), .val (.int p2), .val (.int p3), .val (.int p4), .val (.int p5), .unset, .unset, .unset, .unset, .unset, .unset] [(.int p1), (.int (1 : Int32))])) _
        refine XS.iconst X0.here hx rfl (hb hby at_2) ?_
        show Steps p.tables e below (s₁.setTop (mkF m 3 #[.val (.int p1), .val (.int p2), .val (.int p3), .val (.int p4), .val (.int p5), .unset, .unset, .unset, .unset, .unset, .unset] [(.int (3 : Int32)), (.int p1), (.int (1 : Int32))])) _
        refine XS.iand X0.here hx rfl (hb hby at_3) rfl ?_
        show Steps p.tables e below (s₁.setTop (mkF m 4 #[.val (.int p1), .val (.int p2), .val (.int p3), .val (.int p4), .val (.int p5), .unset, .unset, .unset, .unset, .unset, .unset] [(.int (p1 &&& (3 : Int32))), (.int (1 : Int32))])) _
        refine XS.iadd X0.here hx rfl (hb hby at_4) rfl ?_
        show Steps p.tables e below (s₁.setTop (mkF m 5 #[.val (.int p1), .val (.int p2), .val (.int p3), .val (.int p4), .val (.int p5), .unset, .unset, .unset, .unset, .unset, .unset] [(.int ((1 : Int32) + (p1 &&& (3 : Int32))))])) _
        rw [hk]
        show Steps p.tables e below (s₁.setTop (mkF m 5 #[.val (.int p1), .val (.int p2), .val (.int p3), .val (.int p4), .val (.int p5), .unset, .unset, .unset, .unset, .unset, .unset] [(.int (1 : Int32))])) _
        refine XS.istore X0.here hx rfl (hb hby at_5) rfl (l' := #[.val (.int p1), .val (.int p2), .val (.int p3), .val (.int p4), .val (.int p5), .val (.int (1 : Int32)), .unset, .unset, .unset, .unset, .unset]) rfl ?_
        show Steps p.tables e below (s₁.setTop (mkF m 7 #[.val (.int p1), .val (.int p2), .val (.int p3), .val (.int p4), .val (.int p5), .val (.int (1 : Int32)), .unset, .unset, .unset, .unset, .unset] [])) _
        refine XS.iload X0.here hx rfl (hb hby at_7) rfl ?_
        show Steps p.tables e below (s₁.setTop (mkF m 9 #[.val (.int p1), .val (.int p2), .val (.int p3), .val (.int p4), .val (.int p5), .val (.int (1 : Int32)), .unset, .unset, .unset, .unset, .unset] [(.int (1 : Int32))])) _
        refine st1 _ ?_
        show Steps p.tables e below (T1.setTop (mkF m 11 #[.val (.int p1), .val (.int p2), .val (.int p3), .val (.int p4), .val (.int p5), .val (.int (1 : Int32)), .unset, .unset, .unset, .unset, .unset] [(.ref b1)])) _
        refine XS.astore X1.here hx rfl (hb hby at_11) rfl rfl (l' := #[.val (.int p1), .val (.int p2), .val (.int p3), .val (.int p4), .val (.int p5), .val (.int (1 : Int32)), .val (.ref b1), .unset, .unset, .unset, .unset]) rfl ?_
        show Steps p.tables e below (T1.setTop (mkF m 13 #[.val (.int p1), .val (.int p2), .val (.int p3), .val (.int p4), .val (.int p5), .val (.int (1 : Int32)), .val (.ref b1), .unset, .unset, .unset, .unset] [])) _
        refine XS.aload X1.here hx rfl (hb hby at_13) rfl rfl ?_
        show Steps p.tables e below (T1.setTop (mkF m 15 #[.val (.int p1), .val (.int p2), .val (.int p3), .val (.int p4), .val (.int p5), .val (.int (1 : Int32)), .val (.ref b1), .unset, .unset, .unset, .unset] [(.ref b1)])) _
        refine XS.iconst X1.here hx rfl (hb hby at_15) ?_
        show Steps p.tables e below (T1.setTop (mkF m 16 #[.val (.int p1), .val (.int p2), .val (.int p3), .val (.int p4), .val (.int p5), .val (.int (1 : Int32)), .val (.ref b1), .unset, .unset, .unset, .unset] [(.int (0 : Int32)), (.ref b1)])) _
        refine XS.iloadN X1.here hx rfl (hb hby at_16) rfl ?_
        show Steps p.tables e below (T1.setTop (mkF m 17 #[.val (.int p1), .val (.int p2), .val (.int p3), .val (.int p4), .val (.int p5), .val (.int (1 : Int32)), .val (.ref b1), .unset, .unset, .unset, .unset] [(.int p2), (.int (0 : Int32)), (.ref b1)])) _
        refine XS.i2dS X1.here hx rfl (hb hby at_17) rfl (v := (FP.i2d p2)) rfl ?_
        show Steps p.tables e below (T1.setTop (mkF m 18 #[.val (.int p1), .val (.int p2), .val (.int p3), .val (.int p4), .val (.int p5), .val (.int (1 : Int32)), .val (.ref b1), .unset, .unset, .unset, .unset] [(.double (FP.i2d p2)), (.int (0 : Int32)), (.ref b1)])) _
        refine X1.ldc2DoubleC hx hown (mvT hZ (hw _ (List.mem_of_getElem? (i := 1) rfl))) (g := (mkF m 18 #[.val (.int p1), .val (.int p2), .val (.int p3), .val (.int p4), .val (.int p5), .val (.int (1 : Int32)), .val (.ref b1), .unset, .unset, .unset, .unset] [(.double (FP.i2d p2)), (.int (0 : Int32)), (.ref b1)])) rfl (hb hby at_18) _ ?_
        show Steps p.tables e below (T1.setTop (mkF m 21 #[.val (.int p1), .val (.int p2), .val (.int p3), .val (.int p4), .val (.int p5), .val (.int (1 : Int32)), .val (.ref b1), .unset, .unset, .unset, .unset] [(.double (4616189618054758400 : UInt64)), (.double (FP.i2d p2)), (.int (0 : Int32)), (.ref b1)])) _
        refine XS.ddivS X1.here hx rfl (hb hby at_21) rfl (own_q p2).nn (v := (FP.ddiv (FP.i2d p2) (4616189618054758400 : UInt64))) rfl ?_
        show Steps p.tables e below (T1.setTop (mkF m 22 #[.val (.int p1), .val (.int p2), .val (.int p3), .val (.int p4), .val (.int p5), .val (.int (1 : Int32)), .val (.ref b1), .unset, .unset, .unset, .unset] [(.double (FP.ddiv (FP.i2d p2) (4616189618054758400 : UInt64))), (.int (0 : Int32)), (.ref b1)])) _
        refine st5 _ ?_
        show Steps p.tables e below (T5.setTop (mkF m 23 #[.val (.int p1), .val (.int p2), .val (.int p3), .val (.int p4), .val (.int p5), .val (.int (1 : Int32)), .val (.ref b1), .unset, .unset, .unset, .unset] [])) _
        refine XS.iloadN X5.here hx rfl (hb hby at_23) rfl ?_
        show Steps p.tables e below (T5.setTop (mkF m 24 #[.val (.int p1), .val (.int p2), .val (.int p3), .val (.int p4), .val (.int p5), .val (.int (1 : Int32)), .val (.ref b1), .unset, .unset, .unset, .unset] [(.int p2)])) _
        refine XS.i2l X5.here hx rfl (hb hby at_24) rfl ?_
        show Steps p.tables e below (T5.setTop (mkF m 25 #[.val (.int p1), .val (.int p2), .val (.int p3), .val (.int p4), .val (.int p5), .val (.int (1 : Int32)), .val (.ref b1), .unset, .unset, .unset, .unset] [(.long (p2.toInt64))])) _
        refine XS.lstore X5.here hx rfl (hb hby at_25) rfl (l' := #[.val (.int p1), .val (.int p2), .val (.int p3), .val (.int p4), .val (.int p5), .val (.int (1 : Int32)), .val (.ref b1), .val (.long (p2.toInt64)), .second, .unset, .unset]) rfl ?_
        show Steps p.tables e below (T5.setTop (mkF m 27 #[.val (.int p1), .val (.int p2), .val (.int p3), .val (.int p4), .val (.int p5), .val (.int (1 : Int32)), .val (.ref b1), .val (.long (p2.toInt64)), .second, .unset, .unset] [])) _
        refine XS.iload X5.here hx rfl (hb hby at_27) rfl ?_
        show Steps p.tables e below (T5.setTop (mkF m 29 #[.val (.int p1), .val (.int p2), .val (.int p3), .val (.int p4), .val (.int p5), .val (.int (1 : Int32)), .val (.ref b1), .val (.long (p2.toInt64)), .second, .unset, .unset] [(.int (1 : Int32))])) _
        refine XS.iconst X5.here hx rfl (hb hby at_29) ?_
        show Steps p.tables e below (T5.setTop (mkF m 30 #[.val (.int p1), .val (.int p2), .val (.int p3), .val (.int p4), .val (.int p5), .val (.int (1 : Int32)), .val (.ref b1), .val (.long (p2.toInt64)), .second, .unset, .unset] [(.int (1 : Int32)), (.int (1 : Int32))])) _
        refine XS.icmpYes X5.here hx rfl (pc0 := 30) (pc' := 50) rfl (hb hby at_30) rfl (flt ((by decide) : ¬ ((1 : Int32) < (1 : Int32)))).2.2.2 (by decide) (by decide) ?_
        show Steps p.tables e below (T5.setTop (mkF m 50 #[.val (.int p1), .val (.int p2), .val (.int p3), .val (.int p4), .val (.int p5), .val (.int (1 : Int32)), .val (.ref b1), .val (.long (p2.toInt64)), .second, .unset, .unset] [])) _
        refine XS.iload X5.here hx rfl (hb hby at_50) rfl ?_
        show Steps p.tables e below (T5.setTop (mkF m 52 #[.val (.int p1), .val (.int p2), .val (.int p3), .val (.int p4), .val (.int p5), .val (.int (1 : Int32)), .val (.ref b1), .val (.long (p2.toInt64)), .second, .unset, .unset] [(.int (1 : Int32))])) _
        refine XS.iconst X5.here hx rfl (hb hby at_52) ?_
        show Steps p.tables e below (T5.setTop (mkF m 53 #[.val (.int p1), .val (.int p2), .val (.int p3), .val (.int p4), .val (.int p5), .val (.int (1 : Int32)), .val (.ref b1), .val (.long (p2.toInt64)), .second, .unset, .unset] [(.int (2 : Int32)), (.int (1 : Int32))])) _
        refine XS.icmpYes X5.here hx rfl (pc0 := 53) (pc' := 73) rfl (hb hby at_53) rfl (flt ((by decide) : ¬ ((2 : Int32) < (1 : Int32)))).2.2.2 (by decide) (by decide) ?_
        show Steps p.tables e below (T5.setTop (mkF m 73 #[.val (.int p1), .val (.int p2), .val (.int p3), .val (.int p4), .val (.int p5), .val (.int (1 : Int32)), .val (.ref b1), .val (.long (p2.toInt64)), .second, .unset, .unset] [])) _
        refine XS.iload X5.here hx rfl (hb hby at_73) rfl ?_
        show Steps p.tables e below (T5.setTop (mkF m 75 #[.val (.int p1), .val (.int p2), .val (.int p3), .val (.int p4), .val (.int p5), .val (.int (1 : Int32)), .val (.ref b1), .val (.long (p2.toInt64)), .second, .unset, .unset] [(.int (1 : Int32))])) _
        refine XS.iconst X5.here hx rfl (hb hby at_75) ?_
        show Steps p.tables e below (T5.setTop (mkF m 76 #[.val (.int p1), .val (.int p2), .val (.int p3), .val (.int p4), .val (.int p5), .val (.int (1 : Int32)), .val (.ref b1), .val (.long (p2.toInt64)), .second, .unset, .unset] [(.int (3 : Int32)), (.int (1 : Int32))])) _
        refine XS.icmpYes X5.here hx rfl (pc0 := 76) (pc' := 98) rfl (hb hby at_76) rfl (flt ((by decide) : ¬ ((3 : Int32) < (1 : Int32)))).2.2.2 (by decide) (by decide) ?_
        show Steps p.tables e below (T5.setTop (mkF m 98 #[.val (.int p1), .val (.int p2), .val (.int p3), .val (.int p4), .val (.int p5), .val (.int (1 : Int32)), .val (.ref b1), .val (.long (p2.toInt64)), .second, .unset, .unset] [])) _
        refine XS.lload X5.here hx rfl (hb hby at_98) rfl ?_
        show Steps p.tables e below (T5.setTop (mkF m 100 #[.val (.int p1), .val (.int p2), .val (.int p3), .val (.int p4), .val (.int p5), .val (.int (1 : Int32)), .val (.ref b1), .val (.long (p2.toInt64)), .second, .unset, .unset] [(.long (p2.toInt64))])) _
        refine XS.l2dS X5.here hx rfl (hb hby at_100) rfl (v := (FP.l2d (p2.toInt64))) rfl ?_
        show Steps p.tables e below (T5.setTop (mkF m 101 #[.val (.int p1), .val (.int p2), .val (.int p3), .val (.int p4), .val (.int p5), .val (.int (1 : Int32)), .val (.ref b1), .val (.long (p2.toInt64)), .second, .unset, .unset] [(.double (FP.l2d (p2.toInt64)))])) _
        refine X5.ldc2DoubleC hx hown (mvT hZ (hw _ (List.mem_of_getElem? (i := 1) rfl))) (g := (mkF m 101 #[.val (.int p1), .val (.int p2), .val (.int p3), .val (.int p4), .val (.int p5), .val (.int (1 : Int32)), .val (.ref b1), .val (.long (p2.toInt64)), .second, .unset, .unset] [(.double (FP.l2d (p2.toInt64)))])) rfl (hb hby at_101) _ ?_
        show Steps p.tables e below (T5.setTop (mkF m 104 #[.val (.int p1), .val (.int p2), .val (.int p3), .val (.int p4), .val (.int p5), .val (.int (1 : Int32)), .val (.ref b1), .val (.long (p2.toInt64)), .second, .unset, .unset] [(.double (4616189618054758400 : UInt64)), (.double (FP.l2d (p2.toInt64)))])) _
        refine XS.ddivS X5.here hx rfl (hb hby at_104) rfl hl.nn (v := (FP.ddiv (FP.l2d (p2.toInt64)) (4616189618054758400 : UInt64))) rfl ?_
        show Steps p.tables e below (T5.setTop (mkF m 105 #[.val (.int p1), .val (.int p2), .val (.int p3), .val (.int p4), .val (.int p5), .val (.int (1 : Int32)), .val (.ref b1), .val (.long (p2.toInt64)), .second, .unset, .unset] [(.double (FP.ddiv (FP.l2d (p2.toInt64)) (4616189618054758400 : UInt64)))])) _
        refine XS.iload X5.here hx rfl (hb hby at_105) rfl ?_
        show Steps p.tables e below (T5.setTop (mkF m 107 #[.val (.int p1), .val (.int p2), .val (.int p3), .val (.int p4), .val (.int p5), .val (.int (1 : Int32)), .val (.ref b1), .val (.long (p2.toInt64)), .second, .unset, .unset] [(.int (1 : Int32)), (.double (FP.ddiv (FP.l2d (p2.toInt64)) (4616189618054758400 : UInt64)))])) _
        refine XS.i2dS X5.here hx rfl (hb hby at_107) rfl (v := (FP.i2d (1 : Int32))) rfl ?_
        show Steps p.tables e below (T5.setTop (mkF m 108 #[.val (.int p1), .val (.int p2), .val (.int p3), .val (.int p4), .val (.int p5), .val (.int (1 : Int32)), .val (.ref b1), .val (.long (p2.toInt64)), .second, .unset, .unset] [(.double (FP.i2d (1 : Int32))), (.double (FP.ddiv (FP.l2d (p2.toInt64)) (4616189618054758400 : UInt64)))])) _
        refine XS.ddivS X5.here hx rfl (hb hby at_108) rfl (OwnFP.div_nn hl.1 (Fl.i2d_fin _) (own_kz (by decide))) (v := (FP.ddiv (FP.ddiv (FP.l2d (p2.toInt64)) (4616189618054758400 : UInt64)) (FP.i2d (1 : Int32)))) rfl ?_
        show Steps p.tables e below (T5.setTop (mkF m 109 #[.val (.int p1), .val (.int p2), .val (.int p3), .val (.int p4), .val (.int p5), .val (.int (1 : Int32)), .val (.ref b1), .val (.long (p2.toInt64)), .second, .unset, .unset] [(.double (FP.ddiv (FP.ddiv (FP.l2d (p2.toInt64)) (4616189618054758400 : UInt64)) (FP.i2d (1 : Int32))))])) _
        refine XS.dstore X5.here hx rfl (hb hby at_109) rfl (l' := #[.val (.int p1), .val (.int p2), .val (.int p3), .val (.int p4), .val (.int p5), .val (.int (1 : Int32)), .val (.ref b1), .val (.long (p2.toInt64)), .second, .val (.double (FP.ddiv (FP.ddiv (FP.l2d (p2.toInt64)) (4616189618054758400 : UInt64)) (FP.i2d (1 : Int32)))), .second]) rfl ?_
        show Steps p.tables e below (T5.setTop (mkF m 111 #[.val (.int p1), .val (.int p2), .val (.int p3), .val (.int p4), .val (.int p5), .val (.int (1 : Int32)), .val (.ref b1), .val (.long (p2.toInt64)), .second, .val (.double (FP.ddiv (FP.ddiv (FP.l2d (p2.toInt64)) (4616189618054758400 : UInt64)) (FP.i2d (1 : Int32)))), .second] [])) _
        refine XS.aload X5.here hx rfl (hb hby at_111) rfl rfl ?_
        show Steps p.tables e below (T5.setTop (mkF m 113 #[.val (.int p1), .val (.int p2), .val (.int p3), .val (.int p4), .val (.int p5), .val (.int (1 : Int32)), .val (.ref b1), .val (.long (p2.toInt64)), .second, .val (.double (FP.ddiv (FP.ddiv (FP.l2d (p2.toInt64)) (4616189618054758400 : UInt64)) (FP.i2d (1 : Int32)))), .second] [(.ref b1)])) _
        refine st7 _ ?_
        show Steps p.tables e below (T7.setTop (mkF m 116 #[.val (.int p1), .val (.int p2), .val (.int p3), .val (.int p4), .val (.int p5), .val (.int (1 : Int32)), .val (.ref b1), .val (.long (p2.toInt64)), .second, .val (.double (FP.ddiv (FP.ddiv (FP.l2d (p2.toInt64)) (4616189618054758400 : UInt64)) (FP.i2d (1 : Int32)))), .second] [(.double (FP.ddiv (FP.dadd (0 : UInt64) (FP.ddiv (FP.i2d p2) (4616189618054758400 : UInt64))) (FP.i2d (1 : Int32))))])) _
        refine XS.dload X7.here hx rfl (hb hby at_116) rfl ?_
        show Steps p.tables e below (T7.setTop (mkF m 118 #[.val (.int p1), .val (.int p2), .val (.int p3), .val (.int p4), .val (.int p5), .val (.int (1 : Int32)), .val (.ref b1), .val (.long (p2.toInt64)), .second, .val (.double (FP.ddiv (FP.ddiv (FP.l2d (p2.toInt64)) (4616189618054758400 : UInt64)) (FP.i2d (1 : Int32)))), .second] [(.double (FP.ddiv (FP.ddiv (FP.l2d (p2.toInt64)) (4616189618054758400 : UInt64)) (FP.i2d (1 : Int32)))), (.double (FP.ddiv (FP.dadd (0 : UInt64) (FP.ddiv (FP.i2d p2) (4616189618054758400 : UInt64))) (FP.i2d (1 : Int32))))])) _
        refine XS.dcmpS X7.here hx rfl (hb hby at_118) rfl (v := (0 : Int32)) (own_end i1 hl (by decide)) ?_
        show Steps p.tables e below (T7.setTop (mkF m 119 #[.val (.int p1), .val (.int p2), .val (.int p3), .val (.int p4), .val (.int p5), .val (.int (1 : Int32)), .val (.ref b1), .val (.long (p2.toInt64)), .second, .val (.double (FP.ddiv (FP.ddiv (FP.l2d (p2.toInt64)) (4616189618054758400 : UInt64)) (FP.i2d (1 : Int32)))), .second] [(.int (0 : Int32))])) _
        refine XS.ifNo X7.here hx rfl (hb hby at_119) rfl ((if0 _ _).trans (teq ((by decide) : (0 : Int32) = (0 : Int32))).2) ?_
        show Steps p.tables e below (T7.setTop (mkF m 122 #[.val (.int p1), .val (.int p2), .val (.int p3), .val (.int p4), .val (.int p5), .val (.int (1 : Int32)), .val (.ref b1), .val (.long (p2.toInt64)), .second, .val (.double (FP.ddiv (FP.ddiv (FP.l2d (p2.toInt64)) (4616189618054758400 : UInt64)) (FP.i2d (1 : Int32)))), .second] [])) _
        refine XS.iconst X7.here hx rfl (hb hby at_122) ?_
        show Steps p.tables e below (T7.setTop (mkF m 123 #[.val (.int p1), .val (.int p2), .val (.int p3), .val (.int p4), .val (.int p5), .val (.int (1 : Int32)), .val (.ref b1), .val (.long (p2.toInt64)), .second, .val (.double (FP.ddiv (FP.ddiv (FP.l2d (p2.toInt64)) (4616189618054758400 : UInt64)) (FP.i2d (1 : Int32)))), .second] [(.int (1 : Int32))])) _
        refine XS.goto X7.here hx rfl (pc0 := 123) (pc' := 127) rfl (hb hby at_123) (by decide) (by decide) ?_
        exact kt)
    obtain ⟨fs, hr, hrun, hended, hW, hsame⟩ := X7.leave (v := some (.int (1 : Int32))) (fun h => by rw [Bd.returns] at h; cases h)
    refine ⟨_, _, pre8 _ ?_, hrun, hended, _, _, rfl, ?_, ⟨_, rfl⟩, hW, hsame.mono (by decide) (by decide)⟩
    · show Steps p.tables e below (T7.setTop (mkF m 127 #[.val (.int p1), .val (.int p2), .val (.int p3), .val (.int p4), .val (.int p5), .val (.int (1 : Int32)), .val (.ref b1), .val (.long (p2.toInt64)), .second, .val (.double (FP.ddiv (FP.ddiv (FP.l2d (p2.toInt64)) (4616189618054758400 : UInt64)) (FP.i2d (1 : Int32)))), .second] [(.int (1 : Int32))])) _
      exact retN X7 hx (t := .boolean) Bd.returns (by simp) (hb hby at_127) hr
    · show Q0 Z p1 p2 p3 p4 p5 h0 n0 _ T7.heap _
      rw [e7]
      exact ⟨rfl, N7⟩
  · skip
    have r2 := rng32 p2; have r3 := rng32 p3; have r4 := rng32 p4; have r5 := rng32 p5
    have c2 := c_i2l p2; have c3 := c_i2l p3; have c4 := c_i2l p4; have c5 := c_i2l p5
    have ad1 := c_ladd p2.toInt64 p3.toInt64; have rl1 := rng64 (p2.toInt64 + p3.toInt64)
    have es : ((p2.toInt64 + p3.toInt64) : Int64).toInt = p2.toInt + p3.toInt := by omega
    have hl := own_l (v := (p2.toInt64 + p3.toInt64)) (by omega)
    rw [es] at hl
    have i0 := own_z0
    have i1 := own_add i0 (own_q p2) (by omega)
    have i2 := own_add i1 (own_q p3) (by omega)
    have ie : (0 + p2.toInt + p3.toInt : Int) = p2.toInt + p3.toInt := by omega
    rw [ie] at i2
    obtain ⟨T9, h9, k9, X9, e9, E9, A9, st9⟩ := newP X0 hx hZ (hw _ (List.mem_of_getElem? (i := 0) rfl)) e0 (g := (mkF m 9 #[.val (.int p1), .val (.int p2), .val (.int p3), .val (.int p4), .val (.int p5), .val (.int (2 : Int32)), .unset, .unset, .unset, .unset, .unset] [(.int (2 : Int32))])) rfl (hb hby at_9) rfl (by decide) (cap := 2) (by decide) (by decide) (by decide) (by decide)
    obtain ⟨b9, g9⟩ : ∃ z, z = h0.size := ⟨_, rfl⟩
    rw [← g9] at A9 st9
    have g_b9 : n0 ≤ b9 := Nat.le_trans Z0 (Nat.le_of_eq g9.symm)
    have z10 : n0 ≤ h9.size := Nat.le_trans Z0 E9.1
    have V9 : Arv Z h9 b9 k9 .double (2 : Int32) [(.double (0 : UInt64)), (.double (0 : UInt64))] (.double (0 : UInt64)) := (Arv.new A9 (by decide)).pad (pad_rep [] (.double (0 : UInt64)) 2)
    obtain ⟨cl11, Ar11, Q11, S11, M11, H11, G11⟩ := id V9
    have in12 : ¬ ((0 : Int32) < 0 ∨ cl11.slots.size ≤ ((0 : Int32)).toNatClampNeg) := inb_of S11 ⟨by decide, by decide⟩
    obtain ⟨T13, h13, X13, e13, W13, st13⟩ := stD X9 hx hZ e9 Ar11 (j := (0 : Int32)) in12 (g := (mkF m 22 #[.val (.int p1), .val (.int p2), .val (.int p3), .val (.int p4), .val (.int p5), .val (.int (2 : Int32)), .val (.ref b9), .unset, .unset, .unset, .unset] [(.double (FP.ddiv (FP.i2d p2) (4616189618054758400 : UInt64))), (.int (0 : Int32)), (.ref b9)])) rfl rfl (hb hby at_22)
    have z14 : n0 ≤ h13.size := Nat.le_trans z10 (Keep.of_wr W13).1
    have V13 : Arv Z h13 b9 k9 .double (2 : Int32) [(.double (FP.ddiv (FP.i2d p2) (4616189618054758400 : UInt64))), (.double (0 : UInt64))] (.double (0 : UInt64)) := Arv.set Ar11 Q11 S11 M11 H11 G11 rfl W13 0 rfl (Nat.le_of_ble_eq_true rfl)
    have N13 : Fr n0 _ := Fr.snoc X13 N0 g_b9
    obtain ⟨cl15, Ar15, Q15, S15, M15, H15, G15⟩ := id V13
    have in16 : ¬ ((1 : Int32) < 0 ∨ cl15.slots.size ≤ ((1 : Int32)).toNatClampNeg) := inb_of S15 ⟨by decide, by decide⟩
    obtain ⟨T17, h17, X17, e17, W17, st17⟩ := stD X13 hx hZ e13 Ar15 (j := (1 : Int32)) in16 (g := (mkF m 42 #[.val (.int p1), .val (.int p2), .val (.int p3), .val (.int p4), .val (.int p5), .val (.int (2 : Int32)), .val (.ref b9), .val (.long (p2.toInt64)), .second, .unset, .unset] [(.double (FP.ddiv (FP.i2d p3) (4616189618054758400 : UInt64))), (.int (1 : Int32)), (.ref b9)])) rfl rfl (hb hby at_42)
    have z18 : n0 ≤ h17.size := Nat.le_trans z14 (Keep.of_wr W17).1
    have V17 : Arv Z h17 b9 k9 .double (2 : Int32) [(.double (FP.ddiv (FP.i2d p2) (4616189618054758400 : UInt64))), (.double (FP.ddiv (FP.i2d p3) (4616189618054758400 : UInt64)))] (.double (0 : UInt64)) := Arv.set Ar15 Q15 S15 M15 H15 G15 rfl W17 1 rfl (Nat.le_of_ble_eq_true rfl)
    have N17 : Fr n0 _ := Fr.snoc X17 N13 g_b9
    obtain ⟨_, _, ⟨T19, L19, kk19, nn19⟩, -, X19, ⟨Lc19, hQ19, l19, y19, z19⟩, st19⟩ := Jvm.LawKit.callS X17 hx (y := (⟨"com/example/heft/heft/rank/Scope", "mean", "([D)D"⟩ : MethodName)) hown (mvT hZ (hw _ (List.mem_of_getElem? (i := 2) rfl))) (mvT hZ (hw _ (List.mem_of_getElem? (i := 3) rfl))) (mvT hZ (hw _ (List.mem_of_getElem? (i := 4) rfl))) (mvT hZ (hw _ (List.mem_of_getElem? (i := 5) rfl))) (by decide) (backOf (W := 0) (rmmean2 l Z a0 hw [] b9 (FP.ddiv (FP.i2d p2) (4616189618054758400 : UInt64)) (FP.ddiv (FP.i2d p3) (4616189618054758400 : UInt64)) k9 h17 n0 z18 V17 (i1.nn) (i2.nn) (OwnFP.div_nn i2.1 (Fl.i2d_fin _) (own_kz (by decide)))) hZ (hw _ (List.mem_of_getElem? (i := 5) rfl)) (hw _ (List.mem_of_getElem? (i := 4) rfl)) (by decide) (by decide)) (g := (mkF m 113 #[.val (.int p1), .val (.int p2), .val (.int p3), .val (.int p4), .val (.int p5), .val (.int (2 : Int32)), .val (.ref b9), .val (.long ((p2.toInt64) + (p3.toInt64))), .second, .val (.double (FP.ddiv (FP.ddiv (FP.l2d ((p2.toInt64) + (p3.toInt64))) (4616189618054758400 : UInt64)) (FP.i2d (2 : Int32)))), .second] [(.ref b9)])) rfl (by rw [hml]; rfl) (argsL := [(.ref b9)]) (rest := []) (lenOf pd__28_5bD_29D rfl) rfl (by show 2 * 0 + _ ≤ _; exact Nat.le_of_eq rfl) (hb hby at_113) (fun _ _ => ⟨rfl, e17, (by decide : 1 + 0 ≤ _), (by decide : 2 + 0 ≤ _)⟩)
    dsimp only [Pt.U, Pt.locs, Pt.cells, Pt.slots] at X19 l19 y19 z19 st19 hQ19
    subst l19 y19 z19
    obtain ⟨rfl, N19q, e19⟩ := hQ19
    have N19 := Fr.app N17 N19q
    have pre20 : ∀ t, Steps p.tables e below (T19.setTop (mkF m 127 #[.val (.int p1), .val (.int p2), .val (.int p3), .val (.int p4), .val (.int p5), .val (.int (2 : Int32)), .val (.ref b9), .val (.long ((p2.toInt64) + (p3.toInt64))), .second, .val (.double (FP.ddiv (FP.ddiv (FP.l2d ((p2.toInt64) + (p3.toInt64))) (4616189618054758400 : UInt64)) (FP.i2d (2 : Int32)))), .second] [(.int (1 : Int32))])) t → Steps p.tables e below (s₁.setTop (entryFrame m #[(.int p1), (.int p2), (.int p3), (.int p4), (.int p5)] maxLocals)) t := fun t kt => pre0 t (by
        show Steps p.tables e below (s₁.setTop (mkF m 0 #[.val (.int p1), .val (.int p2), .val (.int p3), .val (.int p4), .val (.int p5), .unset, .unset, .unset, .unset, .unset, .unset] [])) _
        refine XS.iconst X0.here hx rfl (hb hby at_0) ?_
        show Steps p.tables e below (s₁.setTop (mkF m 1 #[.val (.int p1), .val (.int p2), .val (.int p3), .val (.int p4), .val (.int p5), .unset, .unset, .unset, .unset, .unset, .unset] [(.int (1 : Int32))])) _
        refine XS.iloadN X0.here hx rfl (hb hby at_1) rfl ?_
        show Steps p.tables e below (s₁.setTop (mkF m 2 #[.val (.int p1), .val (.int p2), .val (.int p3), .val (.int p4), .val (.int p5), .unset, .unset, .unset, .unset, .unset, .unset] [(.int p1), (.int (1 : Int32))])) _
        refine XS.iconst X0.here hx rfl (hb hby at_2) ?_
        show Steps p.tables e below (s₁.setTop (mkF m 3 #[.val (.int p1), .val (.int p2), .val (.int p3), .val (.int p4), .val (.int p5), .unset, .unset, .unset, .unset, .unset, .unset] [(.int (3 : Int32)), (.int p1), (.int (1 : Int32))])) _
        refine XS.iand X0.here hx rfl (hb hby at_3) rfl ?_
        show Steps p.tables e below (s₁.setTop (mkF m 4 #[.val (.int p1), .val (.int p2), .val (.int p3), .val (.int p4), .val (.int p5), .unset, .unset, .unset, .unset, .unset, .unset] [(.int (p1 &&& (3 : Int32))), (.int (1 : Int32))])) _
        refine XS.iadd X0.here hx rfl (hb hby at_4) rfl ?_
        show Steps p.tables e below (s₁.setTop (mkF m 5 #[.val (.int p1), .val (.int p2), .val (.int p3), .val (.int p4), .val (.int p5), .unset, .unset, .unset, .unset, .unset, .unset] [(.int ((1 : Int32) + (p1 &&& (3 : Int32))))])) _
        rw [hk]
        show Steps p.tables e below (s₁.setTop (mkF m 5 #[.val (.int p1), .val (.int p2), .val (.int p3), .val (.int p4), .val (.int p5), .unset, .unset, .unset, .unset, .unset, .unset] [(.int (2 : Int32))])) _
        refine XS.istore X0.here hx rfl (hb hby at_5) rfl (l' := #[.val (.int p1), .val (.int p2), .val (.int p3), .val (.int p4), .val (.int p5), .val (.int (2 : Int32)), .unset, .unset, .unset, .unset, .unset]) rfl ?_
        show Steps p.tables e below (s₁.setTop (mkF m 7 #[.val (.int p1), .val (.int p2), .val (.int p3), .val (.int p4), .val (.int p5), .val (.int (2 : Int32)), .unset, .unset, .unset, .unset, .unset] [])) _
        refine XS.iload X0.here hx rfl (hb hby at_7) rfl ?_
        show Steps p.tables e below (s₁.setTop (mkF m 9 #[.val (.int p1), .val (.int p2), .val (.int p3), .val (.int p4), .val (.int p5), .val (.int (2 : Int32)), .unset, .unset, .unset, .unset, .unset] [(.int (2 : Int32))])) _
        refine st9 _ ?_
        show Steps p.tables e below (T9.setTop (mkF m 11 #[.val (.int p1), .val (.int p2), .val (.int p3), .val (.int p4), .val (.int p5), .val (.int (2 : Int32)), .unset, .unset, .unset, .unset, .unset] [(.ref b9)])) _
        refine XS.astore X9.here hx rfl (hb hby at_11) rfl rfl (l' := #[.val (.int p1), .val (.int p2), .val (.int p3), .val (.int p4), .val (.int p5), .val (.int (2 : Int32)), .val (.ref b9), .unset, .unset, .unset, .unset]) rfl ?_
        show Steps p.tables e below (T9.setTop (mkF m 13 #[.val (.int p1), .val (.int p2), .val (.int p3), .val (.int p4), .val (.int p5), .val (.int (2 : Int32)), .val (.ref b9), .unset, .unset, .unset, .unset] [])) _
        refine XS.aload X9.here hx rfl (hb hby at_13) rfl rfl ?_
        show Steps p.tables e below (T9.setTop (mkF m 15 #[.val (.int p1), .val (.int p2), .val (.int p3), .val (.int p4), .val (.int p5), .val (.int (2 : Int32)), .val (.ref b9), .unset, .unset, .unset, .unset] [(.ref b9)])) _
        refine XS.iconst X9.here hx rfl (hb hby at_15) ?_
        show Steps p.tables e below (T9.setTop (mkF m 16 #[.val (.int p1), .val (.int p2), .val (.int p3), .val (.int p4), .val (.int p5), .val (.int (2 : Int32)), .val (.ref b9), .unset, .unset, .unset, .unset] [(.int (0 : Int32)), (.ref b9)])) _
        refine XS.iloadN X9.here hx rfl (hb hby at_16) rfl ?_
        show Steps p.tables e below (T9.setTop (mkF m 17 #[.val (.int p1), .val (.int p2), .val (.int p3), .val (.int p4), .val (.int p5), .val (.int (2 : Int32)), .val (.ref b9), .unset, .unset, .unset, .unset] [(.int p2), (.int (0 : Int32)), (.ref b9)])) _
        refine XS.i2dS X9.here hx rfl (hb hby at_17) rfl (v := (FP.i2d p2)) rfl ?_
        show Steps p.tables e below (T9.setTop (mkF m 18 #[.val (.int p1), .val (.int p2), .val (.int p3), .val (.int p4), .val (.int p5), .val (.int (2 : Int32)), .val (.ref b9), .unset, .unset, .unset, .unset] [(.double (FP.i2d p2)), (.int (0 : Int32)), (.ref b9)])) _
        refine X9.ldc2DoubleC hx hown (mvT hZ (hw _ (List.mem_of_getElem? (i := 1) rfl))) (g := (mkF m 18 #[.val (.int p1), .val (.int p2), .val (.int p3), .val (.int p4), .val (.int p5), .val (.int (2 : Int32)), .val (.ref b9), .unset, .unset, .unset, .unset] [(.double (FP.i2d p2)), (.int (0 : Int32)), (.ref b9)])) rfl (hb hby at_18) _ ?_
        show Steps p.tables e below (T9.setTop (mkF m 21 #[.val (.int p1), .val (.int p2), .val (.int p3), .val (.int p4), .val (.int p5), .val (.int (2 : Int32)), .val (.ref b9), .unset, .unset, .unset, .unset] [(.double (4616189618054758400 : UInt64)), (.double (FP.i2d p2)), (.int (0 : Int32)), (.ref b9)])) _
        refine XS.ddivS X9.here hx rfl (hb hby at_21) rfl (own_q p2).nn (v := (FP.ddiv (FP.i2d p2) (4616189618054758400 : UInt64))) rfl ?_
        show Steps p.tables e below (T9.setTop (mkF m 22 #[.val (.int p1), .val (.int p2), .val (.int p3), .val (.int p4), .val (.int p5), .val (.int (2 : Int32)), .val (.ref b9), .unset, .unset, .unset, .unset] [(.double (FP.ddiv (FP.i2d p2) (4616189618054758400 : UInt64))), (.int (0 : Int32)), (.ref b9)])) _
        refine st13 _ ?_
        show Steps p.tables e below (T13.setTop (mkF m 23 #[.val (.int p1), .val (.int p2), .val (.int p3), .val (.int p4), .val (.int p5), .val (.int (2 : Int32)), .val (.ref b9), .unset, .unset, .unset, .unset] [])) _
        refine XS.iloadN X13.here hx rfl (hb hby at_23) rfl ?_
        show Steps p.tables e below (T13.setTop (mkF m 24 #[.val (.int p1), .val (.int p2), .val (.int p3), .val (.int p4), .val (.int p5), .val (.int (2 : Int32)), .val (.ref b9), .unset, .unset, .unset, .unset] [(.int p2)])) _
        refine XS.i2l X13.here hx rfl (hb hby at_24) rfl ?_
        show Steps p.tables e below (T13.setTop (mkF m 25 #[.val (.int p1), .val (.int p2), .val (.int p3), .val (.int p4), .val (.int p5), .val (.int (2 : Int32)), .val (.ref b9), .unset, .unset, .unset, .unset] [(.long (p2.toInt64))])) _
        refine XS.lstore X13.here hx rfl (hb hby at_25) rfl (l' := #[.val (.int p1), .val (.int p2), .val (.int p3), .val (.int p4), .val (.int p5), .val (.int (2 : Int32)), .val (.ref b9), .val (.long (p2.toInt64)), .second, .unset, .unset]) rfl ?_
        show Steps p.tables e below (T13.setTop (mkF m 27 #[.val (.int p1), .val (.int p2), .val (.int p3), .val (.int p4), .val (.int p5), .val (.int (2 : Int32)), .val (.ref b9), .val (.long (p2.toInt64)), .second, .unset, .unset] [])) _
        refine XS.iload X13.here hx rfl (hb hby at_27) rfl ?_
        show Steps p.tables e below (T13.setTop (mkF m 29 #[.val (.int p1), .val (.int p2), .val (.int p3), .val (.int p4), .val (.int p5), .val (.int (2 : Int32)), .val (.ref b9), .val (.long (p2.toInt64)), .second, .unset, .unset] [(.int (2 : Int32))])) _
        refine XS.iconst X13.here hx rfl (hb hby at_29) ?_
        show Steps p.tables e below (T13.setTop (mkF m 30 #[.val (.int p1), .val (.int p2), .val (.int p3), .val (.int p4), .val (.int p5), .val (.int (2 : Int32)), .val (.ref b9), .val (.long (p2.toInt64)), .second, .unset, .unset] [(.int (1 : Int32)), (.int (2 : Int32))])) _
        refine XS.icmpNo X13.here hx rfl (hb hby at_30) rfl (tlt ((by decide) : (1 : Int32) < (2 : Int32))).2.2.2 ?_
        show Steps p.tables e below (T13.setTop (mkF m 33 #[.val (.int p1), .val (.int p2), .val (.int p3), .val (.int p4), .val (.int p5), .val (.int (2 : Int32)), .val (.ref b9), .val (.long (p2.toInt64)), .second, .unset, .unset] [])) _
        refine XS.aload X13.here hx rfl (hb hby at_33) rfl rfl ?_
        show Steps p.tables e below (T13.setTop (mkF m 35 #[.val (.int p1), .val (.int p2), .val (.int p3), .val (.int p4), .val (.int p5), .val (.int (2 : Int32)), .val (.ref b9), .val (.long (p2.toInt64)), .second, .unset, .unset] [(.ref b9)])) _
        refine XS.iconst X13.here hx rfl (hb hby at_35) ?_
        show Steps p.tables e below (T13.setTop (mkF m 36 #[.val (.int p1), .val (.int p2), .val (.int p3), .val (.int p4), .val (.int p5), .val (.int (2 : Int32)), .val (.ref b9), .val (.long (p2.toInt64)), .second, .unset, .unset] [(.int (1 : Int32)), (.ref b9)])) _
        refine XS.iloadN X13.here hx rfl (hb hby at_36) rfl ?_
        show Steps p.tables e below (T13.setTop (mkF m 37 #[.val (.int p1), .val (.int p2), .val (.int p3), .val (.int p4), .val (.int p5), .val (.int (2 : Int32)), .val (.ref b9), .val (.long (p2.toInt64)), .second, .unset, .unset] [(.int p3), (.int (1 : Int32)), (.ref b9)])) _
        refine XS.i2dS X13.here hx rfl (hb hby at_37) rfl (v := (FP.i2d p3)) rfl ?_
        show Steps p.tables e below (T13.setTop (mkF m 38 #[.val (.int p1), .val (.int p2), .val (.int p3), .val (.int p4), .val (.int p5), .val (.int (2 : Int32)), .val (.ref b9), .val (.long (p2.toInt64)), .second, .unset, .unset] [(.double (FP.i2d p3)), (.int (1 : Int32)), (.ref b9)])) _
        refine X13.ldc2DoubleC hx hown (mvT hZ (hw _ (List.mem_of_getElem? (i := 1) rfl))) (g := (mkF m 38 #[.val (.int p1), .val (.int p2), .val (.int p3), .val (.int p4), .val (.int p5), .val (.int (2 : Int32)), .val (.ref b9), .val (.long (p2.toInt64)), .second, .unset, .unset] [(.double (FP.i2d p3)), (.int (1 : Int32)), (.ref b9)])) rfl (hb hby at_38) _ ?_
        show Steps p.tables e below (T13.setTop (mkF m 41 #[.val (.int p1), .val (.int p2), .val (.int p3), .val (.int p4), .val (.int p5), .val (.int (2 : Int32)), .val (.ref b9), .val (.long (p2.toInt64)), .second, .unset, .unset] [(.double (4616189618054758400 : UInt64)), (.double (FP.i2d p3)), (.int (1 : Int32)), (.ref b9)])) _
        refine XS.ddivS X13.here hx rfl (hb hby at_41) rfl (own_q p3).nn (v := (FP.ddiv (FP.i2d p3) (4616189618054758400 : UInt64))) rfl ?_
        show Steps p.tables e below (T13.setTop (mkF m 42 #[.val (.int p1), .val (.int p2), .val (.int p3), .val (.int p4), .val (.int p5), .val (.int (2 : Int32)), .val (.ref b9), .val (.long (p2.toInt64)), .second, .unset, .unset] [(.double (FP.ddiv (FP.i2d p3) (4616189618054758400 : UInt64))), (.int (1 : Int32)), (.ref b9)])) _
        refine st17 _ ?_
        show Steps p.tables e below (T17.setTop (mkF m 43 #[.val (.int p1), .val (.int p2), .val (.int p3), .val (.int p4), .val (.int p5), .val (.int (2 : Int32)), .val (.ref b9), .val (.long (p2.toInt64)), .second, .unset, .unset] [])) _
        refine XS.lload X17.here hx rfl (hb hby at_43) rfl ?_
        show Steps p.tables e below (T17.setTop (mkF m 45 #[.val (.int p1), .val (.int p2), .val (.int p3), .val (.int p4), .val (.int p5), .val (.int (2 : Int32)), .val (.ref b9), .val (.long (p2.toInt64)), .second, .unset, .unset] [(.long (p2.toInt64))])) _
        refine XS.iloadN X17.here hx rfl (hb hby at_45) rfl ?_
        show Steps p.tables e below (T17.setTop (mkF m 46 #[.val (.int p1), .val (.int p2), .val (.int p3), .val (.int p4), .val (.int p5), .val (.int (2 : Int32)), .val (.ref b9), .val (.long (p2.toInt64)), .second, .unset, .unset] [(.int p3), (.long (p2.toInt64))])) _
        refine XS.i2l X17.here hx rfl (hb hby at_46) rfl ?_
        show Steps p.tables e below (T17.setTop (mkF m 47 #[.val (.int p1), .val (.int p2), .val (.int p3), .val (.int p4), .val (.int p5), .val (.int (2 : Int32)), .val (.ref b9), .val (.long (p2.toInt64)), .second, .unset, .unset] [(.long (p3.toInt64)), (.long (p2.toInt64))])) _
        refine XS.ladd X17.here hx rfl (hb hby at_47) rfl ?_
        show Steps p.tables e below (T17.setTop (mkF m 48 #[.val (.int p1), .val (.int p2), .val (.int p3), .val (.int p4), .val (.int p5), .val (.int (2 : Int32)), .val (.ref b9), .val (.long (p2.toInt64)), .second, .unset, .unset] [(.long ((p2.toInt64) + (p3.toInt64)))])) _
        refine XS.lstore X17.here hx rfl (hb hby at_48) rfl (l' := #[.val (.int p1), .val (.int p2), .val (.int p3), .val (.int p4), .val (.int p5), .val (.int (2 : Int32)), .val (.ref b9), .val (.long ((p2.toInt64) + (p3.toInt64))), .second, .unset, .unset]) rfl ?_
        show Steps p.tables e below (T17.setTop (mkF m 50 #[.val (.int p1), .val (.int p2), .val (.int p3), .val (.int p4), .val (.int p5), .val (.int (2 : Int32)), .val (.ref b9), .val (.long ((p2.toInt64) + (p3.toInt64))), .second, .unset, .unset] [])) _
        refine XS.iload X17.here hx rfl (hb hby at_50) rfl ?_
        show Steps p.tables e below (T17.setTop (mkF m 52 #[.val (.int p1), .val (.int p2), .val (.int p3), .val (.int p4), .val (.int p5), .val (.int (2 : Int32)), .val (.ref b9), .val (.long ((p2.toInt64) + (p3.toInt64))), .second, .unset, .unset] [(.int (2 : Int32))])) _
        refine XS.iconst X17.here hx rfl (hb hby at_52) ?_
        show Steps p.tables e below (T17.setTop (mkF m 53 #[.val (.int p1), .val (.int p2), .val (.int p3), .val (.int p4), .val (.int p5), .val (.int (2 : Int32)), .val (.ref b9), .val (.long ((p2.toInt64) + (p3.toInt64))), .second, .unset, .unset] [(.int (2 : Int32)), (.int (2 : Int32))])) _
        refine XS.icmpYes X17.here hx rfl (pc0 := 53) (pc' := 73) rfl (hb hby at_53) rfl (flt ((by decide) : ¬ ((2 : Int32) < (2 : Int32)))).2.2.2 (by decide) (by decide) ?_
        show Steps p.tables e below (T17.setTop (mkF m 73 #[.val (.int p1), .val (.int p2), .val (.int p3), .val (.int p4), .val (.int p5), .val (.int (2 : Int32)), .val (.ref b9), .val (.long ((p2.toInt64) + (p3.toInt64))), .second, .unset, .unset] [])) _
        refine XS.iload X17.here hx rfl (hb hby at_73) rfl ?_
        show Steps p.tables e below (T17.setTop (mkF m 75 #[.val (.int p1), .val (.int p2), .val (.int p3), .val (.int p4), .val (.int p5), .val (.int (2 : Int32)), .val (.ref b9), .val (.long ((p2.toInt64) + (p3.toInt64))), .second, .unset, .unset] [(.int (2 : Int32))])) _
        refine XS.iconst X17.here hx rfl (hb hby at_75) ?_
        show Steps p.tables e below (T17.setTop (mkF m 76 #[.val (.int p1), .val (.int p2), .val (.int p3), .val (.int p4), .val (.int p5), .val (.int (2 : Int32)), .val (.ref b9), .val (.long ((p2.toInt64) + (p3.toInt64))), .second, .unset, .unset] [(.int (3 : Int32)), (.int (2 : Int32))])) _
        refine XS.icmpYes X17.here hx rfl (pc0 := 76) (pc' := 98) rfl (hb hby at_76) rfl (flt ((by decide) : ¬ ((3 : Int32) < (2 : Int32)))).2.2.2 (by decide) (by decide) ?_
        show Steps p.tables e below (T17.setTop (mkF m 98 #[.val (.int p1), .val (.int p2), .val (.int p3), .val (.int p4), .val (.int p5), .val (.int (2 : Int32)), .val (.ref b9), .val (.long ((p2.toInt64) + (p3.toInt64))), .second, .unset, .unset] [])) _
        refine XS.lload X17.here hx rfl (hb hby at_98) rfl ?_
        show Steps p.tables e below (T17.setTop (mkF m 100 #[.val (.int p1), .val (.int p2), .val (.int p3), .val (.int p4), .val (.int p5), .val (.int (2 : Int32)), .val (.ref b9), .val (.long ((p2.toInt64) + (p3.toInt64))), .second, .unset, .unset] [(.long ((p2.toInt64) + (p3.toInt64)))])) _
        refine XS.l2dS X17.here hx rfl (hb hby at_100) rfl (v := (FP.l2d ((p2.toInt64) + (p3.toInt64)))) rfl ?_
        show Steps p.tables e below (T17.setTop (mkF m 101 #[.val (.int p1), .val (.int p2), .val (.int p3), .val (.int p4), .val (.int p5), .val (.int (2 : Int32)), .val (.ref b9), .val (.long ((p2.toInt64) + (p3.toInt64))), .second, .unset, .unset] [(.double (FP.l2d ((p2.toInt64) + (p3.toInt64))))])) _
        refine X17.ldc2DoubleC hx hown (mvT hZ (hw _ (List.mem_of_getElem? (i := 1) rfl))) (g := (mkF m 101 #[.val (.int p1), .val (.int p2), .val (.int p3), .val (.int p4), .val (.int p5), .val (.int (2 : Int32)), .val (.ref b9), .val (.long ((p2.toInt64) + (p3.toInt64))), .second, .unset, .unset] [(.double (FP.l2d ((p2.toInt64) + (p3.toInt64))))])) rfl (hb hby at_101) _ ?_
        show Steps p.tables e below (T17.setTop (mkF m 104 #[.val (.int p1), .val (.int p2), .val (.int p3), .val (.int p4), .val (.int p5), .val (.int (2 : Int32)), .val (.ref b9), .val (.long ((p2.toInt64) + (p3.toInt64))), .second, .unset, .unset] [(.double (4616189618054758400 : UInt64)), (.double (FP.l2d ((p2.toInt64) + (p3.toInt64))))])) _
        refine XS.ddivS X17.here hx rfl (hb hby at_104) rfl hl.nn (v := (FP.ddiv (FP.l2d ((p2.toInt64) + (p3.toInt64))) (4616189618054758400 : UInt64))) rfl ?_
        show Steps p.tables e below (T17.setTop (mkF m 105 #[.val (.int p1), .val (.int p2), .val (.int p3), .val (.int p4), .val (.int p5), .val (.int (2 : Int32)), .val (.ref b9), .val (.long ((p2.toInt64) + (p3.toInt64))), .second, .unset, .unset] [(.double (FP.ddiv (FP.l2d ((p2.toInt64) + (p3.toInt64))) (4616189618054758400 : UInt64)))])) _
        refine XS.iload X17.here hx rfl (hb hby at_105) rfl ?_
        show Steps p.tables e below (T17.setTop (mkF m 107 #[.val (.int p1), .val (.int p2), .val (.int p3), .val (.int p4), .val (.int p5), .val (.int (2 : Int32)), .val (.ref b9), .val (.long ((p2.toInt64) + (p3.toInt64))), .second, .unset, .unset] [(.int (2 : Int32)), (.double (FP.ddiv (FP.l2d ((p2.toInt64) + (p3.toInt64))) (4616189618054758400 : UInt64)))])) _
        refine XS.i2dS X17.here hx rfl (hb hby at_107) rfl (v := (FP.i2d (2 : Int32))) rfl ?_
        show Steps p.tables e below (T17.setTop (mkF m 108 #[.val (.int p1), .val (.int p2), .val (.int p3), .val (.int p4), .val (.int p5), .val (.int (2 : Int32)), .val (.ref b9), .val (.long ((p2.toInt64) + (p3.toInt64))), .second, .unset, .unset] [(.double (FP.i2d (2 : Int32))), (.double (FP.ddiv (FP.l2d ((p2.toInt64) + (p3.toInt64))) (4616189618054758400 : UInt64)))])) _
        refine XS.ddivS X17.here hx rfl (hb hby at_108) rfl (OwnFP.div_nn hl.1 (Fl.i2d_fin _) (own_kz (by decide))) (v := (FP.ddiv (FP.ddiv (FP.l2d ((p2.toInt64) + (p3.toInt64))) (4616189618054758400 : UInt64)) (FP.i2d (2 : Int32)))) rfl ?_
        show Steps p.tables e below (T17.setTop (mkF m 109 #[.val (.int p1), .val (.int p2), .val (.int p3), .val (.int p4), .val (.int p5), .val (.int (2 : Int32)), .val (.ref b9), .val (.long ((p2.toInt64) + (p3.toInt64))), .second, .unset, .unset] [(.double (FP.ddiv (FP.ddiv (FP.l2d ((p2.toInt64) + (p3.toInt64))) (4616189618054758400 : UInt64)) (FP.i2d (2 : Int32))))])) _
        refine XS.dstore X17.here hx rfl (hb hby at_109) rfl (l' := #[.val (.int p1), .val (.int p2), .val (.int p3), .val (.int p4), .val (.int p5), .val (.int (2 : Int32)), .val (.ref b9), .val (.long ((p2.toInt64) + (p3.toInt64))), .second, .val (.double (FP.ddiv (FP.ddiv (FP.l2d ((p2.toInt64) + (p3.toInt64))) (4616189618054758400 : UInt64)) (FP.i2d (2 : Int32)))), .second]) rfl ?_
        show Steps p.tables e below (T17.setTop (mkF m 111 #[.val (.int p1), .val (.int p2), .val (.int p3), .val (.int p4), .val (.int p5), .val (.int (2 : Int32)), .val (.ref b9), .val (.long ((p2.toInt64) + (p3.toInt64))), .second, .val (.double (FP.ddiv (FP.ddiv (FP.l2d ((p2.toInt64) + (p3.toInt64))) (4616189618054758400 : UInt64)) (FP.i2d (2 : Int32)))), .second] [])) _
        refine XS.aload X17.here hx rfl (hb hby at_111) rfl rfl ?_
        show Steps p.tables e below (T17.setTop (mkF m 113 #[.val (.int p1), .val (.int p2), .val (.int p3), .val (.int p4), .val (.int p5), .val (.int (2 : Int32)), .val (.ref b9), .val (.long ((p2.toInt64) + (p3.toInt64))), .second, .val (.double (FP.ddiv (FP.ddiv (FP.l2d ((p2.toInt64) + (p3.toInt64))) (4616189618054758400 : UInt64)) (FP.i2d (2 : Int32)))), .second] [(.ref b9)])) _
        refine st19 _ ?_
        show Steps p.tables e below (T19.setTop (mkF m 116 #[.val (.int p1), .val (.int p2), .val (.int p3), .val (.int p4), .val (.int p5), .val (.int (2 : Int32)), .val (.ref b9), .val (.long ((p2.toInt64) + (p3.toInt64))), .second, .val (.double (FP.ddiv (FP.ddiv (FP.l2d ((p2.toInt64) + (p3.toInt64))) (4616189618054758400 : UInt64)) (FP.i2d (2 : Int32)))), .second] [(.double (FP.ddiv (FP.dadd (FP.dadd (0 : UInt64) (FP.ddiv (FP.i2d p2) (4616189618054758400 : UInt64))) (FP.ddiv (FP.i2d p3) (4616189618054758400 : UInt64))) (FP.i2d (2 : Int32))))])) _
        refine XS.dload X19.here hx rfl (hb hby at_116) rfl ?_
        show Steps p.tables e below (T19.setTop (mkF m 118 #[.val (.int p1), .val (.int p2), .val (.int p3), .val (.int p4), .val (.int p5), .val (.int (2 : Int32)), .val (.ref b9), .val (.long ((p2.toInt64) + (p3.toInt64))), .second, .val (.double (FP.ddiv (FP.ddiv (FP.l2d ((p2.toInt64) + (p3.toInt64))) (4616189618054758400 : UInt64)) (FP.i2d (2 : Int32)))), .second] [(.double (FP.ddiv (FP.ddiv (FP.l2d ((p2.toInt64) + (p3.toInt64))) (4616189618054758400 : UInt64)) (FP.i2d (2 : Int32)))), (.double (FP.ddiv (FP.dadd (FP.dadd (0 : UInt64) (FP.ddiv (FP.i2d p2) (4616189618054758400 : UInt64))) (FP.ddiv (FP.i2d p3) (4616189618054758400 : UInt64))) (FP.i2d (2 : Int32))))])) _
        refine XS.dcmpS X19.here hx rfl (hb hby at_118) rfl (v := (0 : Int32)) (own_end i2 hl (by decide)) ?_
        show Steps p.tables e below (T19.setTop (mkF m 119 #[.val (.int p1), .val (.int p2), .val (.int p3), .val (.int p4), .val (.int p5), .val (.int (2 : Int32)), .val (.ref b9), .val (.long ((p2.toInt64) + (p3.toInt64))), .second, .val (.double (FP.ddiv (FP.ddiv (FP.l2d ((p2.toInt64) + (p3.toInt64))) (4616189618054758400 : UInt64)) (FP.i2d (2 : Int32)))), .second] [(.int (0 : Int32))])) _
        refine XS.ifNo X19.here hx rfl (hb hby at_119) rfl ((if0 _ _).trans (teq ((by decide) : (0 : Int32) = (0 : Int32))).2) ?_
        show Steps p.tables e below (T19.setTop (mkF m 122 #[.val (.int p1), .val (.int p2), .val (.int p3), .val (.int p4), .val (.int p5), .val (.int (2 : Int32)), .val (.ref b9), .val (.long ((p2.toInt64) + (p3.toInt64))), .second, .val (.double (FP.ddiv (FP.ddiv (FP.l2d ((p2.toInt64) + (p3.toInt64))) (4616189618054758400 : UInt64)) (FP.i2d (2 : Int32)))), .second] [])) _
        refine XS.iconst X19.here hx rfl (hb hby at_122) ?_
        show Steps p.tables e below (T19.setTop (mkF m 123 #[.val (.int p1), .val (.int p2), .val (.int p3), .val (.int p4), .val (.int p5), .val (.int (2 : Int32)), .val (.ref b9), .val (.long ((p2.toInt64) + (p3.toInt64))), .second, .val (.double (FP.ddiv (FP.ddiv (FP.l2d ((p2.toInt64) + (p3.toInt64))) (4616189618054758400 : UInt64)) (FP.i2d (2 : Int32)))), .second] [(.int (1 : Int32))])) _
        refine XS.goto X19.here hx rfl (pc0 := 123) (pc' := 127) rfl (hb hby at_123) (by decide) (by decide) ?_
        exact kt)
    obtain ⟨fs, hr, hrun, hended, hW, hsame⟩ := X19.leave (v := some (.int (1 : Int32))) (fun h => by rw [Bd.returns] at h; cases h)
    refine ⟨_, _, pre20 _ ?_, hrun, hended, _, _, rfl, ?_, ⟨_, rfl⟩, hW, hsame.mono (by decide) (by decide)⟩
    · show Steps p.tables e below (T19.setTop (mkF m 127 #[.val (.int p1), .val (.int p2), .val (.int p3), .val (.int p4), .val (.int p5), .val (.int (2 : Int32)), .val (.ref b9), .val (.long ((p2.toInt64) + (p3.toInt64))), .second, .val (.double (FP.ddiv (FP.ddiv (FP.l2d ((p2.toInt64) + (p3.toInt64))) (4616189618054758400 : UInt64)) (FP.i2d (2 : Int32)))), .second] [(.int (1 : Int32))])) _
      exact retN X19 hx (t := .boolean) Bd.returns (by simp) (hb hby at_127) hr
    · show Q0 Z p1 p2 p3 p4 p5 h0 n0 _ T19.heap _
      rw [e19]
      exact ⟨rfl, N19⟩
  · skip
    have r2 := rng32 p2; have r3 := rng32 p3; have r4 := rng32 p4; have r5 := rng32 p5
    have c2 := c_i2l p2; have c3 := c_i2l p3; have c4 := c_i2l p4; have c5 := c_i2l p5
    have ad1 := c_ladd p2.toInt64 p3.toInt64; have rl1 := rng64 (p2.toInt64 + p3.toInt64)
    have ad2 := c_ladd (p2.toInt64 + p3.toInt64) p4.toInt64; have rl2 := rng64 ((p2.toInt64 + p3.toInt64) + p4.toInt64)
    have es : (((p2.toInt64 + p3.toInt64) + p4.toInt64) : Int64).toInt = p2.toInt + p3.toInt + p4.toInt := by omega
    have hl := own_l (v := ((p2.toInt64 + p3.toInt64) + p4.toInt64)) (by omega)
    rw [es] at hl
    have i0 := own_z0
    have i1 := own_add i0 (own_q p2) (by omega)
    have i2 := own_add i1 (own_q p3) (by omega)
    have i3 := own_add i2 (own_q p4) (by omega)
    have ie : (0 + p2.toInt + p3.toInt + p4.toInt : Int) = p2.toInt + p3.toInt + p4.toInt := by omega
    rw [ie] at i3
    obtain ⟨T21, h21, k21, X21, e21, E21, A21, st21⟩ := newP X0 hx hZ (hw _ (List.mem_of_getElem? (i := 0) rfl)) e0 (g := (mkF m 9 #[.val (.int p1), .val (.int p2), .val (.int p3), .val (.int p4), .val (.int p5), .val (.int (3 : Int32)), .unset, .unset, .unset, .unset, .unset] [(.int (3 : Int32))])) rfl (hb hby at_9) rfl (by decide) (cap := 3) (by decide) (by decide) (by decide) (by decide)
    obtain ⟨b21, g21⟩ : ∃ z, z = h0.size := ⟨_, rfl⟩
    rw [← g21] at A21 st21
    have g_b21 : n0 ≤ b21 := Nat.le_trans Z0 (Nat.le_of_eq g21.symm)
    have z22 : n0 ≤ h21.size := Nat.le_trans Z0 E21.1
    have V21 : Arv Z h21 b21 k21 .double (3 : Int32) [(.double (0 : UInt64)), (.double (0 : UInt64)), (.double (0 : UInt64))] (.double (0 : UInt64)) := (Arv.new A21 (by decide)).pad (pad_rep [] (.double (0 : UInt64)) 3)
    obtain ⟨cl23, Ar23, Q23, S23, M23, H23, G23⟩ := id V21
    have in24 : ¬ ((0 : Int32) < 0 ∨ cl23.slots.size ≤ ((0 : Int32)).toNatClampNeg) := inb_of S23 ⟨by decide, by decide⟩
    obtain ⟨T25, h25, X25, e25, W25, st25⟩ := stD X21 hx hZ e21 Ar23 (j := (0 : Int32)) in24 (g := (mkF m 22 #[.val (.int p1), .val (.int p2), .val (.int p3), .val (.int p4), .val (.int p5), .val (.int (3 : Int32)), .val (.ref b21), .unset, .unset, .unset, .unset] [(.double (FP.ddiv (FP.i2d p2) (4616189618054758400 : UInt64))), (.int (0 : Int32)), (.ref b21)])) rfl rfl (hb hby at_22)
    have z26 : n0 ≤ h25.size := Nat.le_trans z22 (Keep.of_wr W25).1
    have V25 : Arv Z h25 b21 k21 .double (3 : Int32) [(.double (FP.ddiv (FP.i2d p2) (4616189618054758400 : UInt64))), (.double (0 : UInt64)), (.double (0 : UInt64))] (.double (0 : UInt64)) := Arv.set Ar23 Q23 S23 M23 H23 G23 rfl W25 0 rfl (Nat.le_of_ble_eq_true rfl)
    have N25 : Fr n0 _ := Fr.snoc X25 N0 g_b21
    obtain ⟨cl27, Ar27, Q27, S27, M27, H27, G27⟩ := id V25
    have in28 : ¬ ((1 : Int32) < 0 ∨ cl27.slots.size ≤ ((1 : Int32)).toNatClampNeg) := inb_of S27 ⟨by decide, by decide⟩
    obtain ⟨T29, h29, X29, e29, W29, st29⟩ := stD X25 hx hZ e25 Ar27 (j := (1 : Int32)) in28 (g := (mkF m 42 #[.val (.int p1), .val (.int p2), .val (.int p3), .val (.int p4), .val (.int p5), .val (.int (3 : Int32)), .val (.ref b21), .val (.long (p2.toInt64)), .second, .unset, .unset] [(.double (FP.ddiv (FP.i2d p3) (4616189618054758400 : UInt64))), (.int (1 : Int32)), (.ref b21)])) rfl rfl (hb hby at_42)
    have z30 : n0 ≤ h29.size := Nat.le_trans z26 (Keep.of_wr W29).1
    have V29 : Arv Z h29 b21 k21 .double (3 : Int32) [(.double (FP.ddiv (FP.i2d p2) (4616189618054758400 : UInt64))), (.double (FP.ddiv (FP.i2d p3) (4616189618054758400 : UInt64))), (.double (0 : UInt64))] (.double (0 : UInt64)) := Arv.set Ar27 Q27 S27 M27 H27 G27 rfl W29 1 rfl (Nat.le_of_ble_eq_true rfl)
    have N29 : Fr n0 _ := Fr.snoc X29 N25 g_b21
    obtain ⟨cl31, Ar31, Q31, S31, M31, H31, G31⟩ := id V29
    have in32 : ¬ ((2 : Int32) < 0 ∨ cl31.slots.size ≤ ((2 : Int32)).toNatClampNeg) := inb_of S31 ⟨by decide, by decide⟩
    obtain ⟨T33, h33, X33, e33, W33, st33⟩ := stD X29 hx hZ e29 Ar31 (j := (2 : Int32)) in32 (g := (mkF m 65 #[.val (.int p1), .val (.int p2), .val (.int p3), .val (.int p4), .val (.int p5), .val (.int (3 : Int32)), .val (.ref b21), .val (.long ((p2.toInt64) + (p3.toInt64))), .second, .unset, .unset] [(.double (FP.ddiv (FP.i2d p4) (4616189618054758400 : UInt64))), (.int (2 : Int32)), (.ref b21)])) rfl rfl (hb hby at_65)
    have z34 : n0 ≤ h33.size := Nat.le_trans z30 (Keep.of_wr W33).1
    have V33 : Arv Z h33 b21 k21 .double (3 : Int32) [(.double (FP.ddiv (FP.i2d p2) (4616189618054758400 : UInt64))), (.double (FP.ddiv (FP.i2d p3) (4616189618054758400 : UInt64))), (.double (FP.ddiv (FP.i2d p4) (4616189618054758400 : UInt64)))] (.double (0 : UInt64)) := Arv.set Ar31 Q31 S31 M31 H31 G31 rfl W33 2 rfl (Nat.le_of_ble_eq_true rfl)
    have N33 : Fr n0 _ := Fr.snoc X33 N29 g_b21
    obtain ⟨_, _, ⟨T35, L35, kk35, nn35⟩, -, X35, ⟨Lc35, hQ35, l35, y35, z35⟩, st35⟩ := Jvm.LawKit.callS X33 hx (y := (⟨"com/example/heft/heft/rank/Scope", "mean", "([D)D"⟩ : MethodName)) hown (mvT hZ (hw _ (List.mem_of_getElem? (i := 2) rfl))) (mvT hZ (hw _ (List.mem_of_getElem? (i := 3) rfl))) (mvT hZ (hw _ (List.mem_of_getElem? (i := 4) rfl))) (mvT hZ (hw _ (List.mem_of_getElem? (i := 5) rfl))) (by decide) (backOf (W := 0) (rmmean3 l Z a0 hw [] b21 (FP.ddiv (FP.i2d p2) (4616189618054758400 : UInt64)) (FP.ddiv (FP.i2d p3) (4616189618054758400 : UInt64)) (FP.ddiv (FP.i2d p4) (4616189618054758400 : UInt64)) k21 h33 n0 z34 V33 (i1.nn) (i2.nn) (i3.nn) (OwnFP.div_nn i3.1 (Fl.i2d_fin _) (own_kz (by decide)))) hZ (hw _ (List.mem_of_getElem? (i := 5) rfl)) (hw _ (List.mem_of_getElem? (i := 4) rfl)) (by decide) (by decide)) (g := (mkF m 113 #[.val (.int p1), .val (.int p2), .val (.int p3), .val (.int p4), .val (.int p5), .val (.int (3 : Int32)), .val (.ref b21), .val (.long (((p2.toInt64) + (p3.toInt64)) + (p4.toInt64))), .second, .val (.double (FP.ddiv (FP.ddiv (FP.l2d (((p2.toInt64) + (p3.toInt64)) + (p4.toInt64))) (4616189618054758400 : UInt64)) (FP.i2d (3 : Int32)))), .second] [(.ref b21)])) rfl (by rw [hml]; rfl) (argsL := [(.ref b21)]) (rest := []) (lenOf pd__28_5bD_29D rfl) rfl (by show 2 * 0 + _ ≤ _; exact Nat.le_of_eq rfl) (hb hby at_113) (fun _ _ => ⟨rfl, e33, (by decide : 1 + 0 ≤ _), (by decide : 3 + 0 ≤ _)⟩)
    dsimp only [Pt.U, Pt.locs, Pt.cells, Pt.slots] at X35 l35 y35 z35 st35 hQ35
    subst l35 y35 z35
    obtain ⟨rfl, N35q, e35⟩ := hQ35
    have N35 := Fr.app N33 N35q
    have pre36 : ∀ t, Steps p.tables e below (T35.setTop (mkF m 127 #[.val (.int p1), .val (.int p2), .val (.int p3), .val (.int p4), .val (.int p5), .val (.int (3 : Int32)), .val (.ref b21), .val (.long (((p2.toInt64) + (p3.toInt64)) + (p4.toInt64))), .second, .val (.double (FP.ddiv (FP.ddiv (FP.l2d (((p2.toInt64) + (p3.toInt64)) + (p4.toInt64))) (4616189618054758400 : UInt64)) (FP.i2d (3 : Int32)))), .second] [(.int (1 : Int32))])) t → Steps p.tables e below (s₁.setTop (entryFrame m #[(.int p1), (.int p2), (.int p3), (.int p4), (.int p5)] maxLocals)) t := fun t kt => pre0 t (by
        show Steps p.tables e below (s₁.setTop (mkF m 0 #[.val (.int p1), .val (.int p2), .val (.int p3), .val (.int p4), .val (.int p5), .unset, .unset, .unset, .unset, .unset, .unset] [])) _
        refine XS.iconst X0.here hx rfl (hb hby at_0) ?_
        show Steps p.tables e below (s₁.setTop (mkF m 1 #[.val (.int p1), .val (.int p2), .val (.int p3), .val (.int p4), .val (.int p5), .unset, .unset, .unset, .unset, .unset, .unset] [(.int (1 : Int32))])) _
        refine XS.iloadN X0.here hx rfl (hb hby at_1) rfl ?_
        show Steps p.tables e below (s₁.setTop (mkF m 2 #[.val (.int p1), .val (.int p2), .val (.int p3), .val (.int p4), .val (.int p5), .unset, .unset, .unset, .unset, .unset, .unset] [(.int p1), (.int (1 : Int32))])) _
        refine XS.iconst X0.here hx rfl (hb hby at_2) ?_
        show Steps p.tables e below (s₁.setTop (mkF m 3 #[.val (.int p1), .val (.int p2), .val (.int p3), .val (.int p4), .val (.int p5), .unset, .unset, .unset, .unset, .unset, .unset] [(.int (3 : Int32)), (.int p1), (.int (1 : Int32))])) _
        refine XS.iand X0.here hx rfl (hb hby at_3) rfl ?_
        show Steps p.tables e below (s₁.setTop (mkF m 4 #[.val (.int p1), .val (.int p2), .val (.int p3), .val (.int p4), .val (.int p5), .unset, .unset, .unset, .unset, .unset, .unset] [(.int (p1 &&& (3 : Int32))), (.int (1 : Int32))])) _
        refine XS.iadd X0.here hx rfl (hb hby at_4) rfl ?_
        show Steps p.tables e below (s₁.setTop (mkF m 5 #[.val (.int p1), .val (.int p2), .val (.int p3), .val (.int p4), .val (.int p5), .unset, .unset, .unset, .unset, .unset, .unset] [(.int ((1 : Int32) + (p1 &&& (3 : Int32))))])) _
        rw [hk]
        show Steps p.tables e below (s₁.setTop (mkF m 5 #[.val (.int p1), .val (.int p2), .val (.int p3), .val (.int p4), .val (.int p5), .unset, .unset, .unset, .unset, .unset, .unset] [(.int (3 : Int32))])) _
        refine XS.istore X0.here hx rfl (hb hby at_5) rfl (l' := #[.val (.int p1), .val (.int p2), .val (.int p3), .val (.int p4), .val (.int p5), .val (.int (3 : Int32)), .unset, .unset, .unset, .unset, .unset]) rfl ?_
        show Steps p.tables e below (s₁.setTop (mkF m 7 #[.val (.int p1), .val (.int p2), .val (.int p3), .val (.int p4), .val (.int p5), .val (.int (3 : Int32)), .unset, .unset, .unset, .unset, .unset] [])) _
        refine XS.iload X0.here hx rfl (hb hby at_7) rfl ?_
        show Steps p.tables e below (s₁.setTop (mkF m 9 #[.val (.int p1), .val (.int p2), .val (.int p3), .val (.int p4), .val (.int p5), .val (.int (3 : Int32)), .unset, .unset, .unset, .unset, .unset] [(.int (3 : Int32))])) _
        refine st21 _ ?_
        show Steps p.tables e below (T21.setTop (mkF m 11 #[.val (.int p1), .val (.int p2), .val (.int p3), .val (.int p4), .val (.int p5), .val (.int (3 : Int32)), .unset, .unset, .unset, .unset, .unset] [(.ref b21)])) _
        refine XS.astore X21.here hx rfl (hb hby at_11) rfl rfl (l' := #[.val (.int p1), .val (.int p2), .val (.int p3), .val (.int p4), .val (.int p5), .val (.int (3 : Int32)), .val (.ref b21), .unset, .unset, .unset, .unset]) rfl ?_
        show Steps p.tables e below (T21.setTop (mkF m 13 #[.val (.int p1), .val (.int p2), .val (.int p3), .val (.int p4), .val (.int p5), .val (.int (3 : Int32)), .val (.ref b21), .unset, .unset, .unset, .unset] [])) _
        refine XS.aload X21.here hx rfl (hb hby at_13) rfl rfl ?_
        show Steps p.tables e below (T21.setTop (mkF m 15 #[.val (.int p1), .val (.int p2), .val (.int p3), .val (.int p4), .val (.int p5), .val (.int (3 : Int32)), .val (.ref b21), .unset, .unset, .unset, .unset] [(.ref b21)])) _
        refine XS.iconst X21.here hx rfl (hb hby at_15) ?_
        show Steps p.tables e below (T21.setTop (mkF m 16 #[.val (.int p1), .val (.int p2), .val (.int p3), .val (.int p4), .val (.int p5), .val (.int (3 : Int32)), .val (.ref b21), .unset, .unset, .unset, .unset] [(.int (0 : Int32)), (.ref b21)])) _
        refine XS.iloadN X21.here hx rfl (hb hby at_16) rfl ?_
        show Steps p.tables e below (T21.setTop (mkF m 17 #[.val (.int p1), .val (.int p2), .val (.int p3), .val (.int p4), .val (.int p5), .val (.int (3 : Int32)), .val (.ref b21), .unset, .unset, .unset, .unset] [(.int p2), (.int (0 : Int32)), (.ref b21)])) _
        refine XS.i2dS X21.here hx rfl (hb hby at_17) rfl (v := (FP.i2d p2)) rfl ?_
        show Steps p.tables e below (T21.setTop (mkF m 18 #[.val (.int p1), .val (.int p2), .val (.int p3), .val (.int p4), .val (.int p5), .val (.int (3 : Int32)), .val (.ref b21), .unset, .unset, .unset, .unset] [(.double (FP.i2d p2)), (.int (0 : Int32)), (.ref b21)])) _
        refine X21.ldc2DoubleC hx hown (mvT hZ (hw _ (List.mem_of_getElem? (i := 1) rfl))) (g := (mkF m 18 #[.val (.int p1), .val (.int p2), .val (.int p3), .val (.int p4), .val (.int p5), .val (.int (3 : Int32)), .val (.ref b21), .unset, .unset, .unset, .unset] [(.double (FP.i2d p2)), (.int (0 : Int32)), (.ref b21)])) rfl (hb hby at_18) _ ?_
        show Steps p.tables e below (T21.setTop (mkF m 21 #[.val (.int p1), .val (.int p2), .val (.int p3), .val (.int p4), .val (.int p5), .val (.int (3 : Int32)), .val (.ref b21), .unset, .unset, .unset, .unset] [(.double (4616189618054758400 : UInt64)), (.double (FP.i2d p2)), (.int (0 : Int32)), (.ref b21)])) _
        refine XS.ddivS X21.here hx rfl (hb hby at_21) rfl (own_q p2).nn (v := (FP.ddiv (FP.i2d p2) (4616189618054758400 : UInt64))) rfl ?_
        show Steps p.tables e below (T21.setTop (mkF m 22 #[.val (.int p1), .val (.int p2), .val (.int p3), .val (.int p4), .val (.int p5), .val (.int (3 : Int32)), .val (.ref b21), .unset, .unset, .unset, .unset] [(.double (FP.ddiv (FP.i2d p2) (4616189618054758400 : UInt64))), (.int (0 : Int32)), (.ref b21)])) _
        refine st25 _ ?_
        show Steps p.tables e below (T25.setTop (mkF m 23 #[.val (.int p1), .val (.int p2), .val (.int p3), .val (.int p4), .val (.int p5), .val (.int (3 : Int32)), .val (.ref b21), .unset, .unset, .unset, .unset] [])) _
        refine XS.iloadN X25.here hx rfl (hb hby at_23) rfl ?_
        show Steps p.tables e below (T25.setTop (mkF m 24 #[.val (.int p1), .val (.int p2), .val (.int p3), .val (.int p4), .val (.int p5), .val (.int (3 : Int32)), .val (.ref b21), .unset, .unset, .unset, .unset] [(.int p2)])) _
        refine XS.i2l X25.here hx rfl (hb hby at_24) rfl ?_
        show Steps p.tables e below (T25.setTop (mkF m 25 #[.val (.int p1), .val (.int p2), .val (.int p3), .val (.int p4), .val (.int p5), .val (.int (3 : Int32)), .val (.ref b21), .unset, .unset, .unset, .unset] [(.long (p2.toInt64))])) _
        refine XS.lstore X25.here hx rfl (hb hby at_25) rfl (l' := #[.val (.int p1), .val (.int p2), .val (.int p3), .val (.int p4), .val (.int p5), .val (.int (3 : Int32)), .val (.ref b21), .val (.long (p2.toInt64)), .second, .unset, .unset]) rfl ?_
        show Steps p.tables e below (T25.setTop (mkF m 27 #[.val (.int p1), .val (.int p2), .val (.int p3), .val (.int p4), .val (.int p5), .val (.int (3 : Int32)), .val (.ref b21), .val (.long (p2.toInt64)), .second, .unset, .unset] [])) _
        refine XS.iload X25.here hx rfl (hb hby at_27) rfl ?_
        show Steps p.tables e below (T25.setTop (mkF m 29 #[.val (.int p1), .val (.int p2), .val (.int p3), .val (.int p4), .val (.int p5), .val (.int (3 : Int32)), .val (.ref b21), .val (.long (p2.toInt64)), .second, .unset, .unset] [(.int (3 : Int32))])) _
        refine XS.iconst X25.here hx rfl (hb hby at_29) ?_
        show Steps p.tables e below (T25.setTop (mkF m 30 #[.val (.int p1), .val (.int p2), .val (.int p3), .val (.int p4), .val (.int p5), .val (.int (3 : Int32)), .val (.ref b21), .val (.long (p2.toInt64)), .second, .unset, .unset] [(.int (1 : Int32)), (.int (3 : Int32))])) _
        refine XS.icmpNo X25.here hx rfl (hb hby at_30) rfl (tlt ((by decide) : (1 : Int32) < (3 : Int32))).2.2.2 ?_
        show Steps p.tables e below (T25.setTop (mkF m 33 #[.val (.int p1), .val (.int p2), .val (.int p3), .val (.int p4), .val (.int p5), .val (.int (3 : Int32)), .val (.ref b21), .val (.long (p2.toInt64)), .second, .unset, .unset] [])) _
        refine XS.aload X25.here hx rfl (hb hby at_33) rfl rfl ?_
        show Steps p.tables e below (T25.setTop (mkF m 35 #[.val (.int p1), .val (.int p2), .val (.int p3), .val (.int p4), .val (.int p5), .val (.int (3 : Int32)), .val (.ref b21), .val (.long (p2.toInt64)), .second, .unset, .unset] [(.ref b21)])) _
        refine XS.iconst X25.here hx rfl (hb hby at_35) ?_
        show Steps p.tables e below (T25.setTop (mkF m 36 #[.val (.int p1), .val (.int p2), .val (.int p3), .val (.int p4), .val (.int p5), .val (.int (3 : Int32)), .val (.ref b21), .val (.long (p2.toInt64)), .second, .unset, .unset] [(.int (1 : Int32)), (.ref b21)])) _
        refine XS.iloadN X25.here hx rfl (hb hby at_36) rfl ?_
        show Steps p.tables e below (T25.setTop (mkF m 37 #[.val (.int p1), .val (.int p2), .val (.int p3), .val (.int p4), .val (.int p5), .val (.int (3 : Int32)), .val (.ref b21), .val (.long (p2.toInt64)), .second, .unset, .unset] [(.int p3), (.int (1 : Int32)), (.ref b21)])) _
        refine XS.i2dS X25.here hx rfl (hb hby at_37) rfl (v := (FP.i2d p3)) rfl ?_
        show Steps p.tables e below (T25.setTop (mkF m 38 #[.val (.int p1), .val (.int p2), .val (.int p3), .val (.int p4), .val (.int p5), .val (.int (3 : Int32)), .val (.ref b21), .val (.long (p2.toInt64)), .second, .unset, .unset] [(.double (FP.i2d p3)), (.int (1 : Int32)), (.ref b21)])) _
        refine X25.ldc2DoubleC hx hown (mvT hZ (hw _ (List.mem_of_getElem? (i := 1) rfl))) (g := (mkF m 38 #[.val (.int p1), .val (.int p2), .val (.int p3), .val (.int p4), .val (.int p5), .val (.int (3 : Int32)), .val (.ref b21), .val (.long (p2.toInt64)), .second, .unset, .unset] [(.double (FP.i2d p3)), (.int (1 : Int32)), (.ref b21)])) rfl (hb hby at_38) _ ?_
        show Steps p.tables e below (T25.setTop (mkF m 41 #[.val (.int p1), .val (.int p2), .val (.int p3), .val (.int p4), .val (.int p5), .val (.int (3 : Int32)), .val (.ref b21), .val (.long (p2.toInt64)), .second, .unset, .unset] [(.double (4616189618054758400 : UInt64)), (.double (FP.i2d p3)), (.int (1 : Int32)), (.ref b21)])) _
        refine XS.ddivS X25.here hx rfl (hb hby at_41) rfl (own_q p3).nn (v := (FP.ddiv (FP.i2d p3) (4616189618054758400 : UInt64))) rfl ?_
        show Steps p.tables e below (T25.setTop (mkF m 42 #[.val (.int p1), .val (.int p2), .val (.int p3), .val (.int p4), .val (.int p5), .val (.int (3 : Int32)), .val (.ref b21), .val (.long (p2.toInt64)), .second, .unset, .unset] [(.double (FP.ddiv (FP.i2d p3) (4616189618054758400 : UInt64))), (.int (1 : Int32)), (.ref b21)])) _
        refine st29 _ ?_
        show Steps p.tables e below (T29.setTop (mkF m 43 #[.val (.int p1), .val (.int p2), .val (.int p3), .val (.int p4), .val (.int p5), .val (.int (3 : Int32)), .val (.ref b21), .val (.long (p2.toInt64)), .second, .unset, .unset] [])) _
        refine XS.lload X29.here hx rfl (hb hby at_43) rfl ?_
        show Steps p.tables e below (T29.setTop (mkF m 45 #[.val (.int p1), .val (.int p2), .val (.int p3), .val (.int p4), .val (.int p5), .val (.int (3 : Int32)), .val (.ref b21), .val (.long (p2.toInt64)), .second, .unset, .unset] [(.long (p2.toInt64))])) _
        refine XS.iloadN X29.here hx rfl (hb hby at_45) rfl ?_
        show Steps p.tables e below (T29.setTop (mkF m 46 #[.val (.int p1), .val (.int p2), .val (.int p3), .val (.int p4), .val (.int p5), .val (.int (3 : Int32)), .val (.ref b21), .val (.long (p2.toInt64)), .second, .unset, .unset] [(.int p3), (.long (p2.toInt64))])) _
        refine XS.i2l X29.here hx rfl (hb hby at_46) rfl ?_
        show Steps p.tables e below (T29.setTop (mkF m 47 #[.val (.int p1), .val (.int p2), .val (.int p3), .val (.int p4), .val (.int p5), .val (.int (3 : Int32)), .val (.ref b21), .val (.long (p2.toInt64)), .second, .unset, .unset] [(.long (p3.toInt64)), (.long (p2.toInt64))])) _
        refine XS.ladd X29.here hx rfl (hb hby at_47) rfl ?_
        show Steps p.tables e below (T29.setTop (mkF m 48 #[.val (.int p1), .val (.int p2), .val (.int p3), .val (.int p4), .val (.int p5), .val (.int (3 : Int32)), .val (.ref b21), .val (.long (p2.toInt64)), .second, .unset, .unset] [(.long ((p2.toInt64) + (p3.toInt64)))])) _
        refine XS.lstore X29.here hx rfl (hb hby at_48) rfl (l' := #[.val (.int p1), .val (.int p2), .val (.int p3), .val (.int p4), .val (.int p5), .val (.int (3 : Int32)), .val (.ref b21), .val (.long ((p2.toInt64) + (p3.toInt64))), .second, .unset, .unset]) rfl ?_
        show Steps p.tables e below (T29.setTop (mkF m 50 #[.val (.int p1), .val (.int p2), .val (.int p3), .val (.int p4), .val (.int p5), .val (.int (3 : Int32)), .val (.ref b21), .val (.long ((p2.toInt64) + (p3.toInt64))), .second, .unset, .unset] [])) _
        refine XS.iload X29.here hx rfl (hb hby at_50) rfl ?_
        show Steps p.tables e below (T29.setTop (mkF m 52 #[.val (.int p1), .val (.int p2), .val (.int p3), .val (.int p4), .val (.int p5), .val (.int (3 : Int32)), .val (.ref b21), .val (.long ((p2.toInt64) + (p3.toInt64))), .second, .unset, .unset] [(.int (3 : Int32))])) _
        refine XS.iconst X29.here hx rfl (hb hby at_52) ?_
        show Steps p.tables e below (T29.setTop (mkF m 53 #[.val (.int p1), .val (.int p2), .val (.int p3), .val (.int p4), .val (.int p5), .val (.int (3 : Int32)), .val (.ref b21), .val (.long ((p2.toInt64) + (p3.toInt64))), .second, .unset, .unset] [(.int (2 : Int32)), (.int (3 : Int32))])) _
        refine XS.icmpNo X29.here hx rfl (hb hby at_53) rfl (tlt ((by decide) : (2 : Int32) < (3 : Int32))).2.2.2 ?_
        show Steps p.tables e below (T29.setTop (mkF m 56 #[.val (.int p1), .val (.int p2), .val (.int p3), .val (.int p4), .val (.int p5), .val (.int (3 : Int32)), .val (.ref b21), .val (.long ((p2.toInt64) + (p3.toInt64))), .second, .unset, .unset] [])) _
        refine XS.aload X29.here hx rfl (hb hby at_56) rfl rfl ?_
        show Steps p.tables e below (T29.setTop (mkF m 58 #[.val (.int p1), .val (.int p2), .val (.int p3), .val (.int p4), .val (.int p5), .val (.int (3 : Int32)), .val (.ref b21), .val (.long ((p2.toInt64) + (p3.toInt64))), .second, .unset, .unset] [(.ref b21)])) _
        refine XS.iconst X29.here hx rfl (hb hby at_58) ?_
        show Steps p.tables e below (T29.setTop (mkF m 59 #[.val (.int p1), .val (.int p2), .val (.int p3), .val (.int p4), .val (.int p5), .val (.int (3 : Int32)), .val (.ref b21), .val (.long ((p2.toInt64) + (p3.toInt64))), .second, .unset, .unset] [(.int (2 : Int32)), (.ref b21)])) _
        refine XS.iloadN X29.here hx rfl (hb hby at_59) rfl ?_
        show Steps p.tables e below (T29.setTop (mkF m 60 #[.val (.int p1), .val (.int p2), .val (.int p3), .val (.int p4), .val (.int p5), .val (.int (3 : Int32)), .val (.ref b21), .val (.long ((p2.toInt64) + (p3.toInt64))), .second, .unset, .unset] [(.int p4), (.int (2 : Int32)), (.ref b21)])) _
        refine XS.i2dS X29.here hx rfl (hb hby at_60) rfl (v := (FP.i2d p4)) rfl ?_
        show Steps p.tables e below (T29.setTop (mkF m 61 #[.val (.int p1), .val (.int p2), .val (.int p3), .val (.int p4), .val (.int p5), .val (.int (3 : Int32)), .val (.ref b21), .val (.long ((p2.toInt64) + (p3.toInt64))), .second, .unset, .unset] [(.double (FP.i2d p4)), (.int (2 : Int32)), (.ref b21)])) _
        refine X29.ldc2DoubleC hx hown (mvT hZ (hw _ (List.mem_of_getElem? (i := 1) rfl))) (g := (mkF m 61 #[.val (.int p1), .val (.int p2), .val (.int p3), .val (.int p4), .val (.int p5), .val (.int (3 : Int32)), .val (.ref b21), .val (.long ((p2.toInt64) + (p3.toInt64))), .second, .unset, .unset] [(.double (FP.i2d p4)), (.int (2 : Int32)), (.ref b21)])) rfl (hb hby at_61) _ ?_
        show Steps p.tables e below (T29.setTop (mkF m 64 #[.val (.int p1), .val (.int p2), .val (.int p3), .val (.int p4), .val (.int p5), .val (.int (3 : Int32)), .val (.ref b21), .val (.long ((p2.toInt64) + (p3.toInt64))), .second, .unset, .unset] [(.double (4616189618054758400 : UInt64)), (.double (FP.i2d p4)), (.int (2 : Int32)), (.ref b21)])) _
        refine XS.ddivS X29.here hx rfl (hb hby at_64) rfl (own_q p4).nn (v := (FP.ddiv (FP.i2d p4) (4616189618054758400 : UInt64))) rfl ?_
        show Steps p.tables e below (T29.setTop (mkF m 65 #[.val (.int p1), .val (.int p2), .val (.int p3), .val (.int p4), .val (.int p5), .val (.int (3 : Int32)), .val (.ref b21), .val (.long ((p2.toInt64) + (p3.toInt64))), .second, .unset, .unset] [(.double (FP.ddiv (FP.i2d p4) (4616189618054758400 : UInt64))), (.int (2 : Int32)), (.ref b21)])) _
        refine st33 _ ?_
        show Steps p.tables e below (T33.setTop (mkF m 66 #[.val (.int p1), .val (.int p2), .val (.int p3), .val (.int p4), .val (.int p5), .val (.int (3 : Int32)), .val (.ref b21), .val (.long ((p2.toInt64) + (p3.toInt64))), .second, .unset, .unset] [])) _
        refine XS.lload X33.here hx rfl (hb hby at_66) rfl ?_
        show Steps p.tables e below (T33.setTop (mkF m 68 #[.val (.int p1), .val (.int p2), .val (.int p3), .val (.int p4), .val (.int p5), .val (.int (3 : Int32)), .val (.ref b21), .val (.long ((p2.toInt64) + (p3.toInt64))), .second, .unset, .unset] [(.long ((p2.toInt64) + (p3.toInt64)))])) _
        refine XS.iloadN X33.here hx rfl (hb hby at_68) rfl ?_
        show Steps p.tables e below (T33.setTop (mkF m 69 #[.val (.int p1), .val (.int p2), .val (.int p3), .val (.int p4), .val (.int p5), .val (.int (3 : Int32)), .val (.ref b21), .val (.long ((p2.toInt64) + (p3.toInt64))), .second, .unset, .unset] [(.int p4), (.long ((p2.toInt64) + (p3.toInt64)))])) _
        refine XS.i2l X33.here hx rfl (hb hby at_69) rfl ?_
        show Steps p.tables e below (T33.setTop (mkF m 70 #[.val (.int p1), .val (.int p2), .val (.int p3), .val (.int p4), .val (.int p5), .val (.int (3 : Int32)), .val (.ref b21), .val (.long ((p2.toInt64) + (p3.toInt64))), .second, .unset, .unset] [(.long (p4.toInt64)), (.long ((p2.toInt64) + (p3.toInt64)))])) _
        refine XS.ladd X33.here hx rfl (hb hby at_70) rfl ?_
        show Steps p.tables e below (T33.setTop (mkF m 71 #[.val (.int p1), .val (.int p2), .val (.int p3), .val (.int p4), .val (.int p5), .val (.int (3 : Int32)), .val (.ref b21), .val (.long ((p2.toInt64) + (p3.toInt64))), .second, .unset, .unset] [(.long (((p2.toInt64) + (p3.toInt64)) + (p4.toInt64)))])) _
        refine XS.lstore X33.here hx rfl (hb hby at_71) rfl (l' := #[.val (.int p1), .val (.int p2), .val (.int p3), .val (.int p4), .val (.int p5), .val (.int (3 : Int32)), .val (.ref b21), .val (.long (((p2.toInt64) + (p3.toInt64)) + (p4.toInt64))), .second, .unset, .unset]) rfl ?_
        show Steps p.tables e below (T33.setTop (mkF m 73 #[.val (.int p1), .val (.int p2), .val (.int p3), .val (.int p4), .val (.int p5), .val (.int (3 : Int32)), .val (.ref b21), .val (.long (((p2.toInt64) + (p3.toInt64)) + (p4.toInt64))), .second, .unset, .unset] [])) _
        refine XS.iload X33.here hx rfl (hb hby at_73) rfl ?_
        show Steps p.tables e below (T33.setTop (mkF m 75 #[.val (.int p1), .val (.int p2), .val (.int p3), .val (.int p4), .val (.int p5), .val (.int (3 : Int32)), .val (.ref b21), .val (.long (((p2.toInt64) + (p3.toInt64)) + (p4.toInt64))), .second, .unset, .unset] [(.int (3 : Int32))])) _
        refine XS.iconst X33.here hx rfl (hb hby at_75) ?_
        show Steps p.tables e below (T33.setTop (mkF m 76 #[.val (.int p1), .val (.int p2), .val (.int p3), .val (.int p4), .val (.int p5), .val (.int (3 : Int32)), .val (.ref b21), .val (.long (((p2.toInt64) + (p3.toInt64)) + (p4.toInt64))), .second, .unset, .unset] [(.int (3 : Int32)), (.int (3 : Int32))])) _
        refine XS.icmpYes X33.here hx rfl (pc0 := 76) (pc' := 98) rfl (hb hby at_76) rfl (flt ((by decide) : ¬ ((3 : Int32) < (3 : Int32)))).2.2.2 (by decide) (by decide) ?_
        show Steps p.tables e below (T33.setTop (mkF m 98 #[.val (.int p1), .val (.int p2), .val (.int p3), .val (.int p4), .val (.int p5), .val (.int (3 : Int32)), .val (.ref b21), .val (.long (((p2.toInt64) + (p3.toInt64)) + (p4.toInt64))), .second, .unset, .unset] [])) _
        refine XS.lload X33.here hx rfl (hb hby at_98) rfl ?_
        show Steps p.tables e below (T33.setTop (mkF m 100 #[.val (.int p1), .val (.int p2), .val (.int p3), .val (.int p4), .val (.int p5), .val (.int (3 : Int32)), .val (.ref b21), .val (.long (((p2.toInt64) + (p3.toInt64)) + (p4.toInt64))), .second, .unset, .unset] [(.long (((p2.toInt64) + (p3.toInt64)) + (p4.toInt64)))])) _
        refine XS.l2dS X33.here hx rfl (hb hby at_100) rfl (v := (FP.l2d (((p2.toInt64) + (p3.toInt64)) + (p4.toInt64)))) rfl ?_
        show Steps p.tables e below (T33.setTop (mkF m 101 #[.val (.int p1), .val (.int p2), .val (.int p3), .val (.int p4), .val (.int p5), .val (.int (3 : Int32)), .val (.ref b21), .val (.long (((p2.toInt64) + (p3.toInt64)) + (p4.toInt64))), .second, .unset, .unset] [(.double (FP.l2d (((p2.toInt64) + (p3.toInt64)) + (p4.toInt64))))])) _
        refine X33.ldc2DoubleC hx hown (mvT hZ (hw _ (List.mem_of_getElem? (i := 1) rfl))) (g := (mkF m 101 #[.val (.int p1), .val (.int p2), .val (.int p3), .val (.int p4), .val (.int p5), .val (.int (3 : Int32)), .val (.ref b21), .val (.long (((p2.toInt64) + (p3.toInt64)) + (p4.toInt64))), .second, .unset, .unset] [(.double (FP.l2d (((p2.toInt64) + (p3.toInt64)) + (p4.toInt64))))])) rfl (hb hby at_101) _ ?_
        show Steps p.tables e below (T33.setTop (mkF m 104 #[.val (.int p1), .val (.int p2), .val (.int p3), .val (.int p4), .val (.int p5), .val (.int (3 : Int32)), .val (.ref b21), .val (.long (((p2.toInt64) + (p3.toInt64)) + (p4.toInt64))), .second, .unset, .unset] [(.double (4616189618054758400 : UInt64)), (.double (FP.l2d (((p2.toInt64) + (p3.toInt64)) + (p4.toInt64))))])) _
        refine XS.ddivS X33.here hx rfl (hb hby at_104) rfl hl.nn (v := (FP.ddiv (FP.l2d (((p2.toInt64) + (p3.toInt64)) + (p4.toInt64))) (4616189618054758400 : UInt64))) rfl ?_
        show Steps p.tables e below (T33.setTop (mkF m 105 #[.val (.int p1), .val (.int p2), .val (.int p3), .val (.int p4), .val (.int p5), .val (.int (3 : Int32)), .val (.ref b21), .val (.long (((p2.toInt64) + (p3.toInt64)) + (p4.toInt64))), .second, .unset, .unset] [(.double (FP.ddiv (FP.l2d (((p2.toInt64) + (p3.toInt64)) + (p4.toInt64))) (4616189618054758400 : UInt64)))])) _
        refine XS.iload X33.here hx rfl (hb hby at_105) rfl ?_
        show Steps p.tables e below (T33.setTop (mkF m 107 #[.val (.int p1), .val (.int p2), .val (.int p3), .val (.int p4), .val (.int p5), .val (.int (3 : Int32)), .val (.ref b21), .val (.long (((p2.toInt64) + (p3.toInt64)) + (p4.toInt64))), .second, .unset, .unset] [(.int (3 : Int32)), (.double (FP.ddiv (FP.l2d (((p2.toInt64) + (p3.toInt64)) + (p4.toInt64))) (4616189618054758400 : UInt64)))])) _
        refine XS.i2dS X33.here hx rfl (hb hby at_107) rfl (v := (FP.i2d (3 : Int32))) rfl ?_
        show Steps p.tables e below (T33.setTop (mkF m 108 #[.val (.int p1), .val (.int p2), .val (.int p3), .val (.int p4), .val (.int p5), .val (.int (3 : Int32)), .val (.ref b21), .val (.long (((p2.toInt64) + (p3.toInt64)) + (p4.toInt64))), .second, .unset, .unset] [(.double (FP.i2d (3 : Int32))), (.double (FP.ddiv (FP.l2d (((p2.toInt64) + (p3.toInt64)) + (p4.toInt64))) (4616189618054758400 : UInt64)))])) _
        refine XS.ddivS X33.here hx rfl (hb hby at_108) rfl (OwnFP.div_nn hl.1 (Fl.i2d_fin _) (own_kz (by decide))) (v := (FP.ddiv (FP.ddiv (FP.l2d (((p2.toInt64) + (p3.toInt64)) + (p4.toInt64))) (4616189618054758400 : UInt64)) (FP.i2d (3 : Int32)))) rfl ?_
        show Steps p.tables e below (T33.setTop (mkF m 109 #[.val (.int p1), .val (.int p2), .val (.int p3), .val (.int p4), .val (.int p5), .val (.int (3 : Int32)), .val (.ref b21), .val (.long (((p2.toInt64) + (p3.toInt64)) + (p4.toInt64))), .second, .unset, .unset] [(.double (FP.ddiv (FP.ddiv (FP.l2d (((p2.toInt64) + (p3.toInt64)) + (p4.toInt64))) (4616189618054758400 : UInt64)) (FP.i2d (3 : Int32))))])) _
        refine XS.dstore X33.here hx rfl (hb hby at_109) rfl (l' := #[.val (.int p1), .val (.int p2), .val (.int p3), .val (.int p4), .val (.int p5), .val (.int (3 : Int32)), .val (.ref b21), .val (.long (((p2.toInt64) + (p3.toInt64)) + (p4.toInt64))), .second, .val (.double (FP.ddiv (FP.ddiv (FP.l2d (((p2.toInt64) + (p3.toInt64)) + (p4.toInt64))) (4616189618054758400 : UInt64)) (FP.i2d (3 : Int32)))), .second]) rfl ?_
        show Steps p.tables e below (T33.setTop (mkF m 111 #[.val (.int p1), .val (.int p2), .val (.int p3), .val (.int p4), .val (.int p5), .val (.int (3 : Int32)), .val (.ref b21), .val (.long (((p2.toInt64) + (p3.toInt64)) + (p4.toInt64))), .second, .val (.double (FP.ddiv (FP.ddiv (FP.l2d (((p2.toInt64) + (p3.toInt64)) + (p4.toInt64))) (4616189618054758400 : UInt64)) (FP.i2d (3 : Int32)))), .second] [])) _
        refine XS.aload X33.here hx rfl (hb hby at_111) rfl rfl ?_
        show Steps p.tables e below (T33.setTop (mkF m 113 #[.val (.int p1), .val (.int p2), .val (.int p3), .val (.int p4), .val (.int p5), .val (.int (3 : Int32)), .val (.ref b21), .val (.long (((p2.toInt64) + (p3.toInt64)) + (p4.toInt64))), .second, .val (.double (FP.ddiv (FP.ddiv (FP.l2d (((p2.toInt64) + (p3.toInt64)) + (p4.toInt64))) (4616189618054758400 : UInt64)) (FP.i2d (3 : Int32)))), .second] [(.ref b21)])) _
        refine st35 _ ?_
        show Steps p.tables e below (T35.setTop (mkF m 116 #[.val (.int p1), .val (.int p2), .val (.int p3), .val (.int p4), .val (.int p5), .val (.int (3 : Int32)), .val (.ref b21), .val (.long (((p2.toInt64) + (p3.toInt64)) + (p4.toInt64))), .second, .val (.double (FP.ddiv (FP.ddiv (FP.l2d (((p2.toInt64) + (p3.toInt64)) + (p4.toInt64))) (4616189618054758400 : UInt64)) (FP.i2d (3 : Int32)))), .second] [(.double (FP.ddiv (FP.dadd (FP.dadd (FP.dadd (0 : UInt64) (FP.ddiv (FP.i2d p2) (4616189618054758400 : UInt64))) (FP.ddiv (FP.i2d p3) (4616189618054758400 : UInt64))) (FP.ddiv (FP.i2d p4) (4616189618054758400 : UInt64))) (FP.i2d (3 : Int32))))])) _
        refine XS.dload X35.here hx rfl (hb hby at_116) rfl ?_
        show Steps p.tables e below (T35.setTop (mkF m 118 #[.val (.int p1), .val (.int p2), .val (.int p3), .val (.int p4), .val (.int p5), .val (.int (3 : Int32)), .val (.ref b21), .val (.long (((p2.toInt64) + (p3.toInt64)) + (p4.toInt64))), .second, .val (.double (FP.ddiv (FP.ddiv (FP.l2d (((p2.toInt64) + (p3.toInt64)) + (p4.toInt64))) (4616189618054758400 : UInt64)) (FP.i2d (3 : Int32)))), .second] [(.double (FP.ddiv (FP.ddiv (FP.l2d (((p2.toInt64) + (p3.toInt64)) + (p4.toInt64))) (4616189618054758400 : UInt64)) (FP.i2d (3 : Int32)))), (.double (FP.ddiv (FP.dadd (FP.dadd (FP.dadd (0 : UInt64) (FP.ddiv (FP.i2d p2) (4616189618054758400 : UInt64))) (FP.ddiv (FP.i2d p3) (4616189618054758400 : UInt64))) (FP.ddiv (FP.i2d p4) (4616189618054758400 : UInt64))) (FP.i2d (3 : Int32))))])) _
        refine XS.dcmpS X35.here hx rfl (hb hby at_118) rfl (v := (0 : Int32)) (own_end i3 hl (by decide)) ?_
        show Steps p.tables e below (T35.setTop (mkF m 119 #[.val (.int p1), .val (.int p2), .val (.int p3), .val (.int p4), .val (.int p5), .val (.int (3 : Int32)), .val (.ref b21), .val (.long (((p2.toInt64) + (p3.toInt64)) + (p4.toInt64))), .second, .val (.double (FP.ddiv (FP.ddiv (FP.l2d (((p2.toInt64) + (p3.toInt64)) + (p4.toInt64))) (4616189618054758400 : UInt64)) (FP.i2d (3 : Int32)))), .second] [(.int (0 : Int32))])) _
        refine XS.ifNo X35.here hx rfl (hb hby at_119) rfl ((if0 _ _).trans (teq ((by decide) : (0 : Int32) = (0 : Int32))).2) ?_
        show Steps p.tables e below (T35.setTop (mkF m 122 #[.val (.int p1), .val (.int p2), .val (.int p3), .val (.int p4), .val (.int p5), .val (.int (3 : Int32)), .val (.ref b21), .val (.long (((p2.toInt64) + (p3.toInt64)) + (p4.toInt64))), .second, .val (.double (FP.ddiv (FP.ddiv (FP.l2d (((p2.toInt64) + (p3.toInt64)) + (p4.toInt64))) (4616189618054758400 : UInt64)) (FP.i2d (3 : Int32)))), .second] [])) _
        refine XS.iconst X35.here hx rfl (hb hby at_122) ?_
        show Steps p.tables e below (T35.setTop (mkF m 123 #[.val (.int p1), .val (.int p2), .val (.int p3), .val (.int p4), .val (.int p5), .val (.int (3 : Int32)), .val (.ref b21), .val (.long (((p2.toInt64) + (p3.toInt64)) + (p4.toInt64))), .second, .val (.double (FP.ddiv (FP.ddiv (FP.l2d (((p2.toInt64) + (p3.toInt64)) + (p4.toInt64))) (4616189618054758400 : UInt64)) (FP.i2d (3 : Int32)))), .second] [(.int (1 : Int32))])) _
        refine XS.goto X35.here hx rfl (pc0 := 123) (pc' := 127) rfl (hb hby at_123) (by decide) (by decide) ?_
        exact kt)
    obtain ⟨fs, hr, hrun, hended, hW, hsame⟩ := X35.leave (v := some (.int (1 : Int32))) (fun h => by rw [Bd.returns] at h; cases h)
    refine ⟨_, _, pre36 _ ?_, hrun, hended, _, _, rfl, ?_, ⟨_, rfl⟩, hW, hsame.mono (by decide) (by decide)⟩
    · show Steps p.tables e below (T35.setTop (mkF m 127 #[.val (.int p1), .val (.int p2), .val (.int p3), .val (.int p4), .val (.int p5), .val (.int (3 : Int32)), .val (.ref b21), .val (.long (((p2.toInt64) + (p3.toInt64)) + (p4.toInt64))), .second, .val (.double (FP.ddiv (FP.ddiv (FP.l2d (((p2.toInt64) + (p3.toInt64)) + (p4.toInt64))) (4616189618054758400 : UInt64)) (FP.i2d (3 : Int32)))), .second] [(.int (1 : Int32))])) _
      exact retN X35 hx (t := .boolean) Bd.returns (by simp) (hb hby at_127) hr
    · show Q0 Z p1 p2 p3 p4 p5 h0 n0 _ T35.heap _
      rw [e35]
      exact ⟨rfl, N35⟩
  · skip
    have r2 := rng32 p2; have r3 := rng32 p3; have r4 := rng32 p4; have r5 := rng32 p5
    have c2 := c_i2l p2; have c3 := c_i2l p3; have c4 := c_i2l p4; have c5 := c_i2l p5
    have ad1 := c_ladd p2.toInt64 p3.toInt64; have rl1 := rng64 (p2.toInt64 + p3.toInt64)
    have ad2 := c_ladd (p2.toInt64 + p3.toInt64) p4.toInt64; have rl2 := rng64 ((p2.toInt64 + p3.toInt64) + p4.toInt64)
    have ad3 := c_ladd ((p2.toInt64 + p3.toInt64) + p4.toInt64) p5.toInt64; have rl3 := rng64 (((p2.toInt64 + p3.toInt64) + p4.toInt64) + p5.toInt64)
    have es : ((((p2.toInt64 + p3.toInt64) + p4.toInt64) + p5.toInt64) : Int64).toInt = p2.toInt + p3.toInt + p4.toInt + p5.toInt := by omega
    have hl := own_l (v := (((p2.toInt64 + p3.toInt64) + p4.toInt64) + p5.toInt64)) (by omega)
    rw [es] at hl
    have i0 := own_z0
    have i1 := own_add i0 (own_q p2) (by omega)
    have i2 := own_add i1 (own_q p3) (by omega)
    have i3 := own_add i2 (own_q p4) (by omega)
    have i4 := own_add i3 (own_q p5) (by omega)
    have ie : (0 + p2.toInt + p3.toInt + p4.toInt + p5.toInt : Int) = p2.toInt + p3.toInt + p4.toInt + p5.toInt := by omega
    rw [ie] at i4
    obtain ⟨T37, h37, k37, X37, e37, E37, A37, st37⟩ := newP X0 hx hZ (hw _ (List.mem_of_getElem? (i := 0) rfl)) e0 (g := (mkF m 9 #[.val (.int p1), .val (.int p2), .val (.int p3), .val (.int p4), .val (.int p5), .val (.int (4 : Int32)), .unset, .unset, .unset, .unset, .unset] [(.int (4 : Int32))])) rfl (hb hby at_9) rfl (by decide) (cap := 4) (by decide) (by decide) (by decide) (by decide)
    obtain ⟨b37, g37⟩ : ∃ z, z = h0.size := ⟨_, rfl⟩
    rw [← g37] at A37 st37
    have g_b37 : n0 ≤ b37 := Nat.le_trans Z0 (Nat.le_of_eq g37.symm)
    have z38 : n0 ≤ h37.size := Nat.le_trans Z0 E37.1
    have V37 : Arv Z h37 b37 k37 .double (4 : Int32) [(.double (0 : UInt64)), (.double (0 : UInt64)), (.double (0 : UInt64)), (.double (0 : UInt64))] (.double (0 : UInt64)) := (Arv.new A37 (by decide)).pad (pad_rep [] (.double (0 : UInt64)) 4)
    obtain ⟨cl39, Ar39, Q39, S39, M39, H39, G39⟩ := id V37
    have in40 : ¬ ((0 : Int32) < 0 ∨ cl39.slots.size ≤ ((0 : Int32)).toNatClampNeg) := inb_of S39 ⟨by decide, by decide⟩
    obtain ⟨T41, h41, X41, e41, W41, st41⟩ := stD X37 hx hZ e37 Ar39 (j := (0 : Int32)) in40 (g := (mkF m 22 #[.val (.int p1), .val (.int p2), .val (.int p3), .val (.int p4), .val (.int p5), .val (.int (4 : Int32)), .val (.ref b37), .unset, .unset, .unset, .unset] [(.double (FP.ddiv (FP.i2d p2) (4616189618054758400 : UInt64))), (.int (0 : Int32)), (.ref b37)])) rfl rfl (hb hby at_22)
    have z42 : n0 ≤ h41.size := Nat.le_trans z38 (Keep.of_wr W41).1
    have V41 : Arv Z h41 b37 k37 .double (4 : Int32) [(.double (FP.ddiv (FP.i2d p2) (4616189618054758400 : UInt64))), (.double (0 : UInt64)), (.double (0 : UInt64)), (.double (0 : UInt64))] (.double (0 : UInt64)) := Arv.set Ar39 Q39 S39 M39 H39 G39 rfl W41 0 rfl (Nat.le_of_ble_eq_true rfl)
    have N41 : Fr n0 _ := Fr.snoc X41 N0 g_b37
    obtain ⟨cl43, Ar43, Q43, S43, M43, H43, G43⟩ := id V41
    have in44 : ¬ ((1 : Int32) < 0 ∨ cl43.slots.size ≤ ((1 : Int32)).toNatClampNeg) := inb_of S43 ⟨by decide, by decide⟩
    obtain ⟨T45, h45, X45, e45, W45, st45⟩ := stD X41 hx hZ e41 Ar43 (j := (1 : Int32)) in44 (g := (mkF m 42 #[.val (.int p1), .val (.int p2), .val (.int p3), .val (.int p4), .val (.int p5), .val (.int (4 : Int32)), .val (.ref b37), .val (.long (p2.toInt64)), .second, .unset, .unset] [(.double (FP.ddiv (FP.i2d p3) (4616189618054758400 : UInt64))), (.int (1 : Int32)), (.ref b37)])) rfl rfl (hb hby at_42)
    have z46 : n0 ≤ h45.size := Nat.le_trans z42 (Keep.of_wr W45).1
    have V45 : Arv Z h45 b37 k37 .double (4 : Int32) [(.double (FP.ddiv (FP.i2d p2) (4616189618054758400 : UInt64))), (.double (FP.ddiv (FP.i2d p3) (4616189618054758400 : UInt64))), (.double (0 : UInt64)), (.double (0 : UInt64))] (.double (0 : UInt64)) := Arv.set Ar43 Q43 S43 M43 H43 G43 rfl W45 1 rfl (Nat.le_of_ble_eq_true rfl)
    have N45 : Fr n0 _ := Fr.snoc X45 N41 g_b37
    obtain ⟨cl47, Ar47, Q47, S47, M47, H47, G47⟩ := id V45
    have in48 : ¬ ((2 : Int32) < 0 ∨ cl47.slots.size ≤ ((2 : Int32)).toNatClampNeg) := inb_of S47 ⟨by decide, by decide⟩
    obtain ⟨T49, h49, X49, e49, W49, st49⟩ := stD X45 hx hZ e45 Ar47 (j := (2 : Int32)) in48 (g := (mkF m 65 #[.val (.int p1), .val (.int p2), .val (.int p3), .val (.int p4), .val (.int p5), .val (.int (4 : Int32)), .val (.ref b37), .val (.long ((p2.toInt64) + (p3.toInt64))), .second, .unset, .unset] [(.double (FP.ddiv (FP.i2d p4) (4616189618054758400 : UInt64))), (.int (2 : Int32)), (.ref b37)])) rfl rfl (hb hby at_65)
    have z50 : n0 ≤ h49.size := Nat.le_trans z46 (Keep.of_wr W49).1
    have V49 : Arv Z h49 b37 k37 .double (4 : Int32) [(.double (FP.ddiv (FP.i2d p2) (4616189618054758400 : UInt64))), (.double (FP.ddiv (FP.i2d p3) (4616189618054758400 : UInt64))), (.double (FP.ddiv (FP.i2d p4) (4616189618054758400 : UInt64))), (.double (0 : UInt64))] (.double (0 : UInt64)) := Arv.set Ar47 Q47 S47 M47 H47 G47 rfl W49 2 rfl (Nat.le_of_ble_eq_true rfl)
    have N49 : Fr n0 _ := Fr.snoc X49 N45 g_b37
    obtain ⟨cl51, Ar51, Q51, S51, M51, H51, G51⟩ := id V49
    have in52 : ¬ ((3 : Int32) < 0 ∨ cl51.slots.size ≤ ((3 : Int32)).toNatClampNeg) := inb_of S51 ⟨by decide, by decide⟩
    obtain ⟨T53, h53, X53, e53, W53, st53⟩ := stD X49 hx hZ e49 Ar51 (j := (3 : Int32)) in52 (g := (mkF m 89 #[.val (.int p1), .val (.int p2), .val (.int p3), .val (.int p4), .val (.int p5), .val (.int (4 : Int32)), .val (.ref b37), .val (.long (((p2.toInt64) + (p3.toInt64)) + (p4.toInt64))), .second, .unset, .unset] [(.double (FP.ddiv (FP.i2d p5) (4616189618054758400 : UInt64))), (.int (3 : Int32)), (.ref b37)])) rfl rfl (hb hby at_89)
    have z54 : n0 ≤ h53.size := Nat.le_trans z50 (Keep.of_wr W53).1
    have V53 : Arv Z h53 b37 k37 .double (4 : Int32) [(.double (FP.ddiv (FP.i2d p2) (4616189618054758400 : UInt64))), (.double (FP.ddiv (FP.i2d p3) (4616189618054758400 : UInt64))), (.double (FP.ddiv (FP.i2d p4) (4616189618054758400 : UInt64))), (.double (FP.ddiv (FP.i2d p5) (4616189618054758400 : UInt64)))] (.double (0 : UInt64)) := Arv.set Ar51 Q51 S51 M51 H51 G51 rfl W53 3 rfl (Nat.le_of_ble_eq_true rfl)
    have N53 : Fr n0 _ := Fr.snoc X53 N49 g_b37
    obtain ⟨_, _, ⟨T55, L55, kk55, nn55⟩, -, X55, ⟨Lc55, hQ55, l55, y55, z55⟩, st55⟩ := Jvm.LawKit.callS X53 hx (y := (⟨"com/example/heft/heft/rank/Scope", "mean", "([D)D"⟩ : MethodName)) hown (mvT hZ (hw _ (List.mem_of_getElem? (i := 2) rfl))) (mvT hZ (hw _ (List.mem_of_getElem? (i := 3) rfl))) (mvT hZ (hw _ (List.mem_of_getElem? (i := 4) rfl))) (mvT hZ (hw _ (List.mem_of_getElem? (i := 5) rfl))) (by decide) (backOf (W := 0) (rmmean4 l Z a0 hw [] b37 (FP.ddiv (FP.i2d p2) (4616189618054758400 : UInt64)) (FP.ddiv (FP.i2d p3) (4616189618054758400 : UInt64)) (FP.ddiv (FP.i2d p4) (4616189618054758400 : UInt64)) (FP.ddiv (FP.i2d p5) (4616189618054758400 : UInt64)) k37 h53 n0 z54 V53 (i1.nn) (i2.nn) (i3.nn) (i4.nn) (OwnFP.div_nn i4.1 (Fl.i2d_fin _) (own_kz (by decide)))) hZ (hw _ (List.mem_of_getElem? (i := 5) rfl)) (hw _ (List.mem_of_getElem? (i := 4) rfl)) (by decide) (by decide)) (g := (mkF m 113 #[.val (.int p1), .val (.int p2), .val (.int p3), .val (.int p4), .val (.int p5), .val (.int (4 : Int32)), .val (.ref b37), .val (.long ((((p2.toInt64) + (p3.toInt64)) + (p4.toInt64)) + (p5.toInt64))), .second, .val (.double (FP.ddiv (FP.ddiv (FP.l2d ((((p2.toInt64) + (p3.toInt64)) + (p4.toInt64)) + (p5.toInt64))) (4616189618054758400 : UInt64)) (FP.i2d (4 : Int32)))), .second] [(.ref b37)])) rfl (by rw [hml]; rfl) (argsL := [(.ref b37)]) (rest := []) (lenOf pd__28_5bD_29D rfl) rfl (by show 2 * 0 + _ ≤ _; exact Nat.le_of_eq rfl) (hb hby at_113) (fun _ _ => ⟨rfl, e53, (by decide : 1 + 0 ≤ _), (by decide : 4 + 0 ≤ _)⟩)
    dsimp only [Pt.U, Pt.locs, Pt.cells, Pt.slots] at X55 l55 y55 z55 st55 hQ55
    subst l55 y55 z55
    obtain ⟨rfl, N55q, e55⟩ := hQ55
    have N55 := Fr.app N53 N55q
    have pre56 : ∀ t, Steps p.tables e below (T55.setTop (mkF m 127 #[.val (.int p1), .val (.int p2), .val (.int p3), .val (.int p4), .val (.int p5), .val (.int (4 : Int32)), .val (.ref b37), .val (.long ((((p2.toInt64) + (p3.toInt64)) + (p4.toInt64)) + (p5.toInt64))), .second, .val (.double (FP.ddiv (FP.ddiv (FP.l2d ((((p2.toInt64) + (p3.toInt64)) + (p4.toInt64)) + (p5.toInt64))) (4616189618054758400 : UInt64)) (FP.i2d (4 : Int32)))), .second] [(.int (1 : Int32))])) t → Steps p.tables e below (s₁.setTop (entryFrame m #[(.int p1), (.int p2), (.int p3), (.int p4), (.int p5)] maxLocals)) t := fun t kt => pre0 t (by
        show Steps p.tables e below (s₁.setTop (mkF m 0 #[.val (.int p1), .val (.int p2), .val (.int p3), .val (.int p4), .val (.int p5), .unset, .unset, .unset, .unset, .unset, .unset] [])) _
        refine XS.iconst X0.here hx rfl (hb hby at_0) ?_
        show Steps p.tables e below (s₁.setTop (mkF m 1 #[.val (.int p1), .val (.int p2), .val (.int p3), .val (.int p4), .val (.int p5), .unset, .unset, .unset, .unset, .unset, .unset] [(.int (1 : Int32))])) _
        refine XS.iloadN X0.here hx rfl (hb hby at_1) rfl ?_
        show Steps p.tables e below (s₁.setTop (mkF m 2 #[.val (.int p1), .val (.int p2), .val (.int p3), .val (.int p4), .val (.int p5), .unset, .unset, .unset, .unset, .unset, .unset] [(.int p1), (.int (1 : Int32))])) _
        refine XS.iconst X0.here hx rfl (hb hby at_2) ?_
        show Steps p.tables e below (s₁.setTop (mkF m 3 #[.val (.int p1), .val (.int p2), .val (.int p3), .val (.int p4), .val (.int p5), .unset, .unset, .unset, .unset, .unset, .unset] [(.int (3 : Int32)), (.int p1), (.int (1 : Int32))])) _
        refine XS.iand X0.here hx rfl (hb hby at_3) rfl ?_
        show Steps p.tables e below (s₁.setTop (mkF m 4 #[.val (.int p1), .val (.int p2), .val (.int p3), .val (.int p4), .val (.int p5), .unset, .unset, .unset, .unset, .unset, .unset] [(.int (p1 &&& (3 : Int32))), (.int (1 : Int32))])) _
        refine XS.iadd X0.here hx rfl (hb hby at_4) rfl ?_
        show Steps p.tables e below (s₁.setTop (mkF m 5 #[.val (.int p1), .val (.int p2), .val (.int p3), .val (.int p4), .val (.int p5), .unset, .unset, .unset, .unset, .unset, .unset] [(.int ((1 : Int32) + (p1 &&& (3 : Int32))))])) _
        rw [hk]
        show Steps p.tables e below (s₁.setTop (mkF m 5 #[.val (.int p1), .val (.int p2), .val (.int p3), .val (.int p4), .val (.int p5), .unset, .unset, .unset, .unset, .unset, .unset] [(.int (4 : Int32))])) _
        refine XS.istore X0.here hx rfl (hb hby at_5) rfl (l' := #[.val (.int p1), .val (.int p2), .val (.int p3), .val (.int p4), .val (.int p5), .val (.int (4 : Int32)), .unset, .unset, .unset, .unset, .unset]) rfl ?_
        show Steps p.tables e below (s₁.setTop (mkF m 7 #[.val (.int p1), .val (.int p2), .val (.int p3), .val (.int p4), .val (.int p5), .val (.int (4 : Int32)), .unset, .unset, .unset, .unset, .unset] [])) _
        refine XS.iload X0.here hx rfl (hb hby at_7) rfl ?_
        show Steps p.tables e below (s₁.setTop (mkF m 9 #[.val (.int p1), .val (.int p2), .val (.int p3), .val (.int p4), .val (.int p5), .val (.int (4 : Int32)), .unset, .unset, .unset, .unset, .unset] [(.int (4 : Int32))])) _
        refine st37 _ ?_
        show Steps p.tables e below (T37.setTop (mkF m 11 #[.val (.int p1), .val (.int p2), .val (.int p3), .val (.int p4), .val (.int p5), .val (.int (4 : Int32)), .unset, .unset, .unset, .unset, .unset] [(.ref b37)])) _
        refine XS.astore X37.here hx rfl (hb hby at_11) rfl rfl (l' := #[.val (.int p1), .val (.int p2), .val (.int p3), .val (.int p4), .val (.int p5), .val (.int (4 : Int32)), .val (.ref b37), .unset, .unset, .unset, .unset]) rfl ?_
        show Steps p.tables e below (T37.setTop (mkF m 13 #[.val (.int p1), .val (.int p2), .val (.int p3), .val (.int p4), .val (.int p5), .val (.int (4 : Int32)), .val (.ref b37), .unset, .unset, .unset, .unset] [])) _
        refine XS.aload X37.here hx rfl (hb hby at_13) rfl rfl ?_
        show Steps p.tables e below (T37.setTop (mkF m 15 #[.val (.int p1), .val (.int p2), .val (.int p3), .val (.int p4), .val (.int p5), .val (.int (4 : Int32)), .val (.ref b37), .unset, .unset, .unset, .unset] [(.ref b37)])) _
        refine XS.iconst X37.here hx rfl (hb hby at_15) ?_
        show Steps p.tables e below (T37.setTop (mkF m 16 #[.val (.int p1), .val (.int p2), .val (.int p3), .val (.int p4), .val (.int p5), .val (.int (4 : Int32)), .val (.ref b37), .unset, .unset, .unset, .unset] [(.int (0 : Int32)), (.ref b37)])) _
        refine XS.iloadN X37.here hx rfl (hb hby at_16) rfl ?_
        show Steps p.tables e below (T37.setTop (mkF m 17 #[.val (.int p1), .val (.int p2), .val (.int p3), .val (.int p4), .val (.int p5), .val (.int (4 : Int32)), .val (.ref b37), .unset, .unset, .unset, .unset] [(.int p2), (.int (0 : Int32)), (.ref b37)])) _
        refine XS.i2dS X37.here hx rfl (hb hby at_17) rfl (v := (FP.i2d p2)) rfl ?_
        show Steps p.tables e below (T37.setTop (mkF m 18 #[.val (.int p1), .val (.int p2), .val (.int p3), .val (.int p4), .val (.int p5), .val (.int (4 : Int32)), .val (.ref b37), .unset, .unset, .unset, .unset] [(.double (FP.i2d p2)), (.int (0 : Int32)), (.ref b37)])) _
        refine X37.ldc2DoubleC hx hown (mvT hZ (hw _ (List.mem_of_getElem? (i := 1) rfl))) (g := (mkF m 18 #[.val (.int p1), .val (.int p2), .val (.int p3), .val (.int p4), .val (.int p5), .val (.int (4 : Int32)), .val (.ref b37), .unset, .unset, .unset, .unset] [(.double (FP.i2d p2)), (.int (0 : Int32)), (.ref b37)])) rfl (hb hby at_18) _ ?_
        show Steps p.tables e below (T37.setTop (mkF m 21 #[.val (.int p1), .val (.int p2), .val (.int p3), .val (.int p4), .val (.int p5), .val (.int (4 : Int32)), .val (.ref b37), .unset, .unset, .unset, .unset] [(.double (4616189618054758400 : UInt64)), (.double (FP.i2d p2)), (.int (0 : Int32)), (.ref b37)])) _
        refine XS.ddivS X37.here hx rfl (hb hby at_21) rfl (own_q p2).nn (v := (FP.ddiv (FP.i2d p2) (4616189618054758400 : UInt64))) rfl ?_
        show Steps p.tables e below (T37.setTop (mkF m 22 #[.val (.int p1), .val (.int p2), .val (.int p3), .val (.int p4), .val (.int p5), .val (.int (4 : Int32)), .val (.ref b37), .unset, .unset, .unset, .unset] [(.double (FP.ddiv (FP.i2d p2) (4616189618054758400 : UInt64))), (.int (0 : Int32)), (.ref b37)])) _
        refine st41 _ ?_
        show Steps p.tables e below (T41.setTop (mkF m 23 #[.val (.int p1), .val (.int p2), .val (.int p3), .val (.int p4), .val (.int p5), .val (.int (4 : Int32)), .val (.ref b37), .unset, .unset, .unset, .unset] [])) _
        refine XS.iloadN X41.here hx rfl (hb hby at_23) rfl ?_
        show Steps p.tables e below (T41.setTop (mkF m 24 #[.val (.int p1), .val (.int p2), .val (.int p3), .val (.int p4), .val (.int p5), .val (.int (4 : Int32)), .val (.ref b37), .unset, .unset, .unset, .unset] [(.int p2)])) _
        refine XS.i2l X41.here hx rfl (hb hby at_24) rfl ?_
        show Steps p.tables e below (T41.setTop (mkF m 25 #[.val (.int p1), .val (.int p2), .val (.int p3), .val (.int p4), .val (.int p5), .val (.int (4 : Int32)), .val (.ref b37), .unset, .unset, .unset, .unset] [(.long (p2.toInt64))])) _
        refine XS.lstore X41.here hx rfl (hb hby at_25) rfl (l' := #[.val (.int p1), .val (.int p2), .val (.int p3), .val (.int p4), .val (.int p5), .val (.int (4 : Int32)), .val (.ref b37), .val (.long (p2.toInt64)), .second, .unset, .unset]) rfl ?_
        show Steps p.tables e below (T41.setTop (mkF m 27 #[.val (.int p1), .val (.int p2), .val (.int p3), .val (.int p4), .val (.int p5), .val (.int (4 : Int32)), .val (.ref b37), .val (.long (p2.toInt64)), .second, .unset, .unset] [])) _
        refine XS.iload X41.here hx rfl (hb hby at_27) rfl ?_
        show Steps p.tables e below (T41.setTop (mkF m 29 #[.val (.int p1), .val (.int p2), .val (.int p3), .val (.int p4), .val (.int p5), .val (.int (4 : Int32)), .val (.ref b37), .val (.long (p2.toInt64)), .second, .unset, .unset] [(.int (4 : Int32))])) _
        refine XS.iconst X41.here hx rfl (hb hby at_29) ?_
        show Steps p.tables e below (T41.setTop (mkF m 30 #[.val (.int p1), .val (.int p2), .val (.int p3), .val (.int p4), .val (.int p5), .val (.int (4 : Int32)), .val (.ref b37), .val (.long (p2.toInt64)), .second, .unset, .unset] [(.int (1 : Int32)), (.int (4 : Int32))])) _
        refine XS.icmpNo X41.here hx rfl (hb hby at_30) rfl (tlt ((by decide) : (1 : Int32) < (4 : Int32))).2.2.2 ?_
        show Steps p.tables e below (T41.setTop (mkF m 33 #[.val (.int p1), .val (.int p2), .val (.int p3), .val (.int p4), .val (.int p5), .val (.int (4 : Int32)), .val (.ref b37), .val (.long (p2.toInt64)), .second, .unset, .unset] [])) _
        refine XS.aload X41.here hx rfl (hb hby at_33) rfl rfl ?_
        show Steps p.tables e below (T41.setTop (mkF m 35 #[.val (.int p1), .val (.int p2), .val (.int p3), .val (.int p4), .val (.int p5), .val (.int (4 : Int32)), .val (.ref b37), .val (.long (p2.toInt64)), .second, .unset, .unset] [(.ref b37)])) _
        refine XS.iconst X41.here hx rfl (hb hby at_35) ?_
        show Steps p.tables e below (T41.setTop (mkF m 36 #[.val (.int p1), .val (.int p2), .val (.int p3), .val (.int p4), .val (.int p5), .val (.int (4 : Int32)), .val (.ref b37), .val (.long (p2.toInt64)), .second, .unset, .unset] [(.int (1 : Int32)), (.ref b37)])) _
        refine XS.iloadN X41.here hx rfl (hb hby at_36) rfl ?_
        show Steps p.tables e below (T41.setTop (mkF m 37 #[.val (.int p1), .val (.int p2), .val (.int p3), .val (.int p4), .val (.int p5), .val (.int (4 : Int32)), .val (.ref b37), .val (.long (p2.toInt64)), .second, .unset, .unset] [(.int p3), (.int (1 : Int32)), (.ref b37)])) _
        refine XS.i2dS X41.here hx rfl (hb hby at_37) rfl (v := (FP.i2d p3)) rfl ?_
        show Steps p.tables e below (T41.setTop (mkF m 38 #[.val (.int p1), .val (.int p2), .val (.int p3), .val (.int p4), .val (.int p5), .val (.int (4 : Int32)), .val (.ref b37), .val (.long (p2.toInt64)), .second, .unset, .unset] [(.double (FP.i2d p3)), (.int (1 : Int32)), (.ref b37)])) _
        refine X41.ldc2DoubleC hx hown (mvT hZ (hw _ (List.mem_of_getElem? (i := 1) rfl))) (g := (mkF m 38 #[.val (.int p1), .val (.int p2), .val (.int p3), .val (.int p4), .val (.int p5), .val (.int (4 : Int32)), .val (.ref b37), .val (.long (p2.toInt64)), .second, .unset, .unset] [(.double (FP.i2d p3)), (.int (1 : Int32)), (.ref b37)])) rfl (hb hby at_38) _ ?_
        show Steps p.tables e below (T41.setTop (mkF m 41 #[.val (.int p1), .val (.int p2), .val (.int p3), .val (.int p4), .val (.int p5), .val (.int (4 : Int32)), .val (.ref b37), .val (.long (p2.toInt64)), .second, .unset, .unset] [(.double (4616189618054758400 : UInt64)), (.double (FP.i2d p3)), (.int (1 : Int32)), (.ref b37)])) _
        refine XS.ddivS X41.here hx rfl (hb hby at_41) rfl (own_q p3).nn (v := (FP.ddiv (FP.i2d p3) (4616189618054758400 : UInt64))) rfl ?_
        show Steps p.tables e below (T41.setTop (mkF m 42 #[.val (.int p1), .val (.int p2), .val (.int p3), .val (.int p4), .val (.int p5), .val (.int (4 : Int32)), .val (.ref b37), .val (.long (p2.toInt64)), .second, .unset, .unset] [(.double (FP.ddiv (FP.i2d p3) (4616189618054758400 : UInt64))), (.int (1 : Int32)), (.ref b37)])) _
        refine st45 _ ?_
        show Steps p.tables e below (T45.setTop (mkF m 43 #[.val (.int p1), .val (.int p2), .val (.int p3), .val (.int p4), .val (.int p5), .val (.int (4 : Int32)), .val (.ref b37), .val (.long (p2.toInt64)), .second, .unset, .unset] [])) _
        refine XS.lload X45.here hx rfl (hb hby at_43) rfl ?_
        show Steps p.tables e below (T45.setTop (mkF m 45 #[.val (.int p1), .val (.int p2), .val (.int p3), .val (.int p4), .val (.int p5), .val (.int (4 : Int32)), .val (.ref b37), .val (.long (p2.toInt64)), .second, .unset, .unset] [(.long (p2.toInt64))])) _
        refine XS.iloadN X45.here hx rfl (hb hby at_45) rfl ?_
        show Steps p.tables e below (T45.setTop (mkF m 46 #[.val (.int p1), .val (.int p2), .val (.int p3), .val (.int p4), .val (.int p5), .val (.int (4 : Int32)), .val (.ref b37), .val (.long (p2.toInt64)), .second, .unset, .unset] [(.int p3), (.long (p2.toInt64))])) _
        refine XS.i2l X45.here hx rfl (hb hby at_46) rfl ?_
        show Steps p.tables e below (T45.setTop (mkF m 47 #[.val (.int p1), .val (.int p2), .val (.int p3), .val (.int p4), .val (.int p5), .val (.int (4 : Int32)), .val (.ref b37), .val (.long (p2.toInt64)), .second, .unset, .unset] [(.long (p3.toInt64)), (.long (p2.toInt64))])) _
        refine XS.ladd X45.here hx rfl (hb hby at_47) rfl ?_
        show Steps p.tables e below (T45.setTop (mkF m 48 #[.val (.int p1), .val (.int p2), .val (.int p3), .val (.int p4), .val (.int p5), .val (.int (4 : Int32)), .val (.ref b37), .val (.long (p2.toInt64)), .second, .unset, .unset] [(.long ((p2.toInt64) + (p3.toInt64)))])) _
        refine XS.lstore X45.here hx rfl (hb hby at_48) rfl (l' := #[.val (.int p1), .val (.int p2), .val (.int p3), .val (.int p4), .val (.int p5), .val (.int (4 : Int32)), .val (.ref b37), .val (.long ((p2.toInt64) + (p3.toInt64))), .second, .unset, .unset]) rfl ?_
        show Steps p.tables e below (T45.setTop (mkF m 50 #[.val (.int p1), .val (.int p2), .val (.int p3), .val (.int p4), .val (.int p5), .val (.int (4 : Int32)), .val (.ref b37), .val (.long ((p2.toInt64) + (p3.toInt64))), .second, .unset, .unset] [])) _
        refine XS.iload X45.here hx rfl (hb hby at_50) rfl ?_
        show Steps p.tables e below (T45.setTop (mkF m 52 #[.val (.int p1), .val (.int p2), .val (.int p3), .val (.int p4), .val (.int p5), .val (.int (4 : Int32)), .val (.ref b37), .val (.long ((p2.toInt64) + (p3.toInt64))), .second, .unset, .unset] [(.int (4 : Int32))])) _
        refine XS.iconst X45.here hx rfl (hb hby at_52) ?_
        show Steps p.tables e below (T45.setTop (mkF m 53 #[.val (.int p1), .val (.int p2), .val (.int p3), .val (.int p4), .val (.int p5), .val (.int (4 : Int32)), .val (.ref b37), .val (.long ((p2.toInt64) + (p3.toInt64))), .second, .unset, .unset] [(.int (2 : Int32)), (.int (4 : Int32))])) _
        refine XS.icmpNo X45.here hx rfl (hb hby at_53) rfl (tlt ((by decide) : (2 : Int32) < (4 : Int32))).2.2.2 ?_
        show Steps p.tables e below (T45.setTop (mkF m 56 #[.val (.int p1), .val (.int p2), .val (.int p3), .val (.int p4), .val (.int p5), .val (.int (4 : Int32)), .val (.ref b37), .val (.long ((p2.toInt64) + (p3.toInt64))), .second, .unset, .unset] [])) _
        refine XS.aload X45.here hx rfl (hb hby at_56) rfl rfl ?_
        show Steps p.tables e below (T45.setTop (mkF m 58 #[.val (.int p1), .val (.int p2), .val (.int p3), .val (.int p4), .val (.int p5), .val (.int (4 : Int32)), .val (.ref b37), .val (.long ((p2.toInt64) + (p3.toInt64))), .second, .unset, .unset] [(.ref b37)])) _
        refine XS.iconst X45.here hx rfl (hb hby at_58) ?_
        show Steps p.tables e below (T45.setTop (mkF m 59 #[.val (.int p1), .val (.int p2), .val (.int p3), .val (.int p4), .val (.int p5), .val (.int (4 : Int32)), .val (.ref b37), .val (.long ((p2.toInt64) + (p3.toInt64))), .second, .unset, .unset] [(.int (2 : Int32)), (.ref b37)])) _
        refine XS.iloadN X45.here hx rfl (hb hby at_59) rfl ?_
        show Steps p.tables e below (T45.setTop (mkF m 60 #[.val (.int p1), .val (.int p2), .val (.int p3), .val (.int p4), .val (.int p5), .val (.int (4 : Int32)), .val (.ref b37), .val (.long ((p2.toInt64) + (p3.toInt64))), .second, .unset, .unset] [(.int p4), (.int (2 : Int32)), (.ref b37)])) _
        refine XS.i2dS X45.here hx rfl (hb hby at_60) rfl (v := (FP.i2d p4)) rfl ?_
        show Steps p.tables e below (T45.setTop (mkF m 61 #[.val (.int p1), .val (.int p2), .val (.int p3), .val (.int p4), .val (.int p5), .val (.int (4 : Int32)), .val (.ref b37), .val (.long ((p2.toInt64) + (p3.toInt64))), .second, .unset, .unset] [(.double (FP.i2d p4)), (.int (2 : Int32)), (.ref b37)])) _
        refine X45.ldc2DoubleC hx hown (mvT hZ (hw _ (List.mem_of_getElem? (i := 1) rfl))) (g := (mkF m 61 #[.val (.int p1), .val (.int p2), .val (.int p3), .val (.int p4), .val (.int p5), .val (.int (4 : Int32)), .val (.ref b37), .val (.long ((p2.toInt64) + (p3.toInt64))), .second, .unset, .unset] [(.double (FP.i2d p4)), (.int (2 : Int32)), (.ref b37)])) rfl (hb hby at_61) _ ?_
        show Steps p.tables e below (T45.setTop (mkF m 64 #[.val (.int p1), .val (.int p2), .val (.int p3), .val (.int p4), .val (.int p5), .val (.int (4 : Int32)), .val (.ref b37), .val (.long ((p2.toInt64) + (p3.toInt64))), .second, .unset, .unset] [(.double (4616189618054758400 : UInt64)), (.double (FP.i2d p4)), (.int (2 : Int32)), (.ref b37)])) _
        refine XS.ddivS X45.here hx rfl (hb hby at_64) rfl (own_q p4).nn (v := (FP.ddiv (FP.i2d p4) (4616189618054758400 : UInt64))) rfl ?_
        show Steps p.tables e below (T45.setTop (mkF m 65 #[.val (.int p1), .val (.int p2), .val (.int p3), .val (.int p4), .val (.int p5), .val (.int (4 : Int32)), .val (.ref b37), .val (.long ((p2.toInt64) + (p3.toInt64))), .second, .unset, .unset] [(.double (FP.ddiv (FP.i2d p4) (4616189618054758400 : UInt64))), (.int (2 : Int32)), (.ref b37)])) _
        refine st49 _ ?_
        show Steps p.tables e below (T49.setTop (mkF m 66 #[.val (.int p1), .val (.int p2), .val (.int p3), .val (.int p4), .val (.int p5), .val (.int (4 : Int32)), .val (.ref b37), .val (.long ((p2.toInt64) + (p3.toInt64))), .second, .unset, .unset] [])) _
        refine XS.lload X49.here hx rfl (hb hby at_66) rfl ?_
        show Steps p.tables e below (T49.setTop (mkF m 68 #[.val (.int p1), .val (.int p2), .val (.int p3), .val (.int p4), .val (.int p5), .val (.int (4 : Int32)), .val (.ref b37), .val (.long ((p2.toInt64) + (p3.toInt64))), .second, .unset, .unset] [(.long ((p2.toInt64) + (p3.toInt64)))])) _
        refine XS.iloadN X49.here hx rfl (hb hby at_68) rfl ?_
        show Steps p.tables e below (T49.setTop (mkF m 69 #[.val (.int p1), .val (.int p2), .val (.int p3), .val (.int p4), .val (.int p5), .val (.int (4 : Int32)), .val (.ref b37), .val (.long ((p2.toInt64) + (p3.toInt64))), .second, .unset, .unset] [(.int p4), (.long ((p2.toInt64) + (p3.toInt64)))])) _
        refine XS.i2l X49.here hx rfl (hb hby at_69) rfl ?_
        show Steps p.tables e below (T49.setTop (mkF m 70 #[.val (.int p1), .val (.int p2), .val (.int p3), .val (.int p4), .val (.int p5), .val (.int (4 : Int32)), .val (.ref b37), .val (.long ((p2.toInt64) + (p3.toInt64))), .second, .unset, .unset] [(.long (p4.toInt64)), (.long ((p2.toInt64) + (p3.toInt64)))])) _
        refine XS.ladd X49.here hx rfl (hb hby at_70) rfl ?_
        show Steps p.tables e below (T49.setTop (mkF m 71 #[.val (.int p1), .val (.int p2), .val (.int p3), .val (.int p4), .val (.int p5), .val (.int (4 : Int32)), .val (.ref b37), .val (.long ((p2.toInt64) + (p3.toInt64))), .second, .unset, .unset] [(.long (((p2.toInt64) + (p3.toInt64)) + (p4.toInt64)))])) _
        refine XS.lstore X49.here hx rfl (hb hby at_71) rfl (l' := #[.val (.int p1), .val (.int p2), .val (.int p3), .val (.int p4), .val (.int p5), .val (.int (4 : Int32)), .val (.ref b37), .val (.long (((p2.toInt64) + (p3.toInt64)) + (p4.toInt64))), .second, .unset, .unset]) rfl ?_
        show Steps p.tables e below (T49.setTop (mkF m 73 #[.val (.int p1), .val (.int p2), .val (.int p3), .val (.int p4), .val (.int p5), .val (.int (4 : Int32)), .val (.ref b37), .val (.long (((p2.toInt64) + (p3.toInt64)) + (p4.toInt64))), .second, .unset, .unset] [])) _
        refine XS.iload X49.here hx rfl (hb hby at_73) rfl ?_
        show Steps p.tables e below (T49.setTop (mkF m 75 #[.val (.int p1), .val (.int p2), .val (.int p3), .val (.int p4), .val (.int p5), .val (.int (4 : Int32)), .val (.ref b37), .val (.long (((p2.toInt64) + (p3.toInt64)) + (p4.toInt64))), .second, .unset, .unset] [(.int (4 : Int32))])) _
        refine XS.iconst X49.here hx rfl (hb hby at_75) ?_
        show Steps p.tables e below (T49.setTop (mkF m 76 #[.val (.int p1), .val (.int p2), .val (.int p3), .val (.int p4), .val (.int p5), .val (.int (4 : Int32)), .val (.ref b37), .val (.long (((p2.toInt64) + (p3.toInt64)) + (p4.toInt64))), .second, .unset, .unset] [(.int (3 : Int32)), (.int (4 : Int32))])) _
        refine XS.icmpNo X49.here hx rfl (hb hby at_76) rfl (tlt ((by decide) : (3 : Int32) < (4 : Int32))).2.2.2 ?_
        show Steps p.tables e below (T49.setTop (mkF m 79 #[.val (.int p1), .val (.int p2), .val (.int p3), .val (.int p4), .val (.int p5), .val (.int (4 : Int32)), .val (.ref b37), .val (.long (((p2.toInt64) + (p3.toInt64)) + (p4.toInt64))), .second, .unset, .unset] [])) _
        refine XS.aload X49.here hx rfl (hb hby at_79) rfl rfl ?_
        show Steps p.tables e below (T49.setTop (mkF m 81 #[.val (.int p1), .val (.int p2), .val (.int p3), .val (.int p4), .val (.int p5), .val (.int (4 : Int32)), .val (.ref b37), .val (.long (((p2.toInt64) + (p3.toInt64)) + (p4.toInt64))), .second, .unset, .unset] [(.ref b37)])) _
        refine XS.iconst X49.here hx rfl (hb hby at_81) ?_
        show Steps p.tables e below (T49.setTop (mkF m 82 #[.val (.int p1), .val (.int p2), .val (.int p3), .val (.int p4), .val (.int p5), .val (.int (4 : Int32)), .val (.ref b37), .val (.long (((p2.toInt64) + (p3.toInt64)) + (p4.toInt64))), .second, .unset, .unset] [(.int (3 : Int32)), (.ref b37)])) _
        refine XS.iload X49.here hx rfl (hb hby at_82) rfl ?_
        show Steps p.tables e below (T49.setTop (mkF m 84 #[.val (.int p1), .val (.int p2), .val (.int p3), .val (.int p4), .val (.int p5), .val (.int (4 : Int32)), .val (.ref b37), .val (.long (((p2.toInt64) + (p3.toInt64)) + (p4.toInt64))), .second, .unset, .unset] [(.int p5), (.int (3 : Int32)), (.ref b37)])) _
        refine XS.i2dS X49.here hx rfl (hb hby at_84) rfl (v := (FP.i2d p5)) rfl ?_
        show Steps p.tables e below (T49.setTop (mkF m 85 #[.val (.int p1), .val (.int p2), .val (.int p3), .val (.int p4), .val (.int p5), .val (.int (4 : Int32)), .val (.ref b37), .val (.long (((p2.toInt64) + (p3.toInt64)) + (p4.toInt64))), .second, .unset, .unset] [(.double (FP.i2d p5)), (.int (3 : Int32)), (.ref b37)])) _
        refine X49.ldc2DoubleC hx hown (mvT hZ (hw _ (List.mem_of_getElem? (i := 1) rfl))) (g := (mkF m 85 #[.val (.int p1), .val (.int p2), .val (.int p3), .val (.int p4), .val (.int p5), .val (.int (4 : Int32)), .val (.ref b37), .val (.long (((p2.toInt64) + (p3.toInt64)) + (p4.toInt64))), .second, .unset, .unset] [(.double (FP.i2d p5)), (.int (3 : Int32)), (.ref b37)])) rfl (hb hby at_85) _ ?_
        show Steps p.tables e below (T49.setTop (mkF m 88 #[.val (.int p1), .val (.int p2), .val (.int p3), .val (.int p4), .val (.int p5), .val (.int (4 : Int32)), .val (.ref b37), .val (.long (((p2.toInt64) + (p3.toInt64)) + (p4.toInt64))), .second, .unset, .unset] [(.double (4616189618054758400 : UInt64)), (.double (FP.i2d p5)), (.int (3 : Int32)), (.ref b37)])) _
        refine XS.ddivS X49.here hx rfl (hb hby at_88) rfl (own_q p5).nn (v := (FP.ddiv (FP.i2d p5) (4616189618054758400 : UInt64))) rfl ?_
        show Steps p.tables e below (T49.setTop (mkF m 89 #[.val (.int p1), .val (.int p2), .val (.int p3), .val (.int p4), .val (.int p5), .val (.int (4 : Int32)), .val (.ref b37), .val (.long (((p2.toInt64) + (p3.toInt64)) + (p4.toInt64))), .second, .unset, .unset] [(.double (FP.ddiv (FP.i2d p5) (4616189618054758400 : UInt64))), (.int (3 : Int32)), (.ref b37)])) _
        refine st53 _ ?_
        show Steps p.tables e below (T53.setTop (mkF m 90 #[.val (.int p1), .val (.int p2), .val (.int p3), .val (.int p4), .val (.int p5), .val (.int (4 : Int32)), .val (.ref b37), .val (.long (((p2.toInt64) + (p3.toInt64)) + (p4.toInt64))), .second, .unset, .unset] [])) _
        refine XS.lload X53.here hx rfl (hb hby at_90) rfl ?_
        show Steps p.tables e below (T53.setTop (mkF m 92 #[.val (.int p1), .val (.int p2), .val (.int p3), .val (.int p4), .val (.int p5), .val (.int (4 : Int32)), .val (.ref b37), .val (.long (((p2.toInt64) + (p3.toInt64)) + (p4.toInt64))), .second, .unset, .unset] [(.long (((p2.toInt64) + (p3.toInt64)) + (p4.toInt64)))])) _
        refine XS.iload X53.here hx rfl (hb hby at_92) rfl ?_
        show Steps p.tables e below (T53.setTop (mkF m 94 #[.val (.int p1), .val (.int p2), .val (.int p3), .val (.int p4), .val (.int p5), .val (.int (4 : Int32)), .val (.ref b37), .val (.long (((p2.toInt64) + (p3.toInt64)) + (p4.toInt64))), .second, .unset, .unset] [(.int p5), (.long (((p2.toInt64) + (p3.toInt64)) + (p4.toInt64)))])) _
        refine XS.i2l X53.here hx rfl (hb hby at_94) rfl ?_
        show Steps p.tables e below (T53.setTop (mkF m 95 #[.val (.int p1), .val (.int p2), .val (.int p3), .val (.int p4), .val (.int p5), .val (.int (4 : Int32)), .val (.ref b37), .val (.long (((p2.toInt64) + (p3.toInt64)) + (p4.toInt64))), .second, .unset, .unset] [(.long (p5.toInt64)), (.long (((p2.toInt64) + (p3.toInt64)) + (p4.toInt64)))])) _
        refine XS.ladd X53.here hx rfl (hb hby at_95) rfl ?_
        show Steps p.tables e below (T53.setTop (mkF m 96 #[.val (.int p1), .val (.int p2), .val (.int p3), .val (.int p4), .val (.int p5), .val (.int (4 : Int32)), .val (.ref b37), .val (.long (((p2.toInt64) + (p3.toInt64)) + (p4.toInt64))), .second, .unset, .unset] [(.long ((((p2.toInt64) + (p3.toInt64)) + (p4.toInt64)) + (p5.toInt64)))])) _
        refine XS.lstore X53.here hx rfl (hb hby at_96) rfl (l' := #[.val (.int p1), .val (.int p2), .val (.int p3), .val (.int p4), .val (.int p5), .val (.int (4 : Int32)), .val (.ref b37), .val (.long ((((p2.toInt64) + (p3.toInt64)) + (p4.toInt64)) + (p5.toInt64))), .second, .unset, .unset]) rfl ?_
        show Steps p.tables e below (T53.setTop (mkF m 98 #[.val (.int p1), .val (.int p2), .val (.int p3), .val (.int p4), .val (.int p5), .val (.int (4 : Int32)), .val (.ref b37), .val (.long ((((p2.toInt64) + (p3.toInt64)) + (p4.toInt64)) + (p5.toInt64))), .second, .unset, .unset] [])) _
        refine XS.lload X53.here hx rfl (hb hby at_98) rfl ?_
        show Steps p.tables e below (T53.setTop (mkF m 100 #[.val (.int p1), .val (.int p2), .val (.int p3), .val (.int p4), .val (.int p5), .val (.int (4 : Int32)), .val (.ref b37), .val (.long ((((p2.toInt64) + (p3.toInt64)) + (p4.toInt64)) + (p5.toInt64))), .second, .unset, .unset] [(.long ((((p2.toInt64) + (p3.toInt64)) + (p4.toInt64)) + (p5.toInt64)))])) _
        refine XS.l2dS X53.here hx rfl (hb hby at_100) rfl (v := (FP.l2d ((((p2.toInt64) + (p3.toInt64)) + (p4.toInt64)) + (p5.toInt64)))) rfl ?_
        show Steps p.tables e below (T53.setTop (mkF m 101 #[.val (.int p1), .val (.int p2), .val (.int p3), .val (.int p4), .val (.int p5), .val (.int (4 : Int32)), .val (.ref b37), .val (.long ((((p2.toInt64) + (p3.toInt64)) + (p4.toInt64)) + (p5.toInt64))), .second, .unset, .unset] [(.double (FP.l2d ((((p2.toInt64) + (p3.toInt64)) + (p4.toInt64)) + (p5.toInt64))))])) _
        refine X53.ldc2DoubleC hx hown (mvT hZ (hw _ (List.mem_of_getElem? (i := 1) rfl))) (g := (mkF m 101 #[.val (.int p1), .val (.int p2), .val (.int p3), .val (.int p4), .val (.int p5), .val (.int (4 : Int32)), .val (.ref b37), .val (.long ((((p2.toInt64) + (p3.toInt64)) + (p4.toInt64)) + (p5.toInt64))), .second, .unset, .unset] [(.double (FP.l2d ((((p2.toInt64) + (p3.toInt64)) + (p4.toInt64)) + (p5.toInt64))))])) rfl (hb hby at_101) _ ?_
        show Steps p.tables e below (T53.setTop (mkF m 104 #[.val (.int p1), .val (.int p2), .val (.int p3), .val (.int p4), .val (.int p5), .val (.int (4 : Int32)), .val (.ref b37), .val (.long ((((p2.toInt64) + (p3.toInt64)) + (p4.toInt64)) + (p5.toInt64))), .second, .unset, .unset] [(.double (4616189618054758400 : UInt64)), (.double (FP.l2d ((((p2.toInt64) + (p3.toInt64)) + (p4.toInt64)) + (p5.toInt64))))])) _
        refine XS.ddivS X53.here hx rfl (hb hby at_104) rfl hl.nn (v := (FP.ddiv (FP.l2d ((((p2.toInt64) + (p3.toInt64)) + (p4.toInt64)) + (p5.toInt64))) (4616189618054758400 : UInt64))) rfl ?_
        show Steps p.tables e below (T53.setTop (mkF m 105 #[.val (.int p1), .val (.int p2), .val (.int p3), .val (.int p4), .val (.int p5), .val (.int (4 : Int32)), .val (.ref b37), .val (.long ((((p2.toInt64) + (p3.toInt64)) + (p4.toInt64)) + (p5.toInt64))), .second, .unset, .unset] [(.double (FP.ddiv (FP.l2d ((((p2.toInt64) + (p3.toInt64)) + (p4.toInt64)) + (p5.toInt64))) (4616189618054758400 : UInt64)))])) _
        refine XS.iload X53.here hx rfl (hb hby at_105) rfl ?_
        show Steps p.tables e below (T53.setTop (mkF m 107 #[.val (.int p1), .val (.int p2), .val (.int p3), .val (.int p4), .val (.int p5), .val (.int (4 : Int32)), .val (.ref b37), .val (.long ((((p2.toInt64) + (p3.toInt64)) + (p4.toInt64)) + (p5.toInt64))), .second, .unset, .unset] [(.int (4 : Int32)), (.double (FP.ddiv (FP.l2d ((((p2.toInt64) + (p3.toInt64)) + (p4.toInt64)) + (p5.toInt64))) (4616189618054758400 : UInt64)))])) _
        refine XS.i2dS X53.here hx rfl (hb hby at_107) rfl (v := (FP.i2d (4 : Int32))) rfl ?_
        show Steps p.tables e below (T53.setTop (mkF m 108 #[.val (.int p1), .val (.int p2), .val (.int p3), .val (.int p4), .val (.int p5), .val (.int (4 : Int32)), .val (.ref b37), .val (.long ((((p2.toInt64) + (p3.toInt64)) + (p4.toInt64)) + (p5.toInt64))), .second, .unset, .unset] [(.double (FP.i2d (4 : Int32))), (.double (FP.ddiv (FP.l2d ((((p2.toInt64) + (p3.toInt64)) + (p4.toInt64)) + (p5.toInt64))) (4616189618054758400 : UInt64)))])) _
        refine XS.ddivS X53.here hx rfl (hb hby at_108) rfl (OwnFP.div_nn hl.1 (Fl.i2d_fin _) (own_kz (by decide))) (v := (FP.ddiv (FP.ddiv (FP.l2d ((((p2.toInt64) + (p3.toInt64)) + (p4.toInt64)) + (p5.toInt64))) (4616189618054758400 : UInt64)) (FP.i2d (4 : Int32)))) rfl ?_
        show Steps p.tables e below (T53.setTop (mkF m 109 #[.val (.int p1), .val (.int p2), .val (.int p3), .val (.int p4), .val (.int p5), .val (.int (4 : Int32)), .val (.ref b37), .val (.long ((((p2.toInt64) + (p3.toInt64)) + (p4.toInt64)) + (p5.toInt64))), .second, .unset, .unset] [(.double (FP.ddiv (FP.ddiv (FP.l2d ((((p2.toInt64) + (p3.toInt64)) + (p4.toInt64)) + (p5.toInt64))) (4616189618054758400 : UInt64)) (FP.i2d (4 : Int32))))])) _
        refine XS.dstore X53.here hx rfl (hb hby at_109) rfl (l' := #[.val (.int p1), .val (.int p2), .val (.int p3), .val (.int p4), .val (.int p5), .val (.int (4 : Int32)), .val (.ref b37), .val (.long ((((p2.toInt64) + (p3.toInt64)) + (p4.toInt64)) + (p5.toInt64))), .second, .val (.double (FP.ddiv (FP.ddiv (FP.l2d ((((p2.toInt64) + (p3.toInt64)) + (p4.toInt64)) + (p5.toInt64))) (4616189618054758400 : UInt64)) (FP.i2d (4 : Int32)))), .second]) rfl ?_
        show Steps p.tables e below (T53.setTop (mkF m 111 #[.val (.int p1), .val (.int p2), .val (.int p3), .val (.int p4), .val (.int p5), .val (.int (4 : Int32)), .val (.ref b37), .val (.long ((((p2.toInt64) + (p3.toInt64)) + (p4.toInt64)) + (p5.toInt64))), .second, .val (.double (FP.ddiv (FP.ddiv (FP.l2d ((((p2.toInt64) + (p3.toInt64)) + (p4.toInt64)) + (p5.toInt64))) (4616189618054758400 : UInt64)) (FP.i2d (4 : Int32)))), .second] [])) _
        refine XS.aload X53.here hx rfl (hb hby at_111) rfl rfl ?_
        show Steps p.tables e below (T53.setTop (mkF m 113 #[.val (.int p1), .val (.int p2), .val (.int p3), .val (.int p4), .val (.int p5), .val (.int (4 : Int32)), .val (.ref b37), .val (.long ((((p2.toInt64) + (p3.toInt64)) + (p4.toInt64)) + (p5.toInt64))), .second, .val (.double (FP.ddiv (FP.ddiv (FP.l2d ((((p2.toInt64) + (p3.toInt64)) + (p4.toInt64)) + (p5.toInt64))) (4616189618054758400 : UInt64)) (FP.i2d (4 : Int32)))), .second] [(.ref b37)])) _
        refine st55 _ ?_
        show Steps p.tables e below (T55.setTop (mkF m 116 #[.val (.int p1), .val (.int p2), .val (.int p3), .val (.int p4), .val (.int p5), .val (.int (4 : Int32)), .val (.ref b37), .val (.long ((((p2.toInt64) + (p3.toInt64)) + (p4.toInt64)) + (p5.toInt64))), .second, .val (.double (FP.ddiv (FP.ddiv (FP.l2d ((((p2.toInt64) + (p3.toInt64)) + (p4.toInt64)) + (p5.toInt64))) (4616189618054758400 : UInt64)) (FP.i2d (4 : Int32)))), .second] [(.double (FP.ddiv (FP.dadd (FP.dadd (FP.dadd (FP.dadd (0 : UInt64) (FP.ddiv (FP.i2d p2) (4616189618054758400 : UInt64))) (FP.ddiv (FP.i2d p3) (4616189618054758400 : UInt64))) (FP.ddiv (FP.i2d p4) (4616189618054758400 : UInt64))) (FP.ddiv (FP.i2d p5) (4616189618054758400 : UInt64))) (FP.i2d (4 : Int32))))])) _
        refine XS.dload X55.here hx rfl (hb hby at_116) rfl ?_
        show Steps p.tables e below (T55.setTop (mkF m 118 #[.val (.int p1), .val (.int p2), .val (.int p3), .val (.int p4), .val (.int p5), .val (.int (4 : Int32)), .val (.ref b37), .val (.long ((((p2.toInt64) + (p3.toInt64)) + (p4.toInt64)) + (p5.toInt64))), .second, .val (.double (FP.ddiv (FP.ddiv (FP.l2d ((((p2.toInt64) + (p3.toInt64)) + (p4.toInt64)) + (p5.toInt64))) (4616189618054758400 : UInt64)) (FP.i2d (4 : Int32)))), .second] [(.double (FP.ddiv (FP.ddiv (FP.l2d ((((p2.toInt64) + (p3.toInt64)) + (p4.toInt64)) + (p5.toInt64))) (4616189618054758400 : UInt64)) (FP.i2d (4 : Int32)))), (.double (FP.ddiv (FP.dadd (FP.dadd (FP.dadd (FP.dadd (0 : UInt64) (FP.ddiv (FP.i2d p2) (4616189618054758400 : UInt64))) (FP.ddiv (FP.i2d p3) (4616189618054758400 : UInt64))) (FP.ddiv (FP.i2d p4) (4616189618054758400 : UInt64))) (FP.ddiv (FP.i2d p5) (4616189618054758400 : UInt64))) (FP.i2d (4 : Int32))))])) _
        refine XS.dcmpS X55.here hx rfl (hb hby at_118) rfl (v := (0 : Int32)) (own_end i4 hl (by decide)) ?_
        show Steps p.tables e below (T55.setTop (mkF m 119 #[.val (.int p1), .val (.int p2), .val (.int p3), .val (.int p4), .val (.int p5), .val (.int (4 : Int32)), .val (.ref b37), .val (.long ((((p2.toInt64) + (p3.toInt64)) + (p4.toInt64)) + (p5.toInt64))), .second, .val (.double (FP.ddiv (FP.ddiv (FP.l2d ((((p2.toInt64) + (p3.toInt64)) + (p4.toInt64)) + (p5.toInt64))) (4616189618054758400 : UInt64)) (FP.i2d (4 : Int32)))), .second] [(.int (0 : Int32))])) _
        refine XS.ifNo X55.here hx rfl (hb hby at_119) rfl ((if0 _ _).trans (teq ((by decide) : (0 : Int32) = (0 : Int32))).2) ?_
        show Steps p.tables e below (T55.setTop (mkF m 122 #[.val (.int p1), .val (.int p2), .val (.int p3), .val (.int p4), .val (.int p5), .val (.int (4 : Int32)), .val (.ref b37), .val (.long ((((p2.toInt64) + (p3.toInt64)) + (p4.toInt64)) + (p5.toInt64))), .second, .val (.double (FP.ddiv (FP.ddiv (FP.l2d ((((p2.toInt64) + (p3.toInt64)) + (p4.toInt64)) + (p5.toInt64))) (4616189618054758400 : UInt64)) (FP.i2d (4 : Int32)))), .second] [])) _
        refine XS.iconst X55.here hx rfl (hb hby at_122) ?_
        show Steps p.tables e below (T55.setTop (mkF m 123 #[.val (.int p1), .val (.int p2), .val (.int p3), .val (.int p4), .val (.int p5), .val (.int (4 : Int32)), .val (.ref b37), .val (.long ((((p2.toInt64) + (p3.toInt64)) + (p4.toInt64)) + (p5.toInt64))), .second, .val (.double (FP.ddiv (FP.ddiv (FP.l2d ((((p2.toInt64) + (p3.toInt64)) + (p4.toInt64)) + (p5.toInt64))) (4616189618054758400 : UInt64)) (FP.i2d (4 : Int32)))), .second] [(.int (1 : Int32))])) _
        refine XS.goto X55.here hx rfl (pc0 := 123) (pc' := 127) rfl (hb hby at_123) (by decide) (by decide) ?_
        exact kt)
    obtain ⟨fs, hr, hrun, hended, hW, hsame⟩ := X55.leave (v := some (.int (1 : Int32))) (fun h => by rw [Bd.returns] at h; cases h)
    refine ⟨_, _, pre56 _ ?_, hrun, hended, _, _, rfl, ?_, ⟨_, rfl⟩, hW, hsame.mono (by decide) (by decide)⟩
    · show Steps p.tables e below (T55.setTop (mkF m 127 #[.val (.int p1), .val (.int p2), .val (.int p3), .val (.int p4), .val (.int p5), .val (.int (4 : Int32)), .val (.ref b37), .val (.long ((((p2.toInt64) + (p3.toInt64)) + (p4.toInt64)) + (p5.toInt64))), .second, .val (.double (FP.ddiv (FP.ddiv (FP.l2d ((((p2.toInt64) + (p3.toInt64)) + (p4.toInt64)) + (p5.toInt64))) (4616189618054758400 : UInt64)) (FP.i2d (4 : Int32)))), .second] [(.int (1 : Int32))])) _
      exact retN X55 hx (t := .boolean) Bd.returns (by simp) (hb hby at_127) hr
    · show Q0 Z p1 p2 p3 p4 p5 h0 n0 _ T55.heap _
      rw [e55]
      exact ⟨rfl, N55⟩
set_option maxRecDepth 65536 in
set_option maxHeartbeats 40000000 in
theorem comes_1 {Post : Tables → Env → Array Value → State → Outcome → State → Prop} (hpost : ∀ tb e args s v u, (limb_1_1.after args s (.returned v) u = true ∧ limb_1_2.after args s (.returned v) u = true ∧ True) → FrameEnd s (.returned v) u (Jvm.fieldLocs frame_1_writes args s ++ Jvm.arrayLocs frame_1_arrays args s ++ Jvm.staticLocs frame_1_statics s) 16 128 → Post tb e args s (.returned v) u) :
    ArmFor flags0 classFile x code maxLocals ret World_1 tables_1 room_1 Calls_1 rest_1 Pre_1 Post := by
  intro l hfl _ _ p e ha hc hk s m args below hf hA hF happ hP
  obtain ⟨hcalls, hrest, hpre⟩ := hP
  obtain ⟨-, -, -, hnamed, -, -, -, hat⟩ := (Spec.applies_iff hf).mp happ
  obtain ⟨hg, hn⟩ := and_e (Cond.before_iff.mp (show (Jvm.Cond.and given_1 narrow_1).before args s = true from hpre))
  obtain ⟨g1, g2⟩ := and_e hg
  obtain ⟨g3, g4⟩ := and_e g2
  obtain ⟨g5, g6⟩ := and_e g4
  obtain ⟨g7, g8⟩ := and_e g6
  obtain ⟨g9, g10⟩ := and_e g8
  obtain ⟨w0, w1, w2, w3, w4, rfl⟩ : ∃ w0 w1 w2 w3 w4 : Value, args = #[w0, w1, w2, w3, w4] := by
    have hs : args.size = 5 := by simpa [Cond.value, given_1] using g1
    obtain ⟨L⟩ := args
    match L, hs with
    | [w0, w1, w2, w3, w4], _ => exact ⟨w0, w1, w2, w3, w4, rfl⟩
  have hw := fun d (hd : d ∈ tables_1) => atoms_spec (ws := Jvm.Cond.code x code maxLocals ret :: tables_1) hat d (List.mem_cons_of_mem _ hd)
  have hfit : Fit s := fun {y c} hc i hi => by
    obtain ⟨ha, rfl⟩ := Array.getElem?_eq_some_iff.mp hc
    have q := List.all_eq_true.mp ((Array.all_eq_true_iff_forall_mem.mp hF) _ (Array.getElem_mem ha)) i (List.mem_range.mpr hi)
    simpa [Array.getElem?_eq_getElem hi] using q
  obtain ⟨i0, ei0⟩ := is_v g3
  obtain rfl : w0 = (.int i0) := Option.some.inj ei0
  obtain ⟨i1, ei1⟩ := is_v g5
  obtain rfl : w1 = (.int i1) := Option.some.inj ei1
  obtain ⟨i2, ei2⟩ := is_v g7
  obtain rfl : w2 = (.int i2) := Option.some.inj ei2
  obtain ⟨i3, ei3⟩ := is_v g9
  obtain rfl : w3 = (.int i3) := Option.some.inj ei3
  obtain ⟨i4, ei4⟩ := is_v g10
  obtain rfl : w4 = (.int i4) := Option.some.inj ei4
  obtain ⟨n, o, h1, h2, h3, _, L, rfl, ⟨rfl, N⟩, hq⟩ := rm0 l s _ hw tables_1 i0 i1 i2 i3 i4 s.heap s.heap.size (Nat.le_refl _)  p e ha hc hk s m _ below hf ((Spec.applies_iff_loose hf).mp happ).1 ⟨rfl, State.Warmed39.refl s, rfl⟩ trivial
  refine ⟨n, _, h1, h2, h3, hpost _ _ _ _ _ _ ⟨Cond.after_iff.mpr rfl, Cond.after_iff.mpr (eq_i res_at (Term.int_eval (1)) rfl), trivial⟩ ⟨hq.1, hq.2.1, (hq.2.2.sift fun y hy => Or.inr (N y hy)).mono (by decide) (by decide)⟩⟩
theorem main_1_1 : Claimed_1_1 := comes_1 fun _ _ _ _ _ _ h hF => ⟨h.1, hF⟩
theorem main_1_2 : Claimed_1_2 := comes_1 fun _ _ _ _ _ _ h hF => ⟨h.2.1, hF⟩
end Jvm.Pilot.@@N@@
namespace Jvm.Pilot.@@N@@
open Jvm Jvm.ClassFile Sem Op Lib Jvm.Free Jvm.Stand Jvm.Pilot.@@N@@.Jvm.D
/-! MADE BY PROGRAM (witnessworld.py) out of the Statement's table words and the real class files: 14 classes; the members and pool entries that the words name. The judged class is class 1, her method 1. -/
namespace start1
open Jvm.ClassFile
def u (s : String) : CpInfo := .utf8 (stringToUtf16 s)
/-- a pool by its gaps: so many unusable entries, then the entry; so many at the end -/
def gap : Nat → List CpInfo → List CpInfo
  | 0, r => r
  | n + 1, r => .unusable :: gap n r
def poolList (es : List (Nat × CpInfo)) (last : Nat) : List CpInfo := es.foldr (fun e r => gap e.1 (e.2 :: r)) (gap last [])
def pool (es : List (Nat × CpInfo)) (last : Nat) : Array CpInfo := ⟨poolList es last⟩
def fileOf (pool : Array CpInfo) (this : Nat) (attrs : Array Attribute := #[]) (ms : Array MethodInfo := #[]) (fl : Nat := 33) (sup : Nat := 0) (ifs : Array Nat := #[]) (fds : Array FieldInfo := #[]) : ClassFile where
  minorVersion := 0
  majorVersion := 65
  constantPool := pool
  accessFlags := fl
  thisClass := this
  superClass := sup
  interfaces := ifs
  fields := fds
  methods := ms
  attributes := attrs
def plain (name : String) (sup : Option ClassId) : Class where
  name := name
  kind := .ordinary
  loader := none
  accessFlags := 33
  super := sup
  interfaces := #[]
  cf := none
  fields := #[]
  methods := #[]
  instanceTypes := #[]
  staticTypes := #[]
  resolved := #[]
  callSites := []
  init := .initialized
  statics := none
  mirror := none

def pool0 : Array CpInfo := pool [(5, u "<init>"), (0, u "()V"), (1, .class_ 10), (1, u "java/lang/Object")] 113

def k0m0 : Method := { name := "<init>", desc := "()V", sig := { parameters := [], returnType := none }, accessFlags := 1, code := none }
/-- java/lang/Object -/
def k0 : Class := { plain "java/lang/Object" none with
  accessFlags := 33
  interfaces := #[]
  cf := some (fileOf pool0 8 #[] #[{ accessFlags := 1, nameIndex := 5, descriptorIndex := 6, attributes := #[] }] 33 0 #[] #[])
  fields := #[]
  methods := #[k0m0]
  instanceTypes := #[]
  staticTypes := #[]
  resolved := Array.replicate 124 none
  statics := none }

def pool1 : Array CpInfo := pool [(2, .class_ 4), (1, u "java/lang/Object"), (0, u "<init>"), (0, u "()V"), (0, .double 4616189618054758400), (1, .methodref 10 11), (0, .class_ 12), (0, .nameAndType 13 14), (0, u "com/example/heft/heft/rank/Scope"), (0, u "mean"), (0, u "([D)D"), (0, .class_ 16), (0, u "com/example/heft/heft/rank/ScopeMeanPinLaw"), (2, u "law"), (0, u "(IIIII)Z")] 5

def k1m0 : Method := { name := "<init>", desc := "()V", sig := { parameters := [], returnType := none }, accessFlags := 1, code := none }
def k1c1 : Code := { maxStack := 6, maxLocals := 11, code := code, exceptionTable := #[], attributes := #[] }
def k1m1 : Method := { name := "law", desc := "(IIIII)Z", sig := { parameters := [.int, .int, .int, .int, .int], returnType := some .boolean }, accessFlags := 9, code := some k1c1 }
/-- com/example/heft/heft/rank/ScopeMeanPinLaw -/
def k1 : Class := { plain "com/example/heft/heft/rank/ScopeMeanPinLaw" (some 0) with
  accessFlags := 49
  interfaces := #[]
  cf := some (fileOf pool1 15 #[] #[{ accessFlags := 1, nameIndex := 5, descriptorIndex := 6, attributes := #[] }, { accessFlags := 9, nameIndex := 19, descriptorIndex := 20, attributes := #[] }] 49 2 #[] #[])
  fields := #[]
  methods := #[k1m0, k1m1]
  instanceTypes := #[]
  staticTypes := #[]
  resolved := Array.replicate 26 none
  statics := none }

def pool2 : Array CpInfo := pool [(1, .class_ 2), (0, u "java/lang/constant/Constable"), (0, .class_ 4), (0, u "java/lang/Object")] 6

/-- java/lang/constant/Constable -/
def k2 : Class := { plain "java/lang/constant/Constable" (some 0) with
  accessFlags := 1537
  interfaces := #[]
  cf := some (fileOf pool2 1 #[] #[] 1537 3 #[] #[])
  fields := #[]
  methods := #[]
  instanceTypes := #[]
  staticTypes := #[]
  resolved := Array.replicate 11 none
  statics := none }

def pool3 : Array CpInfo := pool [(1, .class_ 2), (0, u "java/lang/Comparable"), (0, .class_ 4), (0, u "java/lang/Object")] 7

/-- java/lang/Comparable -/
def k3 : Class := { plain "java/lang/Comparable" (some 0) with
  accessFlags := 1537
  interfaces := #[]
  cf := some (fileOf pool3 1 #[] #[] 1537 3 #[] #[])
  fields := #[]
  methods := #[]
  instanceTypes := #[]
  staticTypes := #[]
  resolved := Array.replicate 12 none
  statics := none }

def pool4 : Array CpInfo := pool [(1, .class_ 2), (0, u "java/io/Serializable"), (0, .class_ 4), (0, u "java/lang/Object")] 2

/-- java/io/Serializable -/
def k4 : Class := { plain "java/io/Serializable" (some 0) with
  accessFlags := 1537
  interfaces := #[]
  cf := some (fileOf pool4 1 #[] #[] 1537 3 #[] #[])
  fields := #[]
  methods := #[]
  instanceTypes := #[]
  staticTypes := #[]
  resolved := Array.replicate 7 none
  statics := none }

def pool5 : Array CpInfo := pool [(2, .class_ 4), (1, u "java/lang/Enum"), (0, u "name"), (0, u "Ljava/lang/String;"), (2, u "ordinal"), (0, u "I"), (1, .class_ 14), (1, u "java/lang/Object"), (4, u "hash"), (86, .class_ 108), (1, u "java/lang/Enum$EnumDesc"), (2, .class_ 112), (0, u "java/lang/constant/Constable"), (0, .class_ 114), (0, u "java/lang/Comparable"), (0, .class_ 116), (0, u "java/io/Serializable")] 87

/-- java/lang/Enum -/
def k5 : Class := { plain "java/lang/Enum" (some 0) with
  accessFlags := 1057
  interfaces := #[2, 3, 4]
  cf := some (fileOf pool5 2 #[.nestMembers #[106]] #[] 1057 12 #[111, 113, 115] #[{ accessFlags := 18, nameIndex := 5, descriptorIndex := 6, attributes := #[] }, { accessFlags := 18, nameIndex := 9, descriptorIndex := 10, attributes := #[] }, { accessFlags := 2, nameIndex := 19, descriptorIndex := 10, attributes := #[] }])
  fields := #[{ name := "name", type := (.object "java/lang/String"), accessFlags := 18, slot := 0, constantValue := 0 }, { name := "ordinal", type := .int, accessFlags := 18, slot := 1, constantValue := 0 }, { name := "hash", type := .int, accessFlags := 2, slot := 2, constantValue := 0 }]
  methods := #[]
  instanceTypes := #[(.object "java/lang/String"), .int, .int]
  staticTypes := #[]
  resolved := Array.replicate 204 none
  statics := none }

def pool6 : Array CpInfo := pool [(1, .class_ 2), (0, u "com/example/heft/heft/rank/Scope"), (2, u "ENTROPY_POWER"), (0, u "Lcom/example/heft/heft/rank/Scope;"), (2, u "$VALUES"), (0, u "[Lcom/example/heft/heft/rank/Scope;"), (6, .class_ 19), (1, u "java/lang/Enum"), (8, u "label"), (0, u "Ljava/lang/String;"), (33, .class_ 64), (0, u "com/example/heft/heft/rank/Scope$1"), (21, u "mean"), (0, u "([D)D")] 28

def k6c0 : Code := { maxStack := 4, maxLocals := 8, code := prog_40_method_8_code, exceptionTable := #[], attributes := #[] }
def k6m0 : Method := { name := "mean", desc := "([D)D", sig := { parameters := [(.array .double)], returnType := some .double }, accessFlags := 8, code := some k6c0 }
/-- com/example/heft/heft/rank/Scope -/
def k6 : Class := { plain "com/example/heft/heft/rank/Scope" (some 5) with
  accessFlags := 17441
  interfaces := #[]
  cf := some (fileOf pool6 1 #[.nestMembers #[63]] #[{ accessFlags := 8, nameIndex := 86, descriptorIndex := 87, attributes := #[] }] 17441 17 #[] #[{ accessFlags := 16409, nameIndex := 5, descriptorIndex := 6, attributes := #[] }, { accessFlags := 18, nameIndex := 28, descriptorIndex := 29, attributes := #[] }, { accessFlags := 4122, nameIndex := 9, descriptorIndex := 10, attributes := #[] }])
  fields := #[{ name := "ENTROPY_POWER", type := (.object "com/example/heft/heft/rank/Scope"), accessFlags := 16409, slot := 0, constantValue := 0 }, { name := "label", type := (.object "java/lang/String"), accessFlags := 18, slot := 3, constantValue := 0 }, { name := "$VALUES", type := (.array (.object "com/example/heft/heft/rank/Scope")), accessFlags := 4122, slot := 1, constantValue := 0 }]
  methods := #[k6m0]
  instanceTypes := #[(.object "java/lang/String"), .int, .int, (.object "java/lang/String")]
  staticTypes := #[(.object "com/example/heft/heft/rank/Scope"), (.array (.object "com/example/heft/heft/rank/Scope"))]
  resolved := Array.replicate 116 none
  statics := none }

def pool7 : Array CpInfo := pool [(1, u "java/lang/Cloneable"), (0, .class_ 1), (0, u "java/lang/Object"), (0, .class_ 3)] 3

/-- java/lang/Cloneable -/
def k7 : Class := { plain "java/lang/Cloneable" (some 0) with
  accessFlags := 1537
  interfaces := #[]
  cf := some (fileOf pool7 2 #[] #[] 1537 4 #[] #[])
  fields := #[]
  methods := #[]
  instanceTypes := #[]
  staticTypes := #[]
  resolved := Array.replicate 8 none
  statics := none }

/-- the primitive byte -/
def k8 : Class := { plain "byte" none with kind := .primitive 'B', accessFlags := 0x411 }
/-- [B -/
def k9 : Class := { plain "[B" (some 0) with kind := .array 8 .byte, interfaces := #[7, 4], accessFlags := 1041 }

/-- the primitive double -/
def k10 : Class := { plain "double" none with kind := .primitive 'D', accessFlags := 0x411 }
/-- [D -/
def k11 : Class := { plain "[D" (some 0) with kind := .array 10 .double, interfaces := #[7, 4], accessFlags := 1041 }

/-- the primitive int -/
def k12 : Class := { plain "int" none with kind := .primitive 'I', accessFlags := 0x411 }
/-- [I -/
def k13 : Class := { plain "[I" (some 0) with kind := .array 12 .int, interfaces := #[7, 4], accessFlags := 1041 }

def heap : Heap := #[]
def classes : Array Class := #[k0, k1, k2, k3, k4, k5, k6, k7, k8, k9, k10, k11, k12, k13]
def interned : List (Array UInt16 × Addr) := []
def slotsUsed : Nat := 0
def theMethod : MethodId := ⟨1, 1⟩
def args0 : Array Value := #[.int 5, .int 5, .int 5, .int 5, .int 5]
def aboutOver (below : List Frame) : State where
  vm := { classes := classes, interned := interned.toArray }
  heap := heap
  slotsUsed := slotsUsed
  threads := #[{ frames := .invoking theMethod args0 :: below }]
def below0 : List Frame := [.native { method := ⟨0, 0⟩, args := #[] }]
def about1 : State := aboutOver below0
def p0 : Program := .bare "" "" ""
def e0 : Env := launch0.env 0 0 0
theorem w_frames : about1.frames = Frame.invoking theMethod args0 :: below0 := rfl
set_option maxRecDepth 65536 in
theorem w_args : argsFit about1.vm theMethod args0 = true := by decide +kernel
set_option maxRecDepth 65536 in
theorem w_heap : heapFits about1 = true := by decide +kernel
set_option maxRecDepth 65536 in
theorem w_runnable : about1.curStatus? = some .runnable := by decide +kernel
set_option maxRecDepth 65536 in
theorem w_alone : about1.alone = true := by decide +kernel
set_option maxRecDepth 65536 in
theorem w_named : about1.methodNamed? x = some theMethod := by decide +kernel
set_option maxRecDepth 65536 in
theorem w_hears : about1.hears theMethod below0 = true := by decide +kernel
set_option maxRecDepth 65536 in
theorem w_ripe : about1.ripe theMethod args0 below0 = true := by decide +kernel
theorem w_running : about1.status = .running := rfl
set_option maxRecDepth 65536 in
theorem w_room : about1.hasRoom e0.platform room_1 = true :=
  launch0.hasRoom_least _ room_1 (by decide +kernel) (by decide +kernel) (by decide +kernel) (by decide +kernel) (by decide +kernel) (by decide +kernel)
theorem allAtoms_all (ts : List Jvm.Cond) (a : Array Jvm.Value) (st : Jvm.State) : (allAtoms ts).before a st = ts.all (fun c => c.before a st) := by
  induction ts with
  | nil => rfl
  | cons c t ih =>
    show (Jvm.Cond.and c (allAtoms t)).before a st = _
    rw [Jvm.Cond.before_and, ih, List.all_cons]
def words1 : List Jvm.Cond := Jvm.Cond.code x code maxLocals ret :: tables_1
/-- a 'code' word, met by the world's own term for the bytes: nothing is compared byte by byte -/
theorem code_word {y : MethodName} {bytes : ByteArray} {mx : Nat} {rt : Option FieldType} {a : Array Value} {s : State} {m : MethodId} {meth : Method} {c : Code} (h1 : s.methodNamed? y = some m) (h2 : s.vm.method? m = some meth) (h3 : meth.code = some c) (h4 : c.code = bytes)
    (h5 : (c.maxLocals == mx && c.exceptionTable.isEmpty && decide (c.maxStack ≤ mostOperands) && decide (meth.sig.returnType = rt) && !meth.locks && decide (parseMethodDescriptor y.desc = some meth.sig)) = true) : (Jvm.Cond.code y bytes mx rt).before a s = true := by
  simp only [Bool.and_eq_true, beq_iff_eq, Bool.not_eq_true', decide_eq_true_eq] at h5
  obtain ⟨⟨⟨⟨⟨g1, g2⟩, g3⟩, g4⟩, g5⟩, g6⟩ := h5
  simp [Cond.before, Cond.holds, Cond.value, h1, h2, h3, h4, g1, g2, g3, g4, g5, g6]
def isCode : Jvm.Cond → Bool
  | .code _ _ _ _ => true
  | _ => false
theorem all_split {L : List Jvm.Cond} {P : Jvm.Cond → Bool} (h1 : L.all (fun c => isCode c || P c) = true) (h2 : ∀ c ∈ L.filter isCode, P c = true) : L.all P = true := by
  refine List.all_eq_true.mpr fun c hc => ?_
  have h := List.all_eq_true.mp h1 c hc
  rcases Bool.eq_false_or_eq_true (isCode c) with hi | hi
  · exact h2 c (List.mem_filter.mpr ⟨hc, hi⟩)
  · simpa [hi] using h
set_option maxRecDepth 65536 in
theorem w_c0 : (Jvm.Cond.code x code maxLocals ret).before args0 about1 = true := code_word (m := ⟨1, 1⟩) (meth := k1m1) (c := k1c1) (by decide +kernel) rfl rfl rfl (by decide +kernel)
set_option maxRecDepth 65536 in
theorem w_c1 : (Jvm.Cond.code ({ cls := "com/example/heft/heft/rank/Scope", name := "mean", desc := "([D)D" } : Jvm.MethodName) prog_40_method_8_code (8 : Nat) (Option.some Jvm.ClassFile.FieldType.double)).before args0 about1 = true := code_word (m := ⟨6, 0⟩) (meth := k6m0) (c := k6c0) (by decide +kernel) rfl rfl rfl (by decide +kernel)
def codes1 : List Jvm.Cond := [Jvm.Cond.code x code maxLocals ret, Jvm.Cond.code ({ cls := "com/example/heft/heft/rank/Scope", name := "mean", desc := "([D)D" } : Jvm.MethodName) prog_40_method_8_code (8 : Nat) (Option.some Jvm.ClassFile.FieldType.double)]
set_option maxRecDepth 65536 in
theorem codes_eq : words1.filter isCode = codes1 := rfl
theorem w_codes : ∀ c ∈ words1.filter isCode, c.before args0 about1 = true := by
  rw [codes_eq]
  intro c hc
  simp only [codes1, List.mem_cons, List.not_mem_nil, or_false] at hc
  rcases hc with rfl | rfl
  · exact w_c0
  · exact w_c1
set_option maxRecDepth 65536 in
theorem w_t1 : words1.all (fun c => isCode c || c.before args0 about1) = true := by decide +kernel
theorem w_tables : (allAtoms (Jvm.Cond.code x code maxLocals ret :: tables_1)).before args0 about1 = true := by
  rw [allAtoms_all]
  show words1.all (fun c => c.before args0 about1) = true
  refine all_split ?_ w_codes
  rw [w_t1]
set_option maxRecDepth 65536 in
theorem w_case : (Jvm.Cond.and given_1 narrow_1).before args0 about1 = true := by decide +kernel
theorem w_applies : (headSpec (Jvm.Cond.code x code maxLocals ret :: tables_1) room_1).applies x e0.platform about1 = true :=
  (Spec.applies_iff w_frames).mpr ⟨w_running, w_runnable, w_alone, w_named, w_hears, w_ripe, w_room, w_tables⟩
theorem atStart : AtStart classFile x code maxLocals ret World_1 tables_1 room_1 Calls_1 rest_1 Pre_1 launch0 p0 e0 about1 theMethod args0 below0 :=
  ⟨lists_1, trivial, launch0.admits_env _ _ _, launch0.least_env, fairChoices_fair.cas, fairChoices_fair.clock, w_frames, w_args, w_heap, w_applies, trivial, trivial, w_case⟩
end start1
theorem witness_1 : WitnessClaimed_1 := ⟨start1.p0, start1.e0, start1.about1, start1.theMethod, start1.args0, start1.below0, start1.atStart⟩
end Jvm.Pilot.@@N@@
