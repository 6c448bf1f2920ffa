import JvmDerived
import JvmDerived.Pilot.@@N@@Statement
import JvmDerived.Pilot.@@N@@Code
set_option linter.unusedVariables false
set_option linter.unusedSimpArgs false
namespace Jvm.RoadKit
open Sem ClassFile Op Lib Jvm.Stand Jvm.Free Jvm.LawKit
section New
variable {p : Program} {l : Launch} {e : Env} {R : Room} {s : State} {m : MethodId} {args : Array Value} {below : List Frame} {meth : Method} {c : Code} {T : State} {locs : List Loc} {cells slots : Nat}
theorem retI (X : Stand p l e R s m args below meth c T locs cells slots) (hx : p.tables.exec = Jvm.exec) {pc : Nat} {Ls : Array Slot} {z : Int32} {rest : List Value} (hret : meth.sig.returnType = some .int) (hd : decode c.code pc = .ok (.ireturn, 1)) {fs : List Frame}
    (hl : ∀ (f : JFrame) (acts : List Action), f.method = m → f.locked = none → f.entered = [] → (doReturn e (T.setTop f) acts (some (.int z))).1 = T.setFrames fs) : Steps p.tables e below (T.setTop (mkF m pc Ls (.int z :: rest))) (T.setFrames fs) := by
  have hm' : T.vm.method? m = some meth := X.method'
  have hn : narrow .int (.int z) = .int z := rfl
  show Steps p.tables e below (T.setTop { method := m, pc := pc, locals := Ls, stack := _ :: rest, locked := none }) _
  jvm_step X.here [X.here.top, hx, hd, hm', hret, hn]
  first | (intro acts; rw [hl _ acts rfl rfl rfl]) | rw [hl _ _ rfl rfl rfl]
  exact Steps.refl _
theorem own_retJ (X : Stand p l e R s m args below meth c T locs cells slots) (hx : p.tables.exec = Jvm.exec) {pc : Nat} {Ls : Array Slot} {z : Int64} {rest : List Value} (hret : meth.sig.returnType = some .long) (hd : decode c.code pc = .ok (.lreturn, 1)) {fs : List Frame}
    (hl : ∀ (f : JFrame) (acts : List Action), f.method = m → f.locked = none → f.entered = [] → (doReturn e (T.setTop f) acts (some (.long z))).1 = T.setFrames fs) : Steps p.tables e below (T.setTop (mkF m pc Ls (.long z :: rest))) (T.setFrames fs) := by
  have hm' : T.vm.method? m = some meth := X.method'
  show Steps p.tables e below (T.setTop { method := m, pc := pc, locals := Ls, stack := _ :: rest, locked := none }) _
  jvm_step X.here [X.here.top, hx, hd, hm', hret, narrow]
  first | (intro acts; rw [hl _ acts rfl rfl rfl]) | rw [hl _ _ rfl rfl rfl]
  exact Steps.refl _
theorem own_retD (X : Stand p l e R s m args below meth c T locs cells slots) (hx : p.tables.exec = Jvm.exec) {pc : Nat} {Ls : Array Slot} {z : UInt64} {rest : List Value} (hret : meth.sig.returnType = some .double) (hd : decode c.code pc = .ok (.dreturn, 1)) {fs : List Frame}
    (hl : ∀ (f : JFrame) (acts : List Action), f.method = m → f.locked = none → f.entered = [] → (doReturn e (T.setTop f) acts (some (.double z))).1 = T.setFrames fs) : Steps p.tables e below (T.setTop (mkF m pc Ls (.double z :: rest))) (T.setFrames fs) := by
  have hm' : T.vm.method? m = some meth := X.method'
  show Steps p.tables e below (T.setTop { method := m, pc := pc, locals := Ls, stack := _ :: rest, locked := none }) _
  jvm_step X.here [X.here.top, hx, hd, hm', hret, narrow]
  first | (intro acts; rw [hl _ acts rfl rfl rfl]) | rw [hl _ _ rfl rfl rfl]
  exact Steps.refl _
theorem own_retR (X : Stand p l e R s m args below meth c T locs cells slots) (hx : p.tables.exec = Jvm.exec) {pc : Nat} {Ls : Array Slot} {z : Addr} {rest : List Value} {ty : FieldType} (hret : meth.sig.returnType = some ty) (hty : ty.isReference = true) (hd : decode c.code pc = .ok (.areturn, 1)) {fs : List Frame}
    (hl : ∀ (f : JFrame) (acts : List Action), f.method = m → f.locked = none → f.entered = [] → (doReturn e (T.setTop f) acts (some (.ref z))).1 = T.setFrames fs) : Steps p.tables e below (T.setTop (mkF m pc Ls (.ref z :: rest))) (T.setFrames fs) := by
  have hm' : T.vm.method? m = some meth := X.method'
  show Steps p.tables e below (T.setTop { method := m, pc := pc, locals := Ls, stack := _ :: rest, locked := none }) _
  jvm_step X.here [X.here.top, hx, hd, hm', hret, hty, Value.isRef]
  first | (intro acts; rw [hl _ acts rfl rfl rfl]) | rw [hl _ _ rfl rfl rfl]
  exact Steps.refl _
theorem own_nm0 {a : Addr} : a ∉ ([] : List Addr) := List.not_mem_nil
theorem own_nmc {a w : Addr} {ws : List Addr} (h : a ≠ w) (r : a ∉ ws) : a ∉ w :: ws := fun q => (List.mem_cons.mp q).elim h r
theorem own_wm0 {P : Addr → Prop} : ∀ x ∈ ([] : List Addr), P x := fun _ q => nomatch q
theorem own_wmc {P : Addr → Prop} {w : Addr} {ws : List Addr} (h : P w) (r : ∀ x ∈ ws, P x) : ∀ x ∈ w :: ws, P x := fun x q => (List.mem_cons.mp q).elim (fun z => z ▸ h) (r x)
end New
end Jvm.RoadKit
namespace Jvm.OwnFP
open Jvm.FP Jvm.Free.Fl Sem ClassFile Op
/-- the double's value in units of 2 ^ -1074 -/
def zv (x : UInt64) : Int := Core.zval Core.b64 (Core.val64 x)
def zm (x : UInt64) : Nat := Core.zmag Core.b64 (Core.val64 x)
theorem nn {x : UInt64} (h : NoNaN64 x) : Core.val64 x ≠ .nan := (Core.notNaN_iff x).mp (noNaN64_no.mp h)
theorem nnF {x : UInt64} (h : Fin64 x) : NoNaN64 x := h.noNaN
theorem cv {x y : UInt64} (hx : NoNaN64 x) (hy : NoNaN64 y) (o : CmpOp) : cmpValue (FP.dcmp x y) o = if zv x < zv y then -1 else if zv x = zv y then 0 else 1 := by
  have h : FP.dcmp x y = some (compare (zv x) (zv y)) := Core.dcmp_zval (nn hx) (nn hy)
  rw [h, Core.compare_ite]
  by_cases h1 : zv x < zv y
  · rw [if_pos h1, if_pos h1]; cases o <;> rfl
  · rw [if_neg h1, if_neg h1]
    by_cases h2 : zv x = zv y
    · rw [if_pos h2, if_pos h2]; cases o <;> rfl
    · rw [if_neg h2, if_neg h2]; cases o <;> rfl
theorem cv_lt {x y : UInt64} (hx : NoNaN64 x) (hy : NoNaN64 y) (h : zv x < zv y) (o : CmpOp) : cmpValue (FP.dcmp x y) o = -1 := by rw [cv hx hy, if_pos h]
theorem cv_eq {x y : UInt64} (hx : NoNaN64 x) (hy : NoNaN64 y) (h : zv x = zv y) (o : CmpOp) : cmpValue (FP.dcmp x y) o = 0 := by rw [cv hx hy, if_neg (by omega), if_pos h]
theorem cv_gt {x y : UInt64} (hx : NoNaN64 x) (hy : NoNaN64 y) (h : zv y < zv x) (o : CmpOp) : cmpValue (FP.dcmp x y) o = 1 := by rw [cv hx hy, if_neg (by omega), if_neg (by omega)]
theorem cv_ge {x y : UInt64} (hx : NoNaN64 x) (hy : NoNaN64 y) (h : zv y ≤ zv x) (o : CmpOp) : ¬ cmpValue (FP.dcmp x y) o < 0 := by
  rw [cv hx hy, if_neg (by omega)]; split <;> decide
theorem cv_le {x y : UInt64} (hx : NoNaN64 x) (hy : NoNaN64 y) (h : zv x ≤ zv y) (o : CmpOp) : ¬ 0 < cmpValue (FP.dcmp x y) o := by
  rw [cv hx hy]; split
  · decide
  · rw [if_pos (by omega)]; decide
theorem sh {x : UInt64} (h : Fin64 x) : ∃ s c q, Core.val64 x = .fin s c q := fin64_core.mp h
theorem zv_dint {i : Int} {x : UInt64} (h : Core.DInt i x) : zv x = i * (Core.one64 : Int) := Core.DInt_zval h
theorem zv_zero : zv 0 = 0 := Core.zval64_zero
theorem fin_zero : Fin64 0 := by unfold Fin64; decide
theorem fin_one : Fin64 4607182418800017408 := by unfold Fin64; decide
theorem one_pos : (0 : Int) < (Core.one64 : Int) := by have := Core.one64_pos; omega
theorem zv_sgn (x : UInt64) : zv x = Core.signed (Core.sgn (Core.val64 x)) (zm x) := rfl
theorem zm_abs (x : UInt64) : (zv x).natAbs = zm x := by rw [zv_sgn, Core.natAbs_signed]
theorem add_le {x y v : UInt64} (hx : Fin64 x) (hy : Fin64 y) (hv : NoNaN64 v) (h : zv x + zv y ≤ zv v) : zv (FP.dadd x y) ≤ zv v := by
  show Core.zval Core.b64 (Core.val64 (Core.dadd x y)) ≤ _
  rw [Core.val64_dadd]
  exact Core.sum_le Core.good_b64 (sh hx) (sh hy) (Core.val64_fits x) (Core.val64_fits y) (Core.val64_fits v) (nn hv) h
theorem add_ge {x y v : UInt64} (hx : Fin64 x) (hy : Fin64 y) (hv : NoNaN64 v) (h : zv v ≤ zv x + zv y) : zv v ≤ zv (FP.dadd x y) := by
  show _ ≤ Core.zval Core.b64 (Core.val64 (Core.dadd x y))
  rw [Core.val64_dadd]
  exact Core.sum_ge Core.good_b64 (sh hx) (sh hy) (Core.val64_fits x) (Core.val64_fits y) (Core.val64_fits v) (nn hv) h
theorem shn {x : UInt64} (h : Fin64 x) : ∃ s c q, Core.negate (Core.val64 x) = .fin s c q := by
  obtain ⟨s, c, q, e⟩ := sh h; exact ⟨!s, c, q, by rw [e]; rfl⟩
theorem sub_le {x y v : UInt64} (hx : Fin64 x) (hy : Fin64 y) (hv : NoNaN64 v) (h : zv x - zv y ≤ zv v) : zv (FP.dsub x y) ≤ zv v := by
  show Core.zval Core.b64 (Core.val64 (Core.dsub x y)) ≤ _
  rw [Core.val64_dsub]
  exact Core.sum_le Core.good_b64 (sh hx) (shn hy) (Core.val64_fits x) (Core.negate_fits (Core.val64_fits y)) (Core.val64_fits v) (nn hv) (by rw [Core.zval_negate]; exact h)
theorem sub_ge {x y v : UInt64} (hx : Fin64 x) (hy : Fin64 y) (hv : NoNaN64 v) (h : zv v ≤ zv x - zv y) : zv v ≤ zv (FP.dsub x y) := by
  show _ ≤ Core.zval Core.b64 (Core.val64 (Core.dsub x y))
  rw [Core.val64_dsub]
  exact Core.sum_ge Core.good_b64 (sh hx) (shn hy) (Core.val64_fits x) (Core.negate_fits (Core.val64_fits y)) (Core.val64_fits v) (nn hv) (by rw [Core.zval_negate]; exact h)
/-- no NaN and no greater than something finite: finite -/
theorem fin_of {x v : UInt64} (hx : NoNaN64 x) (hv : Fin64 v) (h : zm x ≤ zm v) : Fin64 x := by
  refine fin64_core.mpr ?_
  have h1 : Core.zmag Core.b64 (Core.val64 v) < _ := (fin64_core.mp hv).zval_lt
  have h2 := nn hx
  unfold zm at h
  cases e : Core.val64 x with
  | nan => exact absurd e h2
  | inf s => rw [e] at h; exact absurd (Nat.lt_of_le_of_lt h h1) (Nat.lt_irrefl _)
  | fin s c q => exact ⟨s, c, q, e⟩
/-- 2 ^ -k in those units -/
def U (k : Nat) : Int := ((2 ^ (1074 - k) : Nat) : Int)
theorem U_pos (k : Nat) : 0 < U k := by unfold U; have := Nat.two_pow_pos (1074 - k); omega
theorem U_zero : U 0 = (Core.one64 : Int) := rfl
theorem U_add {k j : Nat} (h : k + j ≤ 1074) : U k = ((2 ^ j : Nat) : Int) * U (k + j) := by
  unfold U
  rw [← Int.natCast_mul, ← Nat.pow_add, show j + (1074 - (k + j)) = 1074 - k by omega]
/-- x is i / 2 ^ k, exactly -/
def Is (x : UInt64) (i : Int) (k : Nat) : Prop := Fin64 x ∧ zv x = i * U k
theorem signed_abs (i : Int) : Core.signed (decide (i < 0)) i.natAbs = i := by
  unfold Core.signed
  by_cases h : i < 0
  · simp [h]; omega
  · simp [h]; omega
theorem repr (i : Int) (k : Nat) (hk : k ≤ 1074) (hi : i.natAbs < 2 ^ 53) : ∃ v : UInt64, Is v i k := by
  obtain ⟨c', q', h1, h2⟩ := Core.round_exact Core.good_b64 (decide (i < 0)) (c := i.natAbs) (q := -(k : Int)) hi (by rw [Core.qmin_b64]; omega) (by show _ ≤ (971 : Int); omega)
  have hf : Core.fits Core.b64 (.fin (decide (i < 0)) c' q') := h1 ▸ Core.round_fits Core.good_b64 _
  have hv := Core.val64_of64 hf
  refine ⟨Core.of64 (.fin (decide (i < 0)) c' q'), fin64_core.mpr ⟨_, _, _, hv⟩, ?_⟩
  unfold zv Core.zval
  rw [hv]
  show Core.signed (decide (i < 0)) (Core.inUnits c' q' Core.b64.qmin) = _
  rw [h2]
  unfold Core.inUnits
  rw [Core.signed_mul, signed_abs, Core.qmin_b64]
  unfold U
  rw [show (-(k : Int) - -1074).toNat = 1074 - k by omega]
theorem is_dint {i : Int} {x : UInt64} (h : Core.DInt i x) (hf : Fin64 x) : Is x i 0 := ⟨hf, by rw [zv_dint h, U_zero]⟩
theorem is_i2d (v : Int32) : Is (FP.i2d v) v.toInt 0 := is_dint (Core.i2d_int v) (i2d_fin v)
theorem is_l2d {v : Int64} (h : v.toInt.natAbs ≤ 2 ^ 53) : Is (FP.l2d v) v.toInt 0 := is_dint (Core.l2d_int h) (l2d_fin v)
theorem is_zero (k : Nat) : Is 0 0 k := ⟨fin_zero, by rw [zv_zero, Int.zero_mul]⟩
theorem is_one : Is 4607182418800017408 1 0 := is_dint Core.dint_one fin_one
theorem Is.nn {x : UInt64} {i : Int} {k : Nat} (h : Is x i k) : NoNaN64 x := h.1.noNaN
theorem Is.up {x : UInt64} {i : Int} {k : Nat} (h : Is x i k) (j : Nat) (hj : k + j ≤ 1074) : Is x (i * ((2 ^ j : Nat) : Int)) (k + j) := ⟨h.1, by rw [h.2, U_add hj, Int.mul_assoc]⟩
theorem is_val {x v : UInt64} {i : Int} {k : Nat} (hn : NoNaN64 x) (hv : Is v i k) (h : zv x = zv v) : Is x i k := ⟨fin_of hn hv.1 (by rw [← zm_abs, ← zm_abs, h]; exact Nat.le_refl _), h.trans hv.2⟩
theorem Is.add {x y : UInt64} {i j : Int} {k : Nat} (hx : Is x i k) (hy : Is y j k) (hk : k ≤ 1074) (h : (i + j).natAbs < 2 ^ 53) : Is (FP.dadd x y) (i + j) k := by
  obtain ⟨v, hv⟩ := repr (i + j) k hk h
  have e : zv x + zv y = zv v := by rw [hx.2, hy.2, hv.2, Int.add_mul]
  exact is_val (dadd_out hx.nn hy.1) hv (Int.le_antisymm (add_le hx.1 hy.1 hv.nn (by omega)) (add_ge hx.1 hy.1 hv.nn (by omega)))
theorem Is.sub {x y : UInt64} {i j : Int} {k : Nat} (hx : Is x i k) (hy : Is y j k) (hk : k ≤ 1074) (h : (i - j).natAbs < 2 ^ 53) : Is (FP.dsub x y) (i - j) k := by
  obtain ⟨v, hv⟩ := repr (i - j) k hk h
  have e : zv x - zv y = zv v := by rw [hx.2, hy.2, hv.2, Int.sub_mul]
  exact is_val (dsub_out hx.nn hy.1) hv (Int.le_antisymm (sub_le hx.1 hy.1 hv.nn (by omega)) (sub_ge hx.1 hy.1 hv.nn (by omega)))
theorem Is.lt_iff {x y : UInt64} {i j : Int} {k : Nat} (hx : Is x i k) (hy : Is y j k) : zv x < zv y ↔ i < j := by
  rw [hx.2, hy.2]; exact Int.mul_lt_mul_right (U_pos k)
theorem Is.eq_iff {x y : UInt64} {i j : Int} {k : Nat} (hx : Is x i k) (hy : Is y j k) : zv x = zv y ↔ i = j := by
  rw [hx.2, hy.2]; exact ⟨fun h => Int.eq_of_mul_eq_mul_right (Int.ne_of_gt (U_pos k)) h, fun h => by rw [h]⟩
theorem Is.cmp {x y : UInt64} {i j : Int} {k : Nat} (hx : Is x i k) (hy : Is y j k) (o : CmpOp) : cmpValue (FP.dcmp x y) o = if i < j then -1 else if i = j then 0 else 1 := by
  rw [cv hx.nn hy.nn]
  simp only [hx.lt_iff hy, hx.eq_iff hy]
/-- a quotient: her magnitude lies on the same side of any double as the true one; her sign is the signs' product -/
theorem div_shape {x y : UInt64} (hx : Fin64 x) (hy : Fin64 y) (hz : zm y ≠ 0) : ∃ (s t : Bool) (c d : Nat) (q r : Int), Core.val64 x = .fin s c q ∧ Core.val64 y = .fin t d r ∧ 0 < d ∧ Core.val64 (FP.ddiv x y) = Core.roundRatio Core.b64 (s != t) c d (q - r) := by
  obtain ⟨s, c, q, e1⟩ := sh hx
  obtain ⟨t, d, r, e2⟩ := sh hy
  have hd : d ≠ 0 := fun h => hz (by unfold zm; rw [e2]; show Core.inUnits d r _ = 0; rw [h]; simp [Core.inUnits])
  refine ⟨s, t, c, d, q, r, e1, e2, by omega, ?_⟩
  have := Core.val64_ddiv x y
  rw [e1, e2] at this
  show Core.val64 (Core.ddiv x y) = _
  rw [this]
  simp [Core.quotient, hd]
theorem units2 (c : Nat) (q r : Int) (hq : -1074 ≤ q) (hr : -1074 ≤ r) : Core.inUnits c (q - r) (-1074 - (r + 1074)) = Core.inUnits c q (-1074) * Core.one64 := by
  unfold Core.inUnits Core.one64
  rw [Nat.mul_assoc, ← Nat.pow_add]
  congr 2
  omega
theorem div_le {x y v : UInt64} (hx : Fin64 x) (hy : Fin64 y) (hz : zm y ≠ 0) (hv : NoNaN64 v) (h : zm x * Core.one64 ≤ zm v * zm y) : zm (FP.ddiv x y) ≤ zm v := by
  obtain ⟨s, t, c, d, q, r, e1, e2, hd, e3⟩ := div_shape hx hy hz
  have f1 := Core.val64_fits x; have f2 := Core.val64_fits y
  rw [e1] at f1; rw [e2] at f2
  have q1 := f1.2.1; have r1 := f2.2.1
  rw [Core.qmin_b64] at q1 r1
  unfold zm at h ⊢
  rw [e3]
  rw [e1, e2] at h
  refine Core.zmag_roundRatio_le Core.good_b64 hd (Core.val64_fits v) (nn hv) (e0 := -1074 - (r + 1074)) (by rw [Core.qmin_b64]; omega) (by omega) ?_
  rw [units2 c q r q1 r1, Core.qmin_b64, show (-1074 - (-1074 - (r + 1074))).toNat = (r + 1074).toNat by omega]
  change Core.inUnits c q Core.b64.qmin * _ ≤ _ * Core.inUnits d r Core.b64.qmin at h
  rw [Core.qmin_b64] at h
  refine Nat.le_trans h (Nat.le_of_eq ?_)
  unfold Core.inUnits
  rw [show (r - -1074).toNat = (r + 1074).toNat by omega]
  ac_rfl
theorem div_ge {x y v : UInt64} (hx : Fin64 x) (hy : Fin64 y) (hz : zm y ≠ 0) (h : zm v * zm y ≤ zm x * Core.one64) : zm v ≤ zm (FP.ddiv x y) := by
  obtain ⟨s, t, c, d, q, r, e1, e2, hd, e3⟩ := div_shape hx hy hz
  have f1 := Core.val64_fits x; have f2 := Core.val64_fits y
  rw [e1] at f1; rw [e2] at f2
  have q1 := f1.2.1; have r1 := f2.2.1
  rw [Core.qmin_b64] at q1 r1
  unfold zm at h ⊢
  rw [e3]
  rw [e1, e2] at h
  refine Core.zmag_roundRatio_ge Core.good_b64 hd (Core.val64_fits v) (e0 := -1074 - (r + 1074)) (by rw [Core.qmin_b64]; omega) (by omega) ?_
  rw [units2 c q r q1 r1, Core.qmin_b64, show (-1074 - (-1074 - (r + 1074))).toNat = (r + 1074).toNat by omega]
  change _ * Core.inUnits d r Core.b64.qmin ≤ Core.inUnits c q Core.b64.qmin * _ at h
  rw [Core.qmin_b64] at h
  refine Nat.le_trans (Nat.le_of_eq ?_) h
  unfold Core.inUnits
  rw [show (r - -1074).toNat = (r + 1074).toNat by omega]
  ac_rfl
theorem div_sgn {x y : UInt64} (hx : Fin64 x) (hy : Fin64 y) (hz : zm y ≠ 0) : Core.sgn (Core.val64 (FP.ddiv x y)) = (Core.sgn (Core.val64 x) != Core.sgn (Core.val64 y)) := by
  obtain ⟨s, t, c, d, q, r, e1, e2, hd, e3⟩ := div_shape hx hy hz
  rw [e3, Core.sgn_roundRatio, e1, e2]; rfl
theorem nz_of {y : UInt64} (hy : Fin64 y) (hz : zm y ≠ 0) : Nz64 y := by
  refine nz64_core.mpr fun ⟨s, q, e⟩ => hz ?_
  unfold zm; rw [e]; simp [Core.zmag, Core.inUnits]
theorem div_nn {x y : UInt64} (hx : Fin64 x) (hy : Fin64 y) (hz : zm y ≠ 0) : NoNaN64 (FP.ddiv x y) := ddiv_out hx.noNaN hy (nz_of hy hz)
theorem sgn_pos {x : UInt64} (h : 0 < zv x) : Core.sgn (Core.val64 x) = false := by
  rw [zv_sgn] at h
  cases e : Core.sgn (Core.val64 x)
  · rfl
  · rw [e] at h; simp [Core.signed] at h; omega
theorem zv_of_pos {x : UInt64} (h : Core.sgn (Core.val64 x) = false) : zv x = (zm x : Int) := by rw [zv_sgn, h]; rfl
theorem Is.zm {x : UInt64} {i : Int} {k : Nat} (h : Is x i k) : (OwnFP.zm x : Int) = (i.natAbs : Int) * U k := by
  rw [← zm_abs, h.2, Int.natAbs_mul, Int.natCast_mul, Int.natAbs_of_nonneg (Int.le_of_lt (U_pos k))]
/-- i / 2 ^ j is exact -/
theorem Is.div2 {x y : UInt64} {i : Int} {j : Nat} (hx : Is x i 0) (hy : Is y ((2 ^ j : Nat) : Int) 0) (hj : j ≤ 1074) (hi : i.natAbs < 2 ^ 53) : Is (FP.ddiv x y) i j := by
  obtain ⟨v, hv⟩ := repr i j hj hi
  have p2 := Nat.two_pow_pos j
  have hyz : (OwnFP.zm y : Int) = ((2 ^ j : Nat) : Int) * U 0 := by rw [hy.zm]; simp
  have hz : OwnFP.zm y ≠ 0 := fun h => by
    rw [h] at hyz
    have := Int.mul_pos (Int.natCast_pos.mpr p2) (U_pos 0)
    omega
  have e : OwnFP.zm x * Core.one64 = OwnFP.zm v * OwnFP.zm y := by
    have : ((OwnFP.zm x * Core.one64 : Nat) : Int) = ((OwnFP.zm v * OwnFP.zm y : Nat) : Int) := by
      rw [Int.natCast_mul, Int.natCast_mul, hx.zm, hv.zm, hyz, ← U_zero, U_add (k := 0) (j := j) (by omega), Nat.zero_add]
      ac_rfl
    exact Int.ofNat.inj this
  have em : OwnFP.zm (FP.ddiv x y) = OwnFP.zm v := Nat.le_antisymm (div_le hx.1 hy.1 hz hv.nn (Nat.le_of_eq e)) (div_ge hx.1 hy.1 hz (Nat.le_of_eq e.symm))
  have sy : Core.sgn (Core.val64 y) = false := sgn_pos (by rw [hy.2]; exact Int.mul_pos (Int.natCast_pos.mpr p2) (U_pos 0))
  refine ⟨fin_of (div_nn hx.1 hy.1 hz) hv.1 (Nat.le_of_eq em), ?_⟩
  rw [zv_sgn, div_sgn hx.1 hy.1 hz, sy, em]
  by_cases h0 : i = 0
  · have : OwnFP.zm v = 0 := by have := hv.zm; rw [h0] at this; simp at this; exact this
    rw [this, h0]; simp [Core.signed_zero]
  · have ex : Core.signed (Core.sgn (Core.val64 x)) (OwnFP.zm x) = i * U 0 := hx.2
    have hz2 := hv.zm
    have hzx := hx.zm
    have u0 := U_pos 0; have uj := U_pos j
    cases e : Core.sgn (Core.val64 x)
    · rw [e] at ex
      have : 0 < i := by
        have h1 : (0 : Int) ≤ i * U 0 := by rw [← ex]; simp [Core.signed]
        have h2 : 0 ≤ i := Int.not_lt.mp fun q => by have := Int.mul_neg_of_neg_of_pos q u0; omega
        omega
      show ((OwnFP.zm v : Nat) : Int) = _
      rw [hz2, show ((i.natAbs : Nat) : Int) = i by omega]
    · rw [e] at ex
      have : i < 0 := by
        have h1 : i * U 0 ≤ 0 := by rw [← ex]; simp [Core.signed]
        have h2 : i ≤ 0 := Int.not_lt.mp fun q => by have := Int.mul_pos q u0; omega
        omega
      show -((OwnFP.zm v : Nat) : Int) = _
      rw [hz2, show ((i.natAbs : Nat) : Int) = -i by omega, Int.neg_mul, Int.neg_neg]
theorem abs_le_max {x : UInt64} (h : Fin64 x) : ¬ (0 : Int32) < cmpValue (FP.dcmp (x &&& 0x7fffffffffffffff) (9218868437227405311 : UInt64)) .g := by
  rcases (Core.le_max (noNaN64_no.mp h.noNaN)).mpr (fin64_core.mp h) with q | q
  · rw [show FP.dcmp (x &&& 0x7fffffffffffffff) (9218868437227405311 : UInt64) = some .lt from q]; decide
  · rw [show FP.dcmp (x &&& 0x7fffffffffffffff) (9218868437227405311 : UInt64) = some .eq from q]; decide
/-- equal numbers over one divisor: equal numbers -/
theorem div_congr {x x' y : UInt64} (hx : Fin64 x) (hx' : Fin64 x') (h : zv x = zv x') (hy : Fin64 y) (hz : OwnFP.zm y ≠ 0) : zv (FP.ddiv x y) = zv (FP.ddiv x' y) := by
  by_cases h0 : zv x' = 0
  · have e1 : OwnFP.zm x = 0 := by rw [← zm_abs, h, h0]; rfl
    have e2 : OwnFP.zm x' = 0 := by rw [← zm_abs, h0]; rfl
    have z0 : OwnFP.zm 0 = 0 := by rw [← zm_abs, zv_zero]; rfl
    have d1 := div_le (v := 0) hx hy hz fin_zero.noNaN (by rw [e1]; simp)
    have d2 := div_le (v := 0) hx' hy hz fin_zero.noNaN (by rw [e2]; simp)
    rw [z0] at d1 d2
    rw [zv_sgn, zv_sgn, Nat.le_zero.mp d1, Nat.le_zero.mp d2, Core.signed_zero, Core.signed_zero]
  · have : x = x' := by
      refine Core.eq_bits (fun hz' => h0 hz'.zval) ?_
      have q : Core.dcmp x x' = some (compare (zv x) (zv x')) := Core.dcmp_zval (nn hx.noNaN) (nn hx'.noNaN)
      rw [q, h, Core.compare_self_int]
    rw [this]
end Jvm.OwnFP
/- laws to paste: Road.backV (cut by pick.py; bodies as the Statement names them) -/
namespace Jvm.Pilot.@@N@@
namespace StrChars
open Jvm Sem ClassFile Op Lib Jvm.Stand Jvm.Free.XT Jvm.Free.ALB Jvm.Free.JM Jvm.Free
open Jvm.Lib.Cold (StaticIs)
/-- a char array whose places are chars -/
def Ch (a : Addr) (A : Cell) (U : State) : Prop := Arr .char a A U ∧ Typed .char A
theorem Ch.mv {a : Addr} {A : Cell} {U U' : State} (h : Ch a A U) (hal : U.vm.Alike U'.vm) (hh : U'.heap = U.heap) : Ch a A U' := ⟨h.1.mv hal hh, h.2⟩
theorem Ch.keep {a : Addr} {A : Cell} {U U' : State} (h : Ch a A U) (hal : U.vm.Alike U'.vm) (hk : U'.heap[a]? = some A) : Ch a A U' := ⟨h.1.keep hal hk, h.2⟩
/-- what place i of a char[]'s cell holds -/
def cv (A : Cell) (i : Nat) : Int32 := match A.slots[i]? with | some (.int x) => x | _ => 0
theorem Ch.get {a : Addr} {A : Cell} {U : State} (h : Ch a A U) {i : Nat} (hi : i < A.slots.size) : A.slots[i]? = some (.int (cv A i)) := by
  have e := Array.getElem?_eq_getElem hi
  have f := h.2 i _ e
  unfold cv; rw [e]
  generalize A.slots[i] = v at f
  cases v <;> simp [fits] at f ⊢
/-- the byte that i2b leaves of a char -/
def lo8 (x : Int32) : Int32 := x.toInt8.toInt32
theorem fits_lo8 (y : Int32) : fits .byte (.int (lo8 y)) = true := by
  have h1 := y.toInt8.le_toInt
  have h2 := y.toInt8.toInt_lt
  simp only [lo8, fits, Bool.and_eq_true, decide_eq_true_eq, Int32.le_iff_toInt_le, Int8.toInt_toInt32, show (-128 : Int32).toInt = -128 from by decide, show (127 : Int32).toInt = 127 from by decide]
  omega
/-- A' is A but that each place j of lo .. hi - 1 holds f j -/
def Laid (A A' : Cell) (lo hi : Nat) (f : Nat → Value) : Prop := A'.cls = A.cls ∧ A'.vm = A.vm ∧ A'.slots.size = A.slots.size ∧ ∀ i, A'.slots[i]? = if lo ≤ i ∧ i < hi then some (f i) else A.slots[i]?
theorem Laid.zero (A : Cell) (lo : Nat) (f : Nat → Value) : Laid A A lo (lo + 0) f := ⟨rfl, rfl, rfl, fun i => by rw [if_neg (by omega)]⟩
theorem Laid.step {A Ak : Cell} {lo k : Nat} {f : Nat → Value} {v : Value} (h : Laid A Ak lo k f) (hlo : lo ≤ k) (hk : k < Ak.slots.size) (hv : v = f k) : Laid A (Ak.setSlot k v) lo (k + 1) f := by
  refine ⟨h.1, h.2.1, by simpa [Cell.setSlot] using h.2.2.1, fun i => ?_⟩
  by_cases e : k = i
  · subst e; rw [Cell.slots_setSlot_self v hk, if_pos (by omega), hv]
  · rw [Cell.slots_setSlot_ne v e, h.2.2.2 i]
    by_cases q : lo ≤ i ∧ i < k
    · rw [if_pos q, if_pos (by omega)]
    · rw [if_neg q, if_neg (by omega)]
def U16 : String := "java/lang/StringUTF16"
namespace Cmp5
def yN : MethodName := ⟨"java/lang/StringUTF16", "compress", "([CI[BII)I"⟩
abbrev yB : ByteArray := jdk_52_method_21_code
theorem d0 : decode yB 0 = .ok (.iconst 0, 1) := by decide +kernel
theorem d1 : decode yB 1 = .ok (.istore 5, 2) := by decide +kernel
theorem d3 : decode yB 3 = .ok (.iload 5, 2) := by decide +kernel
theorem d5 : decode yB 5 = .ok (.iload 4, 2) := by decide +kernel
theorem d7 : decode yB 7 = .ok (.if_icmp (.ge) 37, 3) := by decide +kernel
theorem d10 : decode yB 10 = .ok (.aload_n 0, 1) := by decide +kernel
theorem d11 : decode yB 11 = .ok (.iload_n 1, 1) := by decide +kernel
theorem d12 : decode yB 12 = .ok (.caload, 1) := by decide +kernel
theorem d13 : decode yB 13 = .ok (.istore 6, 2) := by decide +kernel
theorem d15 : decode yB 15 = .ok (.iload 6, 2) := by decide +kernel
theorem d17 : decode yB 17 = .ok (.sipush 255, 3) := by decide +kernel
theorem d20 : decode yB 20 = .ok (.if_icmp (.le) 6, 3) := by decide +kernel
theorem d26 : decode yB 26 = .ok (.aload_n 2, 1) := by decide +kernel
theorem d27 : decode yB 27 = .ok (.iload_n 3, 1) := by decide +kernel
theorem d28 : decode yB 28 = .ok (.iload 6, 2) := by decide +kernel
theorem d30 : decode yB 30 = .ok (.i2b, 1) := by decide +kernel
theorem d31 : decode yB 31 = .ok (.bastore, 1) := by decide +kernel
theorem d32 : decode yB 32 = .ok (.iinc 1 1, 3) := by decide +kernel
theorem d35 : decode yB 35 = .ok (.iinc 3 1, 3) := by decide +kernel
theorem d38 : decode yB 38 = .ok (.iinc 5 1, 3) := by decide +kernel
theorem d41 : decode yB 41 = .ok (.goto (-38), 3) := by decide +kernel
theorem d44 : decode yB 44 = .ok (.iload 4, 2) := by decide +kernel
theorem d46 : decode yB 46 = .ok (.ireturn, 1) := by decide +kernel
def site : List Cond := []
def tab : Cond := tabOf yN yB 7 (some .int) site
def P (b : Addr) (A : Cell) (d : Addr) (B : Cell) (o q len : Nat) (args : Array Value) (s : State) : Prop := args = #[.ref b, .int (Int32.ofNat o), .ref d, .int (Int32.ofNat q), .int (Int32.ofNat len)] ∧ Ch b A s ∧ Arr .byte d B s ∧ b ≠ d ∧ o + len ≤ A.slots.size ∧ q + len ≤ B.slots.size ∧ ∀ i, i < len → ¬ 255 < cv A (o + i)
def E (b : Addr) (A : Cell) (d : Addr) (B : Cell) (o q len : Nat) (r : Option Value) (s u : State) : Prop := r = some (.int (Int32.ofNat len)) ∧ ∃ B', Put d B' s u ∧ Laid B B' q (q + len) (fun j => Value.int (lo8 (cv A (o + (j - q)))))
/-- no char of the range above 255: len; the places written hold each char's low byte -/
theorem law (l : Launch) (b : Addr) (A : Cell) (d : Addr) (B : Cell) (o q len : Nat) : Law l yN 5 5 0 0 yB 7 (some .int) site (P b A d B o q len) (E b A d B o q len) (copyLocs d q len) 0 0 := by
  refine Law.of_walk (plainFor_of_name (by decide +kernel)) (by decide +kernel) (by decide +kernel) (by decide) (fun _ _ h => by rw [h.1]; rfl) (fun _ U U' hal hh h => ⟨h.1, h.2.1.mv hal hh, h.2.2.1.mv hal hh, h.2.2.2⟩) (fun r U U' V V' h1 hal h2 h => ⟨h.1, h.2.elim fun B' q => ⟨B', q.1.mv h1 h2, q.2⟩⟩) ?_
  intro p e s m args below meth c s₁ X0 hexec hbytes hml hret hlk hnm hown hh0 W hP
  obtain ⟨rfl, hA, hB, hne, l1, l2, hp⟩ := hP
  have c1 : Steps p.tables e below (s₁.setTop (entryFrame m #[.ref b, .int (Int32.ofNat o), .ref d, .int (Int32.ofNat q), .int (Int32.ofNat len)] 7)) (s₁.setTop (mkF m 0 #[.val (.ref b), .val (.int (Int32.ofNat o)), .val (.ref d), .val (.int (Int32.ofNat q)), .val (.int (Int32.ofNat len)), .unset, .unset] [])) := entry rfl
  have hA0 := hA.1.mv X0.warmed.alike hh0
  have hB0 := hB.mv X0.warmed.alike hh0
  have a31 := hA.1.2.2.2
  have c2 : Steps p.tables e below (s₁.setTop (entryFrame m #[.ref b, .int (Int32.ofNat o), .ref d, .int (Int32.ofNat q), .int (Int32.ofNat len)] 7)) (s₁.setTop (mkF m 3 #[.val (.ref b), .val (.int (Int32.ofNat o)), .val (.ref d), .val (.int (Int32.ofNat q)), .val (.int (Int32.ofNat len)), .val (.int 0), .unset] [])) := c1.trans (by
    refine iconstV X0.here hexec rfl 0 (hb hbytes d0) (by decide) ?_
    refine XS.istore X0.here hexec rfl (hb hbytes d1) rfl rfl ?_
    exact Steps.refl _)
  have loop : ∀ (r i : Nat), i + r = len → ∀ (z : Slot), (z = .unset ∨ ∃ w, z = .val w ∧ w.category = 1) → ∀ (Tl : State) (Bk : Cell), Stand p l e { frames := 0, locals := 0, cells := 0, slots := 0 } s m #[.ref b, .int (Int32.ofNat o), .ref d, .int (Int32.ofNat q), .int (Int32.ofNat len)] below meth c Tl ([] ++ copyLocs d q i) 0 0 → Put d Bk s₁ Tl → Laid B Bk q (q + i) (fun j => Value.int (lo8 (cv A (o + (j - q))))) →
      Steps p.tables e below (s₁.setTop (entryFrame m #[.ref b, .int (Int32.ofNat o), .ref d, .int (Int32.ofNat q), .int (Int32.ofNat len)] 7)) (Tl.setTop (mkF m 3 #[.val (.ref b), .val (.int (Int32.ofNat (o + i))), .val (.ref d), .val (.int (Int32.ofNat (q + i))), .val (.int (Int32.ofNat len)), .val (.int (Int32.ofNat i)), z] [])) → ∃ (T' : State) (B' : Cell) (z' : Slot), Stand p l e { frames := 0, locals := 0, cells := 0, slots := 0 } s m #[.ref b, .int (Int32.ofNat o), .ref d, .int (Int32.ofNat q), .int (Int32.ofNat len)] below meth c T' ([] ++ copyLocs d q len) 0 0 ∧ Put d B' s₁ T' ∧ Laid B B' q (q + len) (fun j => Value.int (lo8 (cv A (o + (j - q))))) ∧
      Steps p.tables e below (s₁.setTop (entryFrame m #[.ref b, .int (Int32.ofNat o), .ref d, .int (Int32.ofNat q), .int (Int32.ofNat len)] 7)) (T'.setTop (mkF m 3 #[.val (.ref b), .val (.int (Int32.ofNat (o + len))), .val (.ref d), .val (.int (Int32.ofNat (q + len))), .val (.int (Int32.ofNat len)), .val (.int (Int32.ofNat len)), z'] [])) := by
    intro r
    induction r with
    | zero =>
      intro i hi z hz Tl Bk Xl pl fl cl
      have hil : i = len := by omega
      rw [hil] at Xl fl cl
      exact ⟨Tl, Bk, z, Xl, pl, fl, cl⟩
    | succ r ih =>
      intro i hi z hz Tl Bk Xl pl fl cl
      have all := X0.warmed.alike.symm.trans Xl.warmed.alike
      have hAl := hA0.keep all (pl.other hne hA0.1)
      have hBk := hB0.like all pl.1 fl.1 fl.2.1 fl.2.2.1
      have hlt : q + i < Bk.slots.size := by rw [fl.2.2.1]; omega
      have c3 : Steps p.tables e below (s₁.setTop (entryFrame m #[.ref b, .int (Int32.ofNat o), .ref d, .int (Int32.ofNat q), .int (Int32.ofNat len)] 7)) (Tl.setTop (mkF m 12 #[.val (.ref b), .val (.int (Int32.ofNat (o + i))), .val (.ref d), .val (.int (Int32.ofNat (q + i))), .val (.int (Int32.ofNat len)), .val (.int (Int32.ofNat i)), z] [.int (Int32.ofNat (o + i)), .ref b])) := cl.trans (by
        refine XS.iload Xl.here hexec rfl (hb hbytes d3) rfl ?_
        refine XS.iload Xl.here hexec rfl (hb hbytes d5) rfl ?_
        refine XS.icmpNo Xl.here hexec rfl (hb hbytes d7) rfl (ii_ge_f (lt32 (by omega) (by omega))) ?_
        refine XS.aloadN Xl.here hexec rfl (hb hbytes d10) rfl rfl ?_
        refine XS.iloadN Xl.here hexec rfl (hb hbytes d11) rfl ?_
        exact Steps.refl _)
      have c4 : Steps p.tables e below (s₁.setTop (entryFrame m #[.ref b, .int (Int32.ofNat o), .ref d, .int (Int32.ofNat q), .int (Int32.ofNat len)] 7)) (Tl.setTop (mkF m 13 #[.val (.ref b), .val (.int (Int32.ofNat (o + i))), .val (.ref d), .val (.int (Int32.ofNat (q + i))), .val (.int (Int32.ofNat len)), .val (.int (Int32.ofNat i)), z] [.int (cv A (o + i))])) := c3.trans (by
        refine Xl.aget hexec hAl rfl (hA.get (i := o + i) (by omega)) rfl rfl (hb hbytes d12) ?_
        exact Steps.refl _)
      have c5 : Steps p.tables e below (s₁.setTop (entryFrame m #[.ref b, .int (Int32.ofNat o), .ref d, .int (Int32.ofNat q), .int (Int32.ofNat len)] 7)) (Tl.setTop (mkF m 15 #[.val (.ref b), .val (.int (Int32.ofNat (o + i))), .val (.ref d), .val (.int (Int32.ofNat (q + i))), .val (.int (Int32.ofNat len)), .val (.int (Int32.ofNat i)), .val (.int (cv A (o + i)))] [])) := c4.trans (by
        refine XS.istoreS Xl.here hexec rfl (hb hbytes d13) rfl rfl hz ?_
        exact Steps.refl _)
      have c6 : Steps p.tables e below (s₁.setTop (entryFrame m #[.ref b, .int (Int32.ofNat o), .ref d, .int (Int32.ofNat q), .int (Int32.ofNat len)] 7)) (Tl.setTop (mkF m 31 #[.val (.ref b), .val (.int (Int32.ofNat (o + i))), .val (.ref d), .val (.int (Int32.ofNat (q + i))), .val (.int (Int32.ofNat len)), .val (.int (Int32.ofNat i)), .val (.int (cv A (o + i)))] [.int (lo8 (cv A (o + i))), .int (Int32.ofNat (q + i)), .ref d])) := c5.trans (by
        refine XS.iload Xl.here hexec rfl (hb hbytes d15) rfl ?_
        refine sipushV Xl.here hexec rfl 255 (hb hbytes d17) (by decide) ?_
        refine XS.icmpYes Xl.here hexec rfl (pc0 := 20) rfl (hb hbytes d20) rfl (ii_le_t (hp i (by omega))) (by decide) rfl ?_
        refine XS.aloadN Xl.here hexec rfl (hb hbytes d26) rfl rfl ?_
        refine XS.iloadN Xl.here hexec rfl (hb hbytes d27) rfl ?_
        refine XS.iload Xl.here hexec rfl (hb hbytes d28) rfl ?_
        refine i2b Xl.here hexec rfl (hb hbytes d30) rfl ?_
        exact Steps.refl _)
      obtain ⟨T7, X7, p7, st7⟩ := Xl.aput hexec hBk rfl hlt rfl (fits_lo8 (cv A (o + i))) (g := (mkF m 31 #[.val (.ref b), .val (.int (Int32.ofNat (o + i))), .val (.ref d), .val (.int (Int32.ofNat (q + i))), .val (.int (Int32.ofNat len)), .val (.int (Int32.ofNat i)), .val (.int (cv A (o + i)))] [.int (lo8 (cv A (o + i))), .int (Int32.ofNat (q + i)), .ref d])) rfl (rest := []) rfl (hb hbytes d31)
      have c8 : Steps p.tables e below (s₁.setTop (entryFrame m #[.ref b, .int (Int32.ofNat o), .ref d, .int (Int32.ofNat q), .int (Int32.ofNat len)] 7)) (T7.setTop (mkF m 32 #[.val (.ref b), .val (.int (Int32.ofNat (o + i))), .val (.ref d), .val (.int (Int32.ofNat (q + i))), .val (.int (Int32.ofNat len)), .val (.int (Int32.ofNat i)), .val (.int (cv A (o + i)))] [])) := c6.trans (st7 _ (Steps.refl _))
      have c9 : Steps p.tables e below (s₁.setTop (entryFrame m #[.ref b, .int (Int32.ofNat o), .ref d, .int (Int32.ofNat q), .int (Int32.ofNat len)] 7)) (T7.setTop (mkF m 3 #[.val (.ref b), .val (.int (Int32.ofNat (o + i) + 1)), .val (.ref d), .val (.int (Int32.ofNat (q + i) + 1)), .val (.int (Int32.ofNat len)), .val (.int (Int32.ofNat i + 1)), .val (.int (cv A (o + i)))] [])) := c8.trans (by
        refine iincV X7.here hexec rfl 1 (hb hbytes d32) (by decide) rfl rfl ?_
        refine iincV X7.here hexec rfl 1 (hb hbytes d35) (by decide) rfl rfl ?_
        refine iincV X7.here hexec rfl 1 (hb hbytes d38) (by decide) rfl rfl ?_
        refine XS.goto X7.here hexec rfl (pc0 := 41) rfl (hb hbytes d41) (by decide) rfl ?_
        exact Steps.refl _)
      have c10 : Steps p.tables e below (s₁.setTop (entryFrame m #[.ref b, .int (Int32.ofNat o), .ref d, .int (Int32.ofNat q), .int (Int32.ofNat len)] 7)) (T7.setTop (mkF m 3 #[.val (.ref b), .val (.int (Int32.ofNat (o + (i + 1)))), .val (.ref d), .val (.int (Int32.ofNat (q + (i + 1)))), .val (.int (Int32.ofNat len)), .val (.int (Int32.ofNat (i + 1))), .val (.int (cv A (o + i)))] [])) := by
        have := c9
        rw [succ32, succ32, succ32] at this
        exact this
      exact ih (i + 1) (by omega) _ (Or.inr ⟨_, rfl, rfl⟩) T7 _ (by rw [copyLocs_step, ← List.append_assoc]; exact X7) (pl.trans p7) (fl.step (by omega) hlt (by simp)) c10
  obtain ⟨T9, B9, z9, X9, p9, f9, g9⟩ := loop len 0 (by omega) .unset (Or.inl rfl) s₁ B (by simpa [copyLocs] using X0) ⟨hB0.1, fun _ _ => rfl, rfl⟩ (Laid.zero _ _ _) c2
  have c11 : Steps p.tables e below (s₁.setTop (entryFrame m #[.ref b, .int (Int32.ofNat o), .ref d, .int (Int32.ofNat q), .int (Int32.ofNat len)] 7)) (T9.setTop (mkF m 46 #[.val (.ref b), .val (.int (Int32.ofNat (o + len))), .val (.ref d), .val (.int (Int32.ofNat (q + len))), .val (.int (Int32.ofNat len)), .val (.int (Int32.ofNat len)), z9] [.int (Int32.ofNat len)])) := g9.trans (by
    refine XS.iload X9.here hexec rfl (hb hbytes d3) rfl ?_
    refine XS.iload X9.here hexec rfl (hb hbytes d5) rfl ?_
    refine XS.icmpYes X9.here hexec rfl (pc0 := 7) rfl (hb hbytes d7) rfl (ii_ge_t (nlt32 (by omega) (Nat.le_refl _))) (by decide) rfl ?_
    refine XS.iload X9.here hexec rfl (hb hbytes d44) rfl ?_
    exact Steps.refl _)
  exact ⟨T9, some (.int (Int32.ofNat len)), _, _, _, X9, by simp, rfl, rfl, (fun h => by cases h), ⟨rfl, B9, p9.from hh0, f9⟩, fun fs hl => c11.trans (X9.ireturnOut hexec hret rfl (Or.inl rfl) (hb hbytes d46) hl)⟩
end Cmp5
namespace Cmp3
def yN : MethodName := ⟨"java/lang/StringUTF16", "compress", "([CII)[B"⟩
abbrev yB : ByteArray := jdk_52_method_16_code
theorem d0 : decode yB 0 = .ok (.iload_n 2, 1) := by decide +kernel
theorem d1 : decode yB 1 = .ok (.newarray .byte, 2) := by decide +kernel
theorem d3 : decode yB 3 = .ok (.astore_n 3, 1) := by decide +kernel
theorem d4 : decode yB 4 = .ok (.aload_n 0, 1) := by decide +kernel
theorem d5 : decode yB 5 = .ok (.iload_n 1, 1) := by decide +kernel
theorem d6 : decode yB 6 = .ok (.aload_n 3, 1) := by decide +kernel
theorem d7 : decode yB 7 = .ok (.iconst 0, 1) := by decide +kernel
theorem d8 : decode yB 8 = .ok (.iload_n 2, 1) := by decide +kernel
theorem d9 : decode yB 9 = .ok (.invokestatic 115, 3) := by decide +kernel
theorem d12 : decode yB 12 = .ok (.istore 4, 2) := by decide +kernel
theorem d14 : decode yB 14 = .ok (.iload 4, 2) := by decide +kernel
theorem d16 : decode yB 16 = .ok (.iload_n 2, 1) := by decide +kernel
theorem d17 : decode yB 17 = .ok (.if_icmp (.eq) 40, 3) := by decide +kernel
theorem d57 : decode yB 57 = .ok (.aload_n 3, 1) := by decide +kernel
theorem d58 : decode yB 58 = .ok (.areturn, 1) := by decide +kernel
def site : List Cond := [.arrayClass .byte, Cmp5.tab] ++ staticW U16 115 Cmp5.yN
def tab : Cond := tabOf yN yB 6 (some (.array .byte)) site
def P (b : Addr) (A : Cell) (o len : Nat) (args : Array Value) (s : State) : Prop := args = #[.ref b, .int (Int32.ofNat o), .int (Int32.ofNat len)] ∧ Ch b A s ∧ o + len ≤ A.slots.size ∧ len ≤ 536870912 ∧ ∀ i, i < len → ¬ 255 < cv A (o + i)
def E (b : Addr) (A : Cell) (o len : Nat) (r : Option Value) (s u : State) : Prop := NewArr .byte "[B" len (fun j => .int (lo8 (cv A (o + j)))) r s u ∧ u.heap.size = s.heap.size + 1
/-- no char of the range above 255: a new byte[] of their low bytes -/
theorem law (l : Launch) (b : Addr) (A : Cell) (o len : Nat) : Law l yN 3 3 1 18 yB 6 (some (.array .byte)) site (P b A o len) (E b A o len) [] 1 len := by
  refine Law.of_walk (plainFor_of_name (by decide +kernel)) (by decide +kernel) (by decide +kernel) (by decide) (fun _ _ h => by rw [h.1]; rfl) (fun _ U U' hal hh h => ⟨h.1, h.2.1.mv hal hh, h.2.2⟩) (fun r U U' V V' h1 hal h2 h => ⟨NewArr.mv r U U' V V' h1 hal h2 h.1, by rw [h1, h2]; exact h.2⟩) ?_
  intro p e s m args below meth c s₁ X0 hexec hbytes hml hret hlk hnm hown hh0 W hP
  obtain ⟨rfl, hA, l1, l2, hp⟩ := hP
  have a31 := hA.1.2.2.2
  have c1 : Steps p.tables e below (s₁.setTop (entryFrame m #[.ref b, .int (Int32.ofNat o), .int (Int32.ofNat len)] 6)) (s₁.setTop (mkF m 0 #[.val (.ref b), .val (.int (Int32.ofNat o)), .val (.int (Int32.ofNat len)), .unset, .unset, .unset] [])) := entry rfl
  have c2 : Steps p.tables e below (s₁.setTop (entryFrame m #[.ref b, .int (Int32.ofNat o), .int (Int32.ofNat len)] 6)) (s₁.setTop (mkF m 1 #[.val (.ref b), .val (.int (Int32.ofNat o)), .val (.int (Int32.ofNat len)), .unset, .unset, .unset] [.int (Int32.ofNat len)])) := c1.trans (by
    refine XS.iloadN X0.here hexec rfl (hb hbytes d0) rfl ?_
    exact Steps.refl _)
  obtain ⟨T3, B3, X3, ba3, bs3, bv3, bh3, bf3, st3⟩ := X0.anew hexec (atype := .byte) (wk W (.arrayClass .byte)) rfl (by show len * 1 ≤ _; omega) (by omega) (g := (mkF m 1 #[.val (.ref b), .val (.int (Int32.ofNat o)), .val (.int (Int32.ofNat len)), .unset, .unset, .unset] [.int (Int32.ofNat len)])) rfl (hb hbytes d1) (rest := []) rfl (Nat.le_refl _) (by show 0 + len ≤ len; omega)
  rw [hh0] at ba3 st3
  have kp3 : XT.Kept s T3 := (XT.Kept.of_eq hh0).push bh3
  have hA3 := hA.keep X3.warmed.alike (kp3 _ _ hA.1.1)
  have hne : b ≠ s.heap.size := hA.1.ne
  have c4 : Steps p.tables e below (s₁.setTop (entryFrame m #[.ref b, .int (Int32.ofNat o), .int (Int32.ofNat len)] 6)) (T3.setTop (mkF m 3 #[.val (.ref b), .val (.int (Int32.ofNat o)), .val (.int (Int32.ofNat len)), .unset, .unset, .unset] [.ref s.heap.size])) := c2.trans (st3 _ (Steps.refl _))
  have c5 : Steps p.tables e below (s₁.setTop (entryFrame m #[.ref b, .int (Int32.ofNat o), .int (Int32.ofNat len)] 6)) (T3.setTop (mkF m 9 #[.val (.ref b), .val (.int (Int32.ofNat o)), .val (.int (Int32.ofNat len)), .val (.ref s.heap.size), .unset, .unset] [.int (Int32.ofNat len), .int 0, .ref s.heap.size, .int (Int32.ofNat o), .ref b])) := c4.trans (by
    refine XS.astoreN X3.here hexec rfl (hb hbytes d3) rfl rfl rfl ?_
    refine XS.aloadN X3.here hexec rfl (hb hbytes d4) rfl rfl ?_
    refine XS.iloadN X3.here hexec rfl (hb hbytes d5) rfl ?_
    refine XS.aloadN X3.here hexec rfl (hb hbytes d6) rfl rfl ?_
    refine iconstV X3.here hexec rfl 0 (hb hbytes d7) (by decide) ?_
    refine XS.iloadN X3.here hexec rfl (hb hbytes d8) rfl ?_
    exact Steps.refl _)
  obtain ⟨v6, T6, X6, E6, g6⟩ := X3.callS hexec (Cmp5.law l b A s.heap.size B3 o 0 len) hown (wks W (staticW U16 115 Cmp5.yN)) (wk W Cmp5.tab) (W := 0) (Nat.le_of_ble_eq_true rfl) (Nat.le_of_ble_eq_true rfl) (Nat.le_refl _) (by show 0 + len + 0 ≤ len; omega) (g := (mkF m 9 #[.val (.ref b), .val (.int (Int32.ofNat o)), .val (.int (Int32.ofNat len)), .val (.ref s.heap.size), .unset, .unset] [.int (Int32.ofNat len), .int (Int32.ofNat 0), .ref s.heap.size, .int (Int32.ofNat o), .ref b])) rfl (by rw [hml]; rfl) c5 (argsL := [.ref b, .int (Int32.ofNat o), .ref s.heap.size, .int (Int32.ofNat 0), .int (Int32.ofNat len)]) (rest := []) rfl rfl (by show 2 * 0 + 0 ≤ _; decide) (hb hbytes d9) (⟨rfl, hA3, ba3, hne, l1, by rw [bs3]; simp, hp⟩)
  obtain ⟨rfl, B6, p6, f6⟩ := E6
  have c7 : Steps p.tables e below (s₁.setTop (entryFrame m #[.ref b, .int (Int32.ofNat o), .int (Int32.ofNat len)] 6)) (T6.setTop (mkF m 12 #[.val (.ref b), .val (.int (Int32.ofNat o)), .val (.int (Int32.ofNat len)), .val (.ref s.heap.size), .unset, .unset] [.int (Int32.ofNat len)])) := g6
  have c8 : Steps p.tables e below (s₁.setTop (entryFrame m #[.ref b, .int (Int32.ofNat o), .int (Int32.ofNat len)] 6)) (T6.setTop (mkF m 58 #[.val (.ref b), .val (.int (Int32.ofNat o)), .val (.int (Int32.ofNat len)), .val (.ref s.heap.size), .val (.int (Int32.ofNat len)), .unset] [.ref s.heap.size])) := c7.trans (by
    refine XS.istore X6.here hexec rfl (hb hbytes d12) rfl rfl ?_
    refine XS.iload X6.here hexec rfl (hb hbytes d14) rfl ?_
    refine XS.iloadN X6.here hexec rfl (hb hbytes d16) rfl ?_
    refine XS.icmpYes X6.here hexec rfl (pc0 := 17) rfl (hb hbytes d17) rfl (ii_eq_t rfl) (by decide) rfl ?_
    refine XS.aloadN X6.here hexec rfl (hb hbytes d57) rfl rfl ?_
    exact Steps.refl _)
  have X8 := X6.wide (L' := []) (cells' := 1) (slots' := len) (fun x hx hlt => by
    simp only [List.nil_append, copyLocs, List.mem_map, List.mem_range] at hx
    obtain ⟨i, -, rfl⟩ := hx
    exact absurd hlt (Nat.lt_irrefl _)) (Nat.le_refl _) (by omega)
  exact ⟨T6, some (.ref s.heap.size), _, _, _, X8, rfl, rfl, rfl, (fun h => by cases h), ⟨⟨rfl, B6, ba3.like (X3.warmed.alike.symm.trans X6.warmed.alike) p6.1 f6.1 f6.2.1 f6.2.2.1, f6.2.1.trans bv3, by rw [X6.warmed.alike.findClass, f6.1]; exact bf3, by rw [f6.2.2.1, bs3]; simp, fun j hj => by rw [f6.2.2.2 j, if_pos (by omega)]; rfl, kp3.put p6 (Nat.le_refl _)⟩, by rw [p6.2.2, bh3, hh0]; simp⟩, fun fs hl => c8.trans (X8.areturnOut hexec rfl hret rfl (hb hbytes d58) hl)⟩
end Cmp3
namespace CodL
def yN : MethodName := ⟨"java/lang/StringUTF16", "coderFromArrayLen", "([BI)B"⟩
abbrev yB : ByteArray := jdk_52_method_15_code
theorem d0 : decode yB 0 = .ok (.iload_n 1, 1) := by decide +kernel
theorem d1 : decode yB 1 = .ok (.aload_n 0, 1) := by decide +kernel
theorem d2 : decode yB 2 = .ok (.arraylength, 1) := by decide +kernel
theorem d3 : decode yB 3 = .ok (.isub, 1) := by decide +kernel
theorem d4 : decode yB 4 = .ok (.bipush 31, 2) := by decide +kernel
theorem d6 : decode yB 6 = .ok (.iushr, 1) := by decide +kernel
theorem d7 : decode yB 7 = .ok (.i2b, 1) := by decide +kernel
theorem d8 : decode yB 8 = .ok (.ireturn, 1) := by decide +kernel
def site : List Cond := []
def tab : Cond := tabOf yN yB 2 (some .byte) site
def P (d : Addr) (B : Cell) (args : Array Value) (s : State) : Prop := args = #[.ref d, .int (Int32.ofNat B.slots.size)] ∧ Arr .byte d B s
def E (r : Option Value) (s u : State) : Prop := XT.PureE (some (.int 0)) r s u
/-- an array as long as the number of chars: LATIN1 -/
theorem law (l : Launch) (d : Addr) (B : Cell) : Law l yN 2 2 0 0 yB 2 (some .byte) site (P d B) E [] 0 0 := by
  refine Law.of_walk (plainFor_of_name (by decide +kernel)) (by decide +kernel) (by decide +kernel) (by decide) (fun _ _ h => by rw [h.1]; rfl) (fun _ U U' hal hh h => ⟨h.1, h.2.mv hal hh⟩) (fun r U U' V V' h1 hal h2 h => XT.PureE.mv r U U' V V' h1 hal h2 h) ?_
  intro p e s m args below meth c s₁ X0 hexec hbytes hml hret hlk hnm hown hh0 W hP
  obtain ⟨rfl, hB⟩ := hP
  have hB0 := hB.mv X0.warmed.alike hh0
  have c1 : Steps p.tables e below (s₁.setTop (entryFrame m #[.ref d, .int (Int32.ofNat B.slots.size)] 2)) (s₁.setTop (mkF m 0 #[.val (.ref d), .val (.int (Int32.ofNat B.slots.size))] [])) := entry rfl
  have c2 : Steps p.tables e below (s₁.setTop (entryFrame m #[.ref d, .int (Int32.ofNat B.slots.size)] 2)) (s₁.setTop (mkF m 2 #[.val (.ref d), .val (.int (Int32.ofNat B.slots.size))] [.ref d, .int (Int32.ofNat B.slots.size)])) := c1.trans (by
    refine XS.iloadN X0.here hexec rfl (hb hbytes d0) rfl ?_
    refine XS.aloadN X0.here hexec rfl (hb hbytes d1) rfl rfl ?_
    exact Steps.refl _)
  have c3 : Steps p.tables e below (s₁.setTop (entryFrame m #[.ref d, .int (Int32.ofNat B.slots.size)] 2)) (s₁.setTop (mkF m 8 #[.val (.ref d), .val (.int (Int32.ofNat B.slots.size))] [.int (lo8 (ushr (Int32.ofNat B.slots.size - Int32.ofNat B.slots.size) 31))])) := c2.trans (by
    refine X0.alen hexec hB0 rfl rfl (hb hbytes d2) ?_
    refine XS.isub X0.here hexec rfl (hb hbytes d3) rfl ?_
    refine bipushV X0.here hexec rfl 31 (hb hbytes d4) (by decide) ?_
    refine iushr X0.here hexec rfl (hb hbytes d6) rfl ?_
    refine i2b X0.here hexec rfl (hb hbytes d7) rfl ?_
    exact Steps.refl _)
  have e0 : lo8 (ushr (Int32.ofNat B.slots.size - Int32.ofNat B.slots.size) 31) = 0 := by rw [Int32.sub_self]; decide
  rw [e0] at c3
  exact ⟨s₁, some (.int 0), _, _, _, X0, rfl, rfl, rfl, (fun h => by cases h), ⟨rfl, hh0⟩, fun fs hl => c3.trans (X0.ireturnOut hexec hret rfl (Or.inr (Or.inr (Or.inl rfl))) (hb hbytes d8) hl)⟩
end CodL
/-- the String at a is Latin-1 over a new byte[] (the heap's one new cell): the low bytes of the len chars of A from o on; every cell but a is kept -/
def Got (a : Addr) (D : Cell) (fV fC : Field) (A : Cell) (o len : Nat) (r : Option Value) (s u : State) : Prop := r = none ∧ ∃ D' V : Cell, Blank "java/lang/String" a D' u ∧ Same D D' [fV.slot, fC.slot] ∧ D'.slots[fV.slot]? = some (.ref s.heap.size) ∧ D'.slots[fC.slot]? = some (.int 0) ∧ Arr .byte s.heap.size V u ∧ V.vm = .none ∧ u.vm.findClass "[B" = some V.cls ∧ V.slots.size = len ∧ (∀ j, j < len → V.slots[j]? = some (.int (lo8 (cv A (o + j))))) ∧ (∀ (y : Addr) (c : Cell), y ≠ a → s.heap[y]? = some c → u.heap[y]? = some c) ∧ u.heap.size = s.heap.size + 1
theorem Got.mv {a : Addr} {D A : Cell} {fV fC : Field} {o len : Nat} : ∀ r (U U' V V' : State), U'.heap = U.heap → V.vm.Alike V'.vm → V'.heap = V.heap → Got a D fV fC A o len r U V → Got a D fV fC A o len r U' V' :=
  fun r U U' V V' h1 hal h2 ⟨e0, D', X, a1, a2, a3, a4, a5, a6, a7, a8, a9, a10, a11⟩ => ⟨e0, D', X, a1.mv hal h2, a2, by rw [h1]; exact a3, a4, by rw [h1]; exact a5.mv hal h2, a6, by rw [hal.findClass]; exact a7, a8, a9, by rw [h1, h2]; exact a10, by rw [h1, h2]; exact a11⟩
namespace New4
def yN : MethodName := ⟨"java/lang/String", "<init>", "([CIILjava/lang/Void;)V"⟩
abbrev yB : ByteArray := jdk_42_method_149_code
theorem d0 : decode yB 0 = .ok (.aload_n 0, 1) := by decide +kernel
theorem d1 : decode yB 1 = .ok (.invokespecial 1, 3) := by decide +kernel
theorem d4 : decode yB 4 = .ok (.iload_n 3, 1) := by decide +kernel
theorem d5 : decode yB 5 = .ok (.ifCond (.ne) 22, 3) := by decide +kernel
theorem d27 : decode yB 27 = .ok (.getstatic 38, 3) := by decide +kernel
theorem d30 : decode yB 30 = .ok (.ifCond (.eq) 28, 3) := by decide +kernel
theorem d33 : decode yB 33 = .ok (.aload_n 1, 1) := by decide +kernel
theorem d34 : decode yB 34 = .ok (.iload_n 2, 1) := by decide +kernel
theorem d35 : decode yB 35 = .ok (.iload_n 3, 1) := by decide +kernel
theorem d36 : decode yB 36 = .ok (.invokestatic 177, 3) := by decide +kernel
theorem d39 : decode yB 39 = .ok (.astore 5, 2) := by decide +kernel
theorem d41 : decode yB 41 = .ok (.aload_n 0, 1) := by decide +kernel
theorem d42 : decode yB 42 = .ok (.aload 5, 2) := by decide +kernel
theorem d44 : decode yB 44 = .ok (.iload_n 3, 1) := by decide +kernel
theorem d45 : decode yB 45 = .ok (.invokestatic 47, 3) := by decide +kernel
theorem d48 : decode yB 48 = .ok (.putfield 15, 3) := by decide +kernel
theorem d51 : decode yB 51 = .ok (.aload_n 0, 1) := by decide +kernel
theorem d52 : decode yB 52 = .ok (.aload 5, 2) := by decide +kernel
theorem d54 : decode yB 54 = .ok (.putfield 9, 3) := by decide +kernel
theorem d57 : decode yB 57 = .ok (.return_, 1) := by decide +kernel
def site : List Cond := [.fieldLink "java/lang/String" 38 "java/lang/String" "COMPACT_STRINGS" "Z", Cmp3.tab, CodL.tab, .laysFinal "java/lang/String" "java/lang/String" "value" "[B", .fieldLink "java/lang/String" 9 "java/lang/String" "value" "[B", .laysFinal "java/lang/String" "java/lang/String" "coder" "B", .fieldLink "java/lang/String" 15 "java/lang/String" "coder" "B"] ++ objW "java/lang/String" 1 ++ staticW "java/lang/String" 177 Cmp3.yN ++ staticW "java/lang/String" 47 CodL.yN
def tab : Cond := tabOf yN yB 6 none site
def P (a : Addr) (D : Cell) (fV fC : Field) (b : Addr) (A : Cell) (z : Int32) (o len : Nat) (args : Array Value) (s : State) : Prop := args = #[.ref a, .ref b, .int (Int32.ofNat o), .int (Int32.ofNat len), .null] ∧ Blank "java/lang/String" a D s ∧ Found "java/lang/String" "value" "[B" fV s ∧ Found "java/lang/String" "coder" "B" fC s ∧ Ch b A s ∧ StaticIs s "java/lang/String" "COMPACT_STRINGS" "Z" (.int z) ∧ ¬ z = 0 ∧ 0 < len ∧ o + len ≤ A.slots.size ∧ len ≤ 536870912 ∧ ∀ i, i < len → ¬ 255 < cv A (o + i)
def E (a : Addr) (D : Cell) (fV fC : Field) (A : Cell) (o len : Nat) (r : Option Value) (s u : State) : Prop := Got a D fV fC A o len r s u
/-- len > 0, no char of the range above 255: a Latin-1 String of their low bytes -/
theorem law (l : Launch) (a : Addr) (D : Cell) (fV fC : Field) (b : Addr) (A : Cell) (z : Int32) (o len : Nat) : Law l yN 5 4 2 35 yB 6 none site (P a D fV fC b A z o len) (E a D fV fC A o len) [⟨a, fC.slot⟩, ⟨a, fV.slot⟩] 1 len := by
  refine Law.of_walk (plainFor_of_name (by decide +kernel)) (by decide +kernel) (by decide +kernel) (by decide) (fun _ _ h => by rw [h.1]; rfl) (fun _ U U' hal hh h => ⟨h.1, h.2.1.mv hal hh, h.2.2.1.al hal, h.2.2.2.1.al hal, h.2.2.2.2.1.mv hal hh, h.2.2.2.2.2.1.there hal hh, h.2.2.2.2.2.2⟩) (fun r U U' V V' h1 hal h2 h => Got.mv r U U' V V' h1 hal h2 h) ?_
  intro p e s m args below meth c s₁ X0 hexec hbytes hml hret hlk hnm hown hh0 W hP
  obtain ⟨rfl, hB, f1, f2, hA, s1, hz, l0, l1, l2, hp⟩ := hP
  have a31 := hA.1.2.2.2
  have c1 : Steps p.tables e below (s₁.setTop (entryFrame m #[.ref a, .ref b, .int (Int32.ofNat o), .int (Int32.ofNat len), .null] 6)) (s₁.setTop (mkF m 0 #[.val (.ref a), .val (.ref b), .val (.int (Int32.ofNat o)), .val (.int (Int32.ofNat len)), .val .null, .unset] [])) := entry rfl
  have c2 : Steps p.tables e below (s₁.setTop (entryFrame m #[.ref a, .ref b, .int (Int32.ofNat o), .int (Int32.ofNat len), .null] 6)) (s₁.setTop (mkF m 1 #[.val (.ref a), .val (.ref b), .val (.int (Int32.ofNat o)), .val (.int (Int32.ofNat len)), .val .null, .unset] [.ref a])) := c1.trans (by
    refine XS.aloadN X0.here hexec rfl (hb hbytes d0) rfl rfl ?_
    exact Steps.refl _)
  obtain ⟨T3, X3, q3, st3⟩ := X0.oinit hexec hown (wks W (objW "java/lang/String" 1)) (g := (mkF m 1 #[.val (.ref a), .val (.ref b), .val (.int (Int32.ofNat o)), .val (.int (Int32.ofNat len)), .val .null, .unset] [.ref a])) rfl (by rw [hml]; rfl) (rest := []) rfl (hb hbytes d1) (W := 0) (by show 2 * 0 + 0 ≤ _; decide) (Nat.le_of_ble_eq_true rfl) (Nat.le_of_ble_eq_true rfl)
  have hh3 := q3.trans hh0
  have c4 : Steps p.tables e below (s₁.setTop (entryFrame m #[.ref a, .ref b, .int (Int32.ofNat o), .int (Int32.ofNat len), .null] 6)) (T3.setTop (mkF m 27 #[.val (.ref a), .val (.ref b), .val (.int (Int32.ofNat o)), .val (.int (Int32.ofNat len)), .val .null, .unset] [])) := (c2.trans (st3 _ (Steps.refl _))).trans (by
    refine XS.iloadN X3.here hexec rfl (hb hbytes d4) rfl ?_
    refine XS.ifYes X3.here hexec rfl (pc0 := 5) rfl (hb hbytes d5) rfl (i0_ne_t (nz32 (by omega) l0)) (by decide) rfl ?_
    exact Steps.refl _)
  obtain ⟨T5, X5, q5, st5⟩ := X3.sget hexec hown (wk W (.fieldLink "java/lang/String" 38 "java/lang/String" "COMPACT_STRINGS" "Z")) s1 (fun _ _ h => by rw [hh3]; exact h) (g := (mkF m 27 #[.val (.ref a), .val (.ref b), .val (.int (Int32.ofNat o)), .val (.int (Int32.ofNat len)), .val .null, .unset] [])) rfl (hb hbytes d27)
  have hh5 := q5.trans hh3
  have c6 : Steps p.tables e below (s₁.setTop (entryFrame m #[.ref a, .ref b, .int (Int32.ofNat o), .int (Int32.ofNat len), .null] 6)) (T5.setTop (mkF m 30 #[.val (.ref a), .val (.ref b), .val (.int (Int32.ofNat o)), .val (.int (Int32.ofNat len)), .val .null, .unset] [.int z])) := c4.trans (st5 _ (Steps.refl _))
  have c7 : Steps p.tables e below (s₁.setTop (entryFrame m #[.ref a, .ref b, .int (Int32.ofNat o), .int (Int32.ofNat len), .null] 6)) (T5.setTop (mkF m 36 #[.val (.ref a), .val (.ref b), .val (.int (Int32.ofNat o)), .val (.int (Int32.ofNat len)), .val .null, .unset] [.int (Int32.ofNat len), .int (Int32.ofNat o), .ref b])) := c6.trans (by
    refine XS.ifNo X5.here hexec rfl (hb hbytes d30) rfl (i0_eq_f hz) ?_
    refine XS.aloadN X5.here hexec rfl (hb hbytes d33) rfl rfl ?_
    refine XS.iloadN X5.here hexec rfl (hb hbytes d34) rfl ?_
    refine XS.iloadN X5.here hexec rfl (hb hbytes d35) rfl ?_
    exact Steps.refl _)
  obtain ⟨v8, T8, X8, E8, g8⟩ := X5.callS hexec (Cmp3.law l b A o len) hown (wks W (staticW "java/lang/String" 177 Cmp3.yN)) (wk W Cmp3.tab) (W := 0) (Nat.le_of_ble_eq_true rfl) (Nat.le_of_ble_eq_true rfl) (Nat.le_refl _) (by show 0 + len ≤ len; omega) (g := (mkF m 36 #[.val (.ref a), .val (.ref b), .val (.int (Int32.ofNat o)), .val (.int (Int32.ofNat len)), .val .null, .unset] [.int (Int32.ofNat len), .int (Int32.ofNat o), .ref b])) rfl (by rw [hml]; rfl) c7 (argsL := [.ref b, .int (Int32.ofNat o), .int (Int32.ofNat len)]) (rest := []) rfl rfl (by show 2 * 0 + 0 ≤ _; decide) (hb hbytes d36) (⟨rfl, hA.mv X5.warmed.alike hh5, l1, l2, hp⟩)
  obtain ⟨e8, z8⟩ := E8
  obtain ⟨rfl, N, n1, n2, n3, n4, n5, n6⟩ := NewArr.mv _ T5 s _ _ hh5.symm (Vm.Alike.refl _) rfl e8
  rw [hh5] at z8
  have hB1 := hB.keep X8.warmed.alike (n6 _ _ hB.1)
  have hne : s.heap.size ≠ a := (Nat.ne_of_lt (Array.getElem?_eq_some_iff.mp hB.1).1).symm
  have c9 : Steps p.tables e below (s₁.setTop (entryFrame m #[.ref a, .ref b, .int (Int32.ofNat o), .int (Int32.ofNat len), .null] 6)) (T8.setTop (mkF m 39 #[.val (.ref a), .val (.ref b), .val (.int (Int32.ofNat o)), .val (.int (Int32.ofNat len)), .val .null, .unset] [.ref s.heap.size])) := g8
  have c10 : Steps p.tables e below (s₁.setTop (entryFrame m #[.ref a, .ref b, .int (Int32.ofNat o), .int (Int32.ofNat len), .null] 6)) (T8.setTop (mkF m 45 #[.val (.ref a), .val (.ref b), .val (.int (Int32.ofNat o)), .val (.int (Int32.ofNat len)), .val .null, .val (.ref s.heap.size)] [.int (Int32.ofNat N.slots.size), .ref s.heap.size, .ref a])) := by
    have hc : Steps p.tables e below (s₁.setTop (entryFrame m #[.ref a, .ref b, .int (Int32.ofNat o), .int (Int32.ofNat len), .null] 6)) (T8.setTop (mkF m 45 #[.val (.ref a), .val (.ref b), .val (.int (Int32.ofNat o)), .val (.int (Int32.ofNat len)), .val .null, .val (.ref s.heap.size)] [.int (Int32.ofNat len), .ref s.heap.size, .ref a])) := c9.trans (by
      refine XS.astore X8.here hexec rfl (hb hbytes d39) rfl rfl rfl ?_
      refine XS.aloadN X8.here hexec rfl (hb hbytes d41) rfl rfl ?_
      refine XS.aload X8.here hexec rfl (hb hbytes d42) rfl rfl ?_
      refine XS.iloadN X8.here hexec rfl (hb hbytes d44) rfl ?_
      exact Steps.refl _)
    rw [n4]; exact hc
  obtain ⟨v11, T11, X11, E11, g11⟩ := X8.callS hexec (CodL.law l s.heap.size N) hown (wks W (staticW "java/lang/String" 47 CodL.yN)) (wk W CodL.tab) (W := 1) (Nat.le_of_ble_eq_true rfl) (Nat.le_of_ble_eq_true rfl) (Nat.le_refl _) (by show 0 + len + 0 ≤ len; omega) (g := (mkF m 45 #[.val (.ref a), .val (.ref b), .val (.int (Int32.ofNat o)), .val (.int (Int32.ofNat len)), .val .null, .val (.ref s.heap.size)] [.int (Int32.ofNat N.slots.size), .ref s.heap.size, .ref a])) rfl (by rw [hml]; rfl) c10 (argsL := [.ref s.heap.size, .int (Int32.ofNat N.slots.size)]) (rest := [.ref a]) rfl rfl (by show 2 * 0 + (1 + 0) ≤ _; decide) (hb hbytes d45) (⟨rfl, n1⟩)
  obtain ⟨rfl, q11⟩ := E11
  have hB11 := hB1.mv (X8.warmed.alike.symm.trans X11.warmed.alike) q11
  have c12 : Steps p.tables e below (s₁.setTop (entryFrame m #[.ref a, .ref b, .int (Int32.ofNat o), .int (Int32.ofNat len), .null] 6)) (T11.setTop (mkF m 48 #[.val (.ref a), .val (.ref b), .val (.int (Int32.ofNat o)), .val (.int (Int32.ofNat len)), .val .null, .val (.ref s.heap.size)] [.int 0, .ref a])) := g11
  obtain ⟨T13, X13, p13, bl13, sl13, st13⟩ := X11.finit hexec hown (wk W (.fieldLink "java/lang/String" 15 "java/lang/String" "coder" "B")) (Or.inr ⟨_, (wk W (.laysFinal "java/lang/String" "java/lang/String" "coder" "B"))⟩) (Or.inl ⟨rfl, hnm⟩) f2 (Or.inl rfl) hB11 (t := .byte) (by decide +kernel) rfl (g := (mkF m 48 #[.val (.ref a), .val (.ref b), .val (.int (Int32.ofNat o)), .val (.int (Int32.ofNat len)), .val .null, .val (.ref s.heap.size)] [.int 0, .ref a])) rfl (rest := []) rfl (hb hbytes d48)
  have c14 : Steps p.tables e below (s₁.setTop (entryFrame m #[.ref a, .ref b, .int (Int32.ofNat o), .int (Int32.ofNat len), .null] 6)) (T13.setTop (mkF m 54 #[.val (.ref a), .val (.ref b), .val (.int (Int32.ofNat o)), .val (.int (Int32.ofNat len)), .val .null, .val (.ref s.heap.size)] [.ref s.heap.size, .ref a])) := (c12.trans (st13 _ (Steps.refl _))).trans (by
    refine XS.aloadN X13.here hexec rfl (hb hbytes d51) rfl rfl ?_
    refine XS.aload X13.here hexec rfl (hb hbytes d52) rfl rfl ?_
    exact Steps.refl _)
  obtain ⟨T15, X15, p15, bl15, sl15, st15⟩ := X13.finit hexec hown (wk W (.fieldLink "java/lang/String" 9 "java/lang/String" "value" "[B")) (Or.inr ⟨_, (wk W (.laysFinal "java/lang/String" "java/lang/String" "value" "[B"))⟩) (Or.inl ⟨rfl, hnm⟩) f1 (Or.inl rfl) bl13 (t := (.array .byte)) (by decide +kernel) rfl (g := (mkF m 54 #[.val (.ref a), .val (.ref b), .val (.int (Int32.ofNat o)), .val (.int (Int32.ofNat len)), .val .null, .val (.ref s.heap.size)] [.ref s.heap.size, .ref a])) rfl (rest := []) rfl (hb hbytes d54)
  have c16 : Steps p.tables e below (s₁.setTop (entryFrame m #[.ref a, .ref b, .int (Int32.ofNat o), .int (Int32.ofNat len), .null] 6)) (T15.setTop (mkF m 57 #[.val (.ref a), .val (.ref b), .val (.int (Int32.ofNat o)), .val (.int (Int32.ofNat len)), .val .null, .val (.ref s.heap.size)] [])) := c14.trans (st15 _ (Steps.refl _))
  have ap := apart (Or.inr ⟨_, (wk W (.laysFinal "java/lang/String" "java/lang/String" "value" "[B"))⟩) (Or.inr ⟨_, (wk W (.laysFinal "java/lang/String" "java/lang/String" "coder" "B"))⟩) f1 f2 (t₁ := .array .byte) (t₂ := .byte) (by decide +kernel) (by decide +kernel) (by decide)
  have al := X8.warmed.alike.symm.trans X15.warmed.alike
  have n7 : T11.heap[s.heap.size]? = some N := by rw [q11]; exact n1.1
  exact ⟨T15, none, _, _, _, X15, by simp, rfl, by omega, (fun _ => rfl), ⟨rfl, _, N, bl15, ((Same.refl D _).set _ (by simp)).set _ (by simp), sl15, (Cell.slots_setSlot_ne _ ap).trans sl13, n1.keep al (p15.other hne (p13.other hne n7)), n2, by rw [al.findClass]; exact n3, n4, n5, fun y c h1 h2 => p15.other h1 (p13.other h1 (by rw [q11]; exact n6 y c h2)), by rw [p15.2.2, p13.2.2, q11]; exact z8⟩, fun fs hl => c16.trans (X15.returnOut hexec hret (hb hbytes d57) hl)⟩
end New4
namespace New1
def yN : MethodName := ⟨"java/lang/String", "<init>", "([C)V"⟩
abbrev yB : ByteArray := jdk_42_method_3_code
theorem d0 : decode yB 0 = .ok (.aload_n 0, 1) := by decide +kernel
theorem d1 : decode yB 1 = .ok (.aload_n 1, 1) := by decide +kernel
theorem d2 : decode yB 2 = .ok (.iconst 0, 1) := by decide +kernel
theorem d3 : decode yB 3 = .ok (.aload_n 1, 1) := by decide +kernel
theorem d4 : decode yB 4 = .ok (.arraylength, 1) := by decide +kernel
theorem d5 : decode yB 5 = .ok (.aconst_null, 1) := by decide +kernel
theorem d6 : decode yB 6 = .ok (.invokespecial 27, 3) := by decide +kernel
theorem d9 : decode yB 9 = .ok (.return_, 1) := by decide +kernel
def site : List Cond := [New4.tab] ++ initW "java/lang/String" 27 New4.yN
def tab : Cond := tabOf yN yB 2 none site
def P (a : Addr) (D : Cell) (fV fC : Field) (b : Addr) (A : Cell) (z : Int32) (args : Array Value) (s : State) : Prop := args = #[.ref a, .ref b] ∧ Blank "java/lang/String" a D s ∧ Found "java/lang/String" "value" "[B" fV s ∧ Found "java/lang/String" "coder" "B" fC s ∧ Ch b A s ∧ StaticIs s "java/lang/String" "COMPACT_STRINGS" "Z" (.int z) ∧ ¬ z = 0 ∧ 0 < A.slots.size ∧ A.slots.size ≤ 536870912 ∧ ∀ i, i < A.slots.size → ¬ 255 < cv A i
def E (a : Addr) (D : Cell) (fV fC : Field) (A : Cell) (r : Option Value) (s u : State) : Prop := Got a D fV fC A 0 A.slots.size r s u
/-- new String(chars), not empty, no char above 255: a Latin-1 String of their low bytes -/
theorem law (l : Launch) (a : Addr) (D : Cell) (fV fC : Field) (b : Addr) (A : Cell) (z : Int32) : Law l yN 2 1 3 52 yB 2 none site (P a D fV fC b A z) (E a D fV fC A) [⟨a, fC.slot⟩, ⟨a, fV.slot⟩] 1 A.slots.size := by
  refine Law.of_walk (plainFor_of_name (by decide +kernel)) (by decide +kernel) (by decide +kernel) (by decide) (fun _ _ h => by rw [h.1]; rfl) (fun _ U U' hal hh h => ⟨h.1, h.2.1.mv hal hh, h.2.2.1.al hal, h.2.2.2.1.al hal, h.2.2.2.2.1.mv hal hh, h.2.2.2.2.2.1.there hal hh, h.2.2.2.2.2.2⟩) (fun r U U' V V' h1 hal h2 h => Got.mv r U U' V V' h1 hal h2 h) ?_
  intro p e s m args below meth c s₁ X0 hexec hbytes hml hret hlk hnm hown hh0 W hP
  obtain ⟨rfl, hB, f1, f2, hA, s1, hz, l0, l2, hp⟩ := hP
  have c1 : Steps p.tables e below (s₁.setTop (entryFrame m #[.ref a, .ref b] 2)) (s₁.setTop (mkF m 0 #[.val (.ref a), .val (.ref b)] [])) := entry rfl
  have c2 : Steps p.tables e below (s₁.setTop (entryFrame m #[.ref a, .ref b] 2)) (s₁.setTop (mkF m 6 #[.val (.ref a), .val (.ref b)] [.null, .int (Int32.ofNat A.slots.size), .int 0, .ref b, .ref a])) := c1.trans (by
    refine XS.aloadN X0.here hexec rfl (hb hbytes d0) rfl rfl ?_
    refine XS.aloadN X0.here hexec rfl (hb hbytes d1) rfl rfl ?_
    refine iconstV X0.here hexec rfl 0 (hb hbytes d2) (by decide) ?_
    refine XS.aloadN X0.here hexec rfl (hb hbytes d3) rfl rfl ?_
    refine X0.alen hexec (hA.1.mv X0.warmed.alike hh0) rfl rfl (hb hbytes d4) ?_
    refine XS.aconstNull X0.here hexec rfl (hb hbytes d5) ?_
    exact Steps.refl _)
  obtain ⟨v3, T3, X3, E3, g3⟩ := X0.callN hexec (New4.law l a D fV fC b A z 0 A.slots.size) rfl hown (wks W (initW "java/lang/String" 27 New4.yN)) (W New4.tab (by simp only [site, List.mem_cons, List.mem_append, true_or, or_true])) (W := 0) (Nat.le_of_ble_eq_true rfl) (Nat.le_of_ble_eq_true rfl) (Nat.le_refl _) (by show 0 + A.slots.size ≤ A.slots.size; omega) (g := (mkF m 6 #[.val (.ref a), .val (.ref b)] [.null, .int (Int32.ofNat A.slots.size), .int (Int32.ofNat 0), .ref b, .ref a])) rfl (by rw [hml]; rfl) c2 (argsL := [.ref b, .int (Int32.ofNat 0), .int (Int32.ofNat A.slots.size), .null]) (rest := []) rfl rfl (by show 2 * 0 + 0 ≤ _; decide) (hb hbytes d6) (⟨rfl, hB.mv X0.warmed.alike hh0, f1.al X0.warmed.alike, f2.al X0.warmed.alike, hA.mv X0.warmed.alike hh0, s1.there X0.warmed.alike hh0, hz, l0, by omega, l2, fun i hi => by rw [Nat.zero_add]; exact hp i hi⟩)
  have e0 := Got.mv _ s₁ s _ _ hh0.symm (Vm.Alike.refl _) rfl E3
  obtain rfl := e0.1
  have c4 : Steps p.tables e below (s₁.setTop (entryFrame m #[.ref a, .ref b] 2)) (T3.setTop (mkF m 9 #[.val (.ref a), .val (.ref b)] [])) := g3
  exact ⟨T3, none, _, _, _, X3, by simp, rfl, by omega, (fun _ => rfl), e0, fun fs hl => c4.trans (X3.returnOut hexec hret (hb hbytes d9) hl)⟩
theorem pays {l : Launch} {R : Room} {p : Program} {e : Env} {below : List Frame} {s : State} {sargs : Array Value} {len W : Nat} (a : Addr) (D : Cell) (fV fC : Field) (b : Addr) (A : Cell) (z : Int32) (htab : tab.before sargs s = true) (hfr : 4 ≤ R.frames) (hlo : W + 65 ≤ R.locals) :
    Back l R p e below s sargs yN len W (fun A₁ a₁ => A₁.cells + 1 ≤ R.cells ∧ A₁.slots + A.slots.size ≤ R.slots ∧ P a D fV fC b A z a₁ A₁.U) (fun A₁ _ v₁ B₁ => E a D fV fC A v₁ A₁.U B₁.U ∧ B₁.locs = A₁.locs ++ [⟨a, fC.slot⟩, ⟨a, fV.slot⟩] ∧ B₁.cells = A₁.cells + 1 ∧ B₁.slots = A₁.slots + A.slots.size) :=
  (law l a D fV fC b A z).pays htab hfr (by omega)
end New1
end StrChars
namespace StrChars.Road
open Jvm Sem ClassFile Op Lib Jvm.Stand Jvm.Free Jvm.Free.XT
open Jvm.Lib.Cold (StaticIs)
abbrev ST : String := "java/lang/String"
/-- every table word that New1's law asks, flat -/
abbrev words : List Jvm.Cond := [.code New1.yN New1.yB 2 none, .initialized ST, .methodLink ST 27 New4.yN, .instanceMethod New4.yN,
  .code New4.yN New4.yB 6 none, .fieldLink ST 38 ST "COMPACT_STRINGS" "Z", .laysFinal ST ST "value" "[B", .fieldLink ST 9 ST "value" "[B", .laysFinal ST ST "coder" "B", .fieldLink ST 15 ST "coder" "B",
  .methodLink ST 1 Lib.objectInit, .instanceMethod Lib.objectInit, .code Lib.objectInit ⟨#[0xb1]⟩ 1 none, .methodLink ST 177 Cmp3.yN, .static Cmp3.yN, .methodLink ST 47 CodL.yN, .static CodL.yN,
  .code Cmp3.yN Cmp3.yB 6 (some (.array .byte)), .initialized U16, .arrayClass .byte, .methodLink U16 115 Cmp5.yN, .static Cmp5.yN, .code Cmp5.yN Cmp5.yB 7 (some .int), .code CodL.yN CodL.yB 2 (some .byte)]
theorem tab_of {a : Array Value} {s : State} (h : ∀ w ∈ words, w.before a s = true) : New1.tab.before a s = true := by
  have h5 : Cmp5.tab.before a s = true := unparts (wk h (.code Cmp5.yN Cmp5.yB 7 (some .int))) (wks h (.initialized Cmp5.yN.cls :: Cmp5.site))
  have hc : CodL.tab.before a s = true := unparts (wk h (.code CodL.yN CodL.yB 2 (some .byte))) (wks h (.initialized CodL.yN.cls :: CodL.site))
  have q5 : ∀ w ∈ Cmp5.tab :: words, w.before a s = true := fun w hw => (List.mem_cons.mp hw).elim (fun e => e ▸ h5) (h w)
  have h3 : Cmp3.tab.before a s = true := unparts (wk q5 (.code Cmp3.yN Cmp3.yB 6 (some (.array .byte)))) (wks q5 (.initialized Cmp3.yN.cls :: Cmp3.site))
  have q3 : ∀ w ∈ Cmp3.tab :: CodL.tab :: words, w.before a s = true := fun w hw => (List.mem_cons.mp hw).elim (fun e => e ▸ h3) fun hw => (List.mem_cons.mp hw).elim (fun e => e ▸ hc) (h w)
  have h4 : New4.tab.before a s = true := unparts (wk q3 (.code New4.yN New4.yB 6 none)) (wks q3 (.initialized New4.yN.cls :: New4.site))
  have q4 : ∀ w ∈ New4.tab :: words, w.before a s = true := fun w hw => (List.mem_cons.mp hw).elim (fun e => e ▸ h4) (h w)
  exact unparts (wk q4 (.code New1.yN New1.yB 2 none)) (wks q4 (.initialized New1.yN.cls :: New1.site))
/-- the words ride from the start Z to the walk's own state -/
theorem moved {Z s : State} {a0 args : Array Value} (hZ : Z.Warmed39 s.vm) (hw : ∀ d ∈ words, d.before a0 Z = true) : ∀ d ∈ words, d.before args s = true := fun d hd => by
  have q := hw d hd
  have t : ∀ d ∈ words, d = .arrayClass .byte ∨ (d.onTables && d.keepsFace) = true := by decide +kernel
  rcases t d hd with rfl | t
  · exact RoadKit.mvA hZ q
  · exact RoadKit.mv hZ q t
/-- WHAT COMES BACK, over the tables of the start Z: h the heap at the call, h' behind it -/
def Q (Z : State) (x : Addr) (A : Cell) (h : Heap) (v : Option Value) (h' : Heap) (L : List Loc) : Prop := v = none ∧ (∀ y ∈ L, y.base = x) ∧ RoadKit.Keep h h' [x] ∧ h'.size = h.size + 1 ∧ RoadKit.Exa Z h' x ST ∧ RoadKit.Fld Z h' x ST "value" "[B" (.ref h.size) ∧ RoadKit.Fld Z h' x ST "coder" "B" (.int 0) ∧
  (∃ V : Cell, RoadKit.Arr Z h' h.size V .byte ∧ V.vm = .none ∧ Z.vm.findClass "[B" = some V.cls ∧ V.slots.size = A.slots.size ∧ ∀ j, j < A.slots.size → V.slots[j]? = some (.int (lo8 (cv A j)))) ∧
  ∀ (O n d : String) (w : Value), RoadKit.Fld Z h x O n d w → RoadKit.slotOf Z O n d ≠ RoadKit.slotOf Z ST "value" "[B" → RoadKit.slotOf Z O n d ≠ RoadKit.slotOf Z ST "coder" "B" → RoadKit.Fld Z h' x O n d w
/-- **new String(chars) AT A CALL, IN THE ROAD'S FORM**: for specialBack behind newO: x the fresh String, b the char[] with the cell A -/
theorem back {p : Program} {l : Launch} {e : Env} {R : Room} {s : State} {args : Array Value} {below : List Frame} {len W : Nat} {Z : State} {a0 : Array Value} {h : Heap} (hZ : Z.Warmed39 s.vm) (hw : ∀ d ∈ words, d.before a0 Z = true) {kI : Nat} (wi : (Jvm.Cond.instantiable ST kI).before a0 Z = true)
    {x b : Addr} {A : Cell} {z : Int32} {v0 c0 : Value} (E : RoadKit.Exa Z h x ST) (V : RoadKit.Fld Z h x ST "value" "[B" v0) (C : RoadKit.Fld Z h x ST "coder" "B" c0) (K : RoadKit.Arr Z h b A .char) (hty : Typed .char A) (S : RoadKit.Sta Z h ST "COMPACT_STRINGS" "Z" (.int z)) (hz : ¬ z = 0)
    (l0 : 0 < A.slots.size) (l2 : A.slots.size ≤ 536870912) (hp : ∀ i, i < A.slots.size → ¬ 255 < cv A i) (hfr : 4 ≤ R.frames) (hlo : W + 65 ≤ R.locals) :
    Back l R p e below s args New1.yN len W (fun P a => a = #[.ref x, .ref b] ∧ P.U.heap = h ∧ P.cells + 1 ≤ R.cells ∧ P.slots + A.slots.size ≤ R.slots)
      (fun P _ v B => ∃ L, Q Z x A h v B.U.heap L ∧ B.locs = P.locs ++ L ∧ B.cells = P.cells + 1 ∧ B.slots = P.slots + A.slots.size) := by
  intro m meth c P g ig mk a X hg hsize hdg hW hn hp'
  obtain ⟨rfl, rfl, r1, r2⟩ := hp'
  have al : Z.vm.Alike P.U.vm := hZ.alike.trans X.warmed.alike
  obtain ⟨D, cfV, kV, iV, fV, hD, gV, stV, knV, obV, asV, slV⟩ := id V
  obtain ⟨D', cfC, kC, iC, fC, hD', gC, stC, -, -, asC, slC⟩ := id C
  cases hD.symm.trans hD'
  obtain ⟨D2, kD, e1, e2, e3, e4, e5⟩ := id E
  cases hD.symm.trans e1
  obtain ⟨c2, k2, i1, i2, i3, -⟩ := Cond.instantiable_spec wi
  cases e2.symm.trans i1
  cases e3.symm.trans i2
  obtain ⟨kU, u1, u2⟩ := al.2.2 _ _ e3
  have hB : Blank ST x D P.U := ⟨hD, ⟨knV, fun q hq => by rw [hq] at obV; cases obV⟩, by rw [al.findClass]; exact e2, kU, u1, by rw [u2]; exact i3, by rw [u2]; exact e5 i3⟩
  have F1 : Found ST "value" "[B" fV P.U := ⟨SBG.found_only al ⟨cfV, kV, iV, gV⟩, stV⟩
  have F2 : Found ST "coder" "B" fC P.U := ⟨SBG.found_only al ⟨cfC, kC, iC, gC⟩, stC⟩
  have hA : Ch b A P.U := ⟨⟨K.1, State.isArrayOf_alike al K.2.1, K.2.2, by omega⟩, hty⟩
  have hS : StaticIs P.U ST "COMPACT_STRINGS" "Z" (.int z) := by
    obtain ⟨cfS, iS, kS, fS, st, cS, t1, t2, t3, t4, t5, t6, t7⟩ := S
    exact StaticIs.there (s := { Z with heap := P.U.heap }) ⟨cfS, iS, kS, fS, st, cS, t1, t2, t3, t4, t5, (fun q => by rw [q] at t6; cases t6), t7⟩ al rfl
  obtain ⟨v, B, X', ⟨⟨hv, E', V', q1, q2, q3, q4, q5, q6, q7, q8, q9, q10, q11⟩, hl, hc, hs⟩, st⟩ := New1.pays x D fV fC b A z (tab_of (moved hZ hw)) hfr hlo m meth c P g ig mk _ X hg hsize hdg hW hn ⟨r1, r2, rfl, hB, F1, F2, hA, hS, hz, l0, l2, hp⟩
  have al' : Z.vm.Alike B.U.vm := hZ.alike.trans X'.warmed.alike
  have hsz : E'.slots.size = D.slots.size := by
    obtain ⟨-, -, -, kB, w1, w2, w3⟩ := q1
    obtain ⟨kB', y1, y2⟩ := al'.2.2 _ _ e3
    rw [q2.2.1] at w1
    cases w1.symm.trans y1
    rw [w3, e5 i3, y2]
  refine ⟨v, B, X', ⟨_, ⟨hv, ?_, ⟨by omega, fun y cy hy hn' => q10 y cy (by simpa using hn') hy, fun y cy hy => ?_⟩, q11, ⟨E', _, q1.1, by rw [q2.2.1]; exact e2, by rw [q2.2.1]; exact e3, by rw [q2.1]; exact obV, fun _ => by rw [hsz]; exact e5 i3⟩,
    ⟨E', cfV, kV, iV, fV, q1.1, gV, stV, by rw [q2.1]; exact knV, by rw [q2.1]; exact obV, by rw [q2.2.1]; exact asV, q3⟩, ⟨E', cfC, kC, iC, fC, q1.1, gC, stC, by rw [q2.1]; exact knV, by rw [q2.1]; exact obV, by rw [q2.2.1]; exact asC, q4⟩,
    ⟨V', ⟨q5.1, State.isArrayOf_alike al'.symm q5.2.1, q5.2.2.1⟩, q6, by rw [← al'.findClass]; exact q7, q8, fun j hj => by have := q9 j hj; rwa [Nat.zero_add] at this⟩, fun O n d w F n1 n2 => ?_⟩, hl, hc, hs⟩, st⟩
  · intro y hy
    simp only [List.mem_cons, List.not_mem_nil, or_false] at hy
    rcases hy with rfl | rfl <;> rfl
  · by_cases q : y = x
    · subst q
      cases hD.symm.trans hy
      exact ⟨E', q1.1, q2.2.1, q2.1, hsz⟩
    · exact ⟨cy, q10 y cy q hy, rfl, rfl, rfl⟩
  · obtain ⟨D3, cf, k, i, f, g1, g2, g3, g4, g5, g6, g7⟩ := F
    cases hD.symm.trans g1
    simp only [RoadKit.slotOf, g2, gV, gC, Option.map_some, Option.getD_some] at n1 n2
    exact ⟨E', cf, k, i, f, q1.1, g2, g3, by rw [q2.1]; exact g4, by rw [q2.1]; exact g5, by rw [q2.2.1]; exact g6, by rw [q2.2.2 f.slot (by simp [n1, n2])]; exact g7⟩
end StrChars.Road
namespace StrChars.Road
open Jvm Sem ClassFile Op Lib Jvm.Stand Jvm.Free Jvm.Free.XT
/-- WHAT COMES BACK, the byte[] as a list of values -/
def QA (Z : State) (x : Addr) (zn : Int32) (cs : List Int32) (h : Heap) (v : Option Value) (h' : Heap) (L : List Loc) : Prop := v = none ∧ (∀ y ∈ L, y.base = x) ∧ RoadKit.Keep h h' [x] ∧ h'.size = h.size + 1 ∧ RoadKit.Exa Z h' x ST ∧ RoadKit.Fld Z h' x ST "value" "[B" (.ref h.size) ∧ RoadKit.Fld Z h' x ST "coder" "B" (.int 0) ∧
  (∃ kb, Z.vm.findClass "[B" = some kb ∧ RoadKit.Arv Z h' h.size kb .byte zn (cs.map fun c => .int (lo8 c)) (.int 0)) ∧
  ∀ (O n d : String) (w : Value), RoadKit.Fld Z h x O n d w → RoadKit.slotOf Z O n d ≠ RoadKit.slotOf Z ST "value" "[B" → RoadKit.slotOf Z O n d ≠ RoadKit.slotOf Z ST "coder" "B" → RoadKit.Fld Z h' x O n d w
/-- **new String(chars) AT A CALL, THE ARRAYS AS LISTS**: the char[] at b holds cs, not empty, no char above 255 -/
theorem backArv {p : Program} {l : Launch} {e : Env} {R : Room} {s : State} {args : Array Value} {below : List Frame} {len W : Nat} {Z : State} {a0 : Array Value} {h : Heap} (hZ : Z.Warmed39 s.vm) (hw : ∀ d ∈ words, d.before a0 Z = true) {kI : Nat} (wi : (Jvm.Cond.instantiable ST kI).before a0 Z = true)
    {x b : Addr} {k : ClassId} {zn z : Int32} {cs : List Int32} {dv v0 c0 : Value} (E : RoadKit.Exa Z h x ST) (V : RoadKit.Fld Z h x ST "value" "[B" v0) (C : RoadKit.Fld Z h x ST "coder" "B" c0) (K : RoadKit.Arv Z h b k .char zn (cs.map Value.int) dv) (S : RoadKit.Sta Z h ST "COMPACT_STRINGS" "Z" (.int z)) (hz : ¬ z = 0)
    (hlen : zn.toNatClampNeg = cs.length) (h0 : 0 < cs.length) (hbig : cs.length ≤ 536870912) (hall : ∀ c ∈ cs, ¬ 255 < c) (hfr : 4 ≤ R.frames) (hlo : W + 65 ≤ R.locals) :
    Back l R p e below s args New1.yN len W (fun P a => a = #[.ref x, .ref b] ∧ P.U.heap = h ∧ P.cells + 1 ≤ R.cells ∧ P.slots + cs.length ≤ R.slots)
      (fun P _ v B => ∃ L, QA Z x zn cs h v B.U.heap L ∧ B.locs = P.locs ++ L ∧ B.cells = P.cells + 1 ∧ B.slots = P.slots + cs.length) := by
  obtain ⟨A, K1, K2, K3, K4, K5, K6⟩ := K
  have e : A.slots.size = cs.length := K3.trans hlen
  have hat : ∀ (i : Nat) (hi : i < cs.length), A.slots[i]? = some (.int cs[i]) := fun i hi => by rw [K5 i (by omega)]; simp [List.getD_eq_getElem?_getD, hi]
  have hcv : ∀ (i : Nat) (hi : i < cs.length), cv A i = cs[i] := fun i hi => by unfold cv; rw [hat i hi]
  have hty : Typed .char A := fun i v hv => by
    have hi : i < A.slots.size := (Array.getElem?_eq_some_iff.mp hv).1
    have q := K5 i hi
    rw [hv] at q
    rw [Option.some.inj q]
    exact K6 i hi
  refine Back.mono (back hZ hw wi E V C K1 hty S hz (by omega) (by omega) (fun i hi => by rw [hcv i (by omega)]; exact hall _ (List.getElem_mem _)) hfr hlo) (fun P a hp => ⟨hp.1, hp.2.1, hp.2.2.1, by rw [e]; exact hp.2.2.2⟩) (fun P a v B hp hq => ?_)
  obtain ⟨L, ⟨q1, q2, q3, q4, q5, q6, q7, ⟨V', v1, v2, v3, v4, v5⟩, q9⟩, hl, hc, hs⟩ := hq
  refine ⟨L, ⟨q1, q2, q3, q4, q5, q6, q7, ⟨V'.cls, v3, V', v1, rfl, by rw [v4, e, hlen], K4, fun i hi => ?_, fun i hi => ?_⟩, q9⟩, hl, hc, by rw [hs, e]⟩
  · have hi' : i < cs.length := by omega
    rw [v5 i (by omega), hcv i hi']; simp [List.getD_eq_getElem?_getD, hi']
  · have hi' : i < cs.length := by omega
    simp only [List.getD_eq_getElem?_getD, List.getElem?_map, List.getElem?_eq_getElem hi', Option.map_some, Option.getD_some]
    exact fits_lo8 _
end StrChars.Road
namespace StrChars.Road
open Jvm Sem ClassFile Op Lib Jvm.Stand Jvm.Free Jvm.Free.XT
/-- WHAT COMES BACK, in the writer's own shape -/
def QV (Z : State) (x : Addr) (N : Int32) (bs : List Int32) (h : Heap) (n0 : Nat) (v : Option Value) (h' : Heap) (L : List Loc) : Prop := v = none ∧ RoadKit.Fr n0 L ∧ RoadKit.Keep h h' [x] ∧ RoadKit.Exa Z h' x ST ∧ RoadKit.Fld Z h' x ST "coder" "B" (.int 0) ∧
  ∃ (t : Addr) (kb : ClassId), n0 ≤ t ∧ h.size ≤ t ∧ ¬ t = x ∧ RoadKit.Fld Z h' x ST "value" "[B" (.ref t) ∧ RoadKit.Arv Z h' t kb .byte N (bs.map Value.int) (.int 0)
/-- **new String(chars) AT A CALL, FOR THE WRITER**: a char[] of n known ints, each 0 to 255 -/
theorem backV {p : Program} {l : Launch} {e : Env} {R : Room} {s : State} {args : Array Value} {below : List Frame} {len W : Nat} {Z : State} {a0 : Array Value} {h : Heap} (hZ : Z.Warmed39 s.vm) (hw : ∀ d ∈ words, d.before a0 Z = true) {kI : Nat} (wi : (Jvm.Cond.instantiable ST kI).before a0 Z = true)
    {x b : Addr} {kC : ClassId} {cs bs : List Int32} {d v0 c0 : Value} {z N : Int32} {n n0 : Nat} (hx0 : n0 ≤ x) (hh0 : n0 ≤ h.size) (E : RoadKit.Exa Z h x ST) (V : RoadKit.Fld Z h x ST "value" "[B" v0) (C : RoadKit.Fld Z h x ST "coder" "B" c0) (K : RoadKit.Arv Z h b kC .char N (cs.map Value.int) d) (S : RoadKit.Sta Z h ST "COMPACT_STRINGS" "Z" (.int z)) (hz : ¬ z = 0)
    (hn : cs.length = n) (hN : N = Int32.ofNat n) (l0 : 0 < n) (l2 : n ≤ 4000) (hp : ∀ c ∈ cs, ¬ c < 0 ∧ ¬ (255 : Int32) < c) (hb : bs = cs.map (fun c => c.toInt8.toInt32)) (hfr : 4 ≤ R.frames) (hlo : W + 65 ≤ R.locals) :
    Back l R p e below s args (⟨"java/lang/String", "<init>", "([C)V"⟩ : MethodName) len W (fun P a => a = #[.ref x, .ref b] ∧ P.U.heap = h ∧ P.cells + 1 ≤ R.cells ∧ P.slots + n ≤ R.slots)
      (fun P _ v B => ∃ L, QV Z x N bs h n0 v B.U.heap L ∧ B.locs = P.locs ++ L ∧ B.cells = P.cells + 1 ∧ B.slots = P.slots + n) := by
  subst hn hN hb
  refine Back.mono (backArv hZ hw wi E V C K S hz (n32 (by omega)) l0 (by omega) (fun c hc => (hp c hc).2) hfr hlo) (fun P a hp => hp) (fun P a v B hp hq => ?_)
  obtain ⟨L, ⟨q1, q2, q3, q4, q5, q6, q7, ⟨kb, v1, v2⟩, q9⟩, hl, hc, hs⟩ := hq
  exact ⟨L, ⟨q1, fun y hy => by rw [q2 y hy]; exact hx0, q3, q5, q7, h.size, kb, hh0, Nat.le_refl _, Nat.ne_of_gt E.lt, q6, by rw [List.map_map]; exact v2⟩, hl, hc, hs⟩
end StrChars.Road
end Jvm.Pilot.@@N@@

namespace Jvm.Pilot.@@N@@
open Jvm Jvm.ClassFile Sem Op Lib Jvm.Free Jvm.Stand Jvm.LawKit Jvm.RoadKit Bundle Jvm.Pilot.@@N@@.Jvm.D
open Jvm.Free.Fl (NoNaN64 Fin64 Nz64)
theorem own_and255 (x : Int32) : ¬ nar .char ((x &&& (255 : Int32)).toUInt32.toUInt16.toUInt32.toInt32) < 0 ∧ ¬ (255 : Int32) < nar .char ((x &&& (255 : Int32)).toUInt32.toUInt16.toUInt32.toInt32) := by
  have e : nar .char ((x &&& (255 : Int32)).toUInt32.toUInt16.toUInt32.toInt32) = x &&& 255 := by
    rw [i2c_mask]; exact i2c_mask x
  rw [e, Int32.lt_iff_toInt_lt, Int32.lt_iff_toInt_lt, show (0 : Int32).toInt = 0 from rfl, show (255 : Int32).toInt = 255 from rfl]
  have := c_and x 255 (by decide)
  rw [show (255 : Int32).toInt = 255 from rfl] at this
  omega
theorem own_256 : OwnFP.Is (4643211215818981376 : UInt64) ((2 ^ 8 : Nat) : Int) 0 := by
  refine OwnFP.is_dint (show FP.Core.DInt 256 (4643211215818981376 : UInt64) from ?_) (by unfold Fin64; decide)
  have : FP.i2d 256 = (4643211215818981376 : UInt64) := by decide +kernel
  rw [← this]; exact FP.Core.i2d_int 256
theorem own_fr (x : Int32) : 1 ≤ ((x &&& (255 : Int32)) + (1 : Int32)).toInt ∧ ((x &&& (255 : Int32)) + (1 : Int32)).toInt ≤ 256 := by
  have h := c_mask x 255 8 (by decide) (by decide)
  have h2 := c_iadd (x &&& 255) 1
  have h3 := rng32 ((x &&& (255 : Int32)) + (1 : Int32))
  rw [h] at h2
  have : (1 : Int32).toInt = 1 := rfl
  omega
theorem own_q (x : Int32) : OwnFP.Is (FP.ddiv (FP.i2d ((x &&& (255 : Int32)) + (1 : Int32))) (4643211215818981376 : UInt64)) ((x &&& (255 : Int32)) + (1 : Int32)).toInt 8 := (OwnFP.is_i2d _).div2 own_256 (by decide) (by have := own_fr x; omega)
/-- min + frac -/
theorem own_s (m x : Int32) : OwnFP.Is (FP.dadd (FP.i2d m) (FP.ddiv (FP.i2d ((x &&& (255 : Int32)) + (1 : Int32))) (4643211215818981376 : UInt64))) (m.toInt * ((2 ^ 8 : Nat) : Int) + ((x &&& (255 : Int32)) + (1 : Int32)).toInt) 8 := by
  have h := own_fr x; have r := rng32 m
  refine OwnFP.Is.add ((OwnFP.is_i2d m).up 8 (by decide)) (own_q x) (by decide) ?_
  have e : ((2 ^ 8 : Nat) : Int) = 256 := by decide
  rw [e]; omega
theorem own_big (q : Int64) : 0 ≤ (q &&& (4611686018427387903 : Int64)).toInt ∧ (q &&& (4611686018427387903 : Int64)).toInt < 4611686018427387904 := by
  rw [c_maskL q 4611686018427387903 62 (by decide) (by decide)]
  have e : ((2 ^ 62 : Nat) : Int) = 4611686018427387904 := by decide
  rw [e]; omega
theorem own_lz {q : Int64} (h : 0 ≤ q.toInt) : 0 ≤ OwnFP.zv (FP.l2d q) := by
  obtain ⟨c, r, e⟩ := FP.Core.l2d_shape q
  refine Int.le_trans ?_ (Int.le_of_eq (OwnFP.zv_of_pos ?_).symm)
  · omega
  · show FP.Core.sgn (FP.Core.val64 (FP.Core.l2d _)) = false
    rw [e]; show decide (q.toInt < 0) = false
    simp; omega
/-- a finite sum: both magnitudes are below 2 ^ 1000 -/
theorem own_vfin {x : UInt64} {i : Int} (h : OwnFP.Is x i 8) (hi : i.natAbs < 2 ^ 53) (q : Int64) : Fin64 (FP.dadd x (FP.l2d q)) := by
  have m1 : x.toNat % 2 ^ 63 < 2000 * 2 ^ 52 := by
    have hf := FP.Core.fin_bits x |>.mp (Fl.fin64_core.mp h.1)
    refine Classical.byContradiction fun c => ?_
    have nn := OwnFP.nn h.nn
    have z := FP.Core.zmag_bits nn
    have le := (FP.Core.unitsOf_le_iff (f := FP.Core.b64)).mpr (show 2000 * 2 ^ 52 ≤ x.toNat % 2 ^ 63 by omega)
    have st := FP.Core.unitsOf_start (f := FP.Core.b64) (K := 2000) (by decide)
    rw [FP.Core.tails_b64] at st
    rw [st, ← z] at le
    have e := h.zm
    have : ((OwnFP.zm x : Nat) : Int) < ((2 ^ 52 * 2 ^ (2000 - 1) : Nat) : Int) := by
      rw [e]
      unfold OwnFP.U
      have a1 : (i.natAbs : Int) * ((2 ^ (1074 - 8) : Nat) : Int) ≤ ((2 ^ 53 * 2 ^ (1074 - 8) : Nat) : Int) := by
        rw [Int.natCast_mul]; exact Int.mul_le_mul_of_nonneg_right (by omega) (by omega)
      refine Int.lt_of_le_of_lt a1 (Int.ofNat_lt.mpr ?_)
      rw [← Nat.pow_add, ← Nat.pow_add]
      exact Nat.pow_lt_pow_right (by decide) (by decide)
    have : OwnFP.zm x < 2 ^ 52 * 2 ^ (2000 - 1) := Int.ofNat_lt.mp this
    exact absurd le (Nat.not_le.mpr this)
  have m2 : (FP.l2d q).toNat % 2 ^ 63 < 2000 * 2 ^ 52 := Nat.lt_of_lt_of_le (FP.Core.l2d_mag q) (Nat.mul_le_mul_right _ (by decide))
  have m3 := FP.Core.dadd_mag (K := 2000) m1 m2 (by decide)
  exact Fl.fin64_core.mpr (FP.Core.fin_of_lt m3 (by decide))
theorem own_v (m x : Int32) (q : Int64) : Fin64 (FP.dadd (FP.dadd (FP.i2d m) (FP.ddiv (FP.i2d ((x &&& (255 : Int32)) + (1 : Int32))) (4643211215818981376 : UInt64))) (FP.l2d (q &&& (4611686018427387903 : Int64)))) ∧ OwnFP.zv (FP.i2d m) < OwnFP.zv (FP.dadd (FP.dadd (FP.i2d m) (FP.ddiv (FP.i2d ((x &&& (255 : Int32)) + (1 : Int32))) (4643211215818981376 : UInt64))) (FP.l2d (q &&& (4611686018427387903 : Int64)))) := by
  have s := own_s m x; have h := own_fr x; have r := rng32 m
  have e : ((2 ^ 8 : Nat) : Int) = 256 := by decide
  refine ⟨own_vfin s (by rw [e]; omega) _, ?_⟩
  refine Int.lt_of_lt_of_le ?_ (OwnFP.add_ge (v := FP.dadd (FP.i2d m) (FP.ddiv (FP.i2d ((x &&& (255 : Int32)) + (1 : Int32))) (4643211215818981376 : UInt64))) s.1 (Fl.l2d_fin _) s.nn (by have := own_lz (own_big q).1; omega))
  exact (((OwnFP.is_i2d m).up 8 (by decide)).lt_iff s).mpr (by rw [e]; omega)
theorem own_inf : NoNaN64 (9218868437227405312 : UInt64) := by unfold NoNaN64; decide
theorem own_ltinf {x : UInt64} (h : Fin64 x) : OwnFP.zv x < OwnFP.zv (9218868437227405312 : UInt64) := by
  have q : FP.dcmp x (9218868437227405312 : UInt64) = some .lt := (FP.Core.fin_lt_inf (Fl.fin64_core.mp h)).1
  have z : FP.dcmp x (9218868437227405312 : UInt64) = some (compare (OwnFP.zv x) (OwnFP.zv (9218868437227405312 : UInt64))) := FP.Core.dcmp_zval (OwnFP.nn h.noNaN) (OwnFP.nn own_inf)
  rw [z] at q
  exact (FP.Core.compare_lt_iff _ _).mp (Option.some.inj q)
theorem ef_isfin (m : MethodId) (d1 : UInt64) : entryFrame m #[(.double d1)] 2 = mkF m 0 #[.val (.double d1), .second] [] := by first | (simp [entryFrame, mkF, argsToLocals, Value.category]; done) | rfl
theorem d10_0 : decode jdk_117_method_8_code 0 = .ok (.dload_n 0, 1) := by decide +kernel
theorem d10_1 : decode jdk_117_method_8_code 1 = .ok (.invokestatic 38, 3) := by decide +kernel
theorem pd__28D_29D : parseMethodDescriptor "(D)D" = some ⟨[.double], some .double⟩ := by decide +kernel
theorem d10_4 : decode jdk_117_method_8_code 4 = .ok (.ldc2_w 111, 3) := by decide +kernel
theorem d10_7 : decode jdk_117_method_8_code 7 = .ok (.dcmp .g, 1) := by decide +kernel
theorem d10_8 : decode jdk_117_method_8_code 8 = .ok (.ifCond .gt 7, 3) := by decide +kernel
theorem d10_11 : decode jdk_117_method_8_code 11 = .ok (.iconst 1, 1) := by decide +kernel
theorem d10_12 : decode jdk_117_method_8_code 12 = .ok (.goto 4, 3) := by decide +kernel
theorem d10_16 : decode jdk_117_method_8_code 16 = .ok (.ireturn, 1) := by decide +kernel
theorem pn_java_lang_Double : plainName "java/lang/Double" = true := by first | (simp [plainName, overriddenIn]; done) | decide +kernel
def Qisfin (Z : State) (d1 : UInt64) (h0 : Heap) (n0 : Nat) (v : Option Value) (h : Heap) (L : List Loc) : Prop := v = some (.int (1 : Int32)) ∧ Fr n0 L ∧ h = h0
set_option maxRecDepth 65536 in
set_option maxHeartbeats 40000000 in
theorem rmisfin (l : Launch) (Z : State) (a0 : Array Value) (hw : ∀ d ∈ tables_1, d.before a0 Z = true) (ws : List Jvm.Cond) (d1 : UInt64) (h0 : Heap) (n0 : Nat) (Z0 : n0 ≤ h0.size) (hfin : Fin64 d1) :
    MetFree l (⟨"java/lang/Double", "isFinite", "(D)Z"⟩ : MethodName) (head1 (Jvm.Cond.code (⟨"java/lang/Double", "isFinite", "(D)Z"⟩ : MethodName) jdk_117_method_8_code 2 (some .boolean) :: ws) ({ frames := 1, cells := 0, slots := 0, locals := 13 } : Room)) (fun a U => a = #[(.double d1)] ∧ Z.Warmed39 U.vm ∧ U.heap = h0) (fun _ _ _ _ _ => True) (fun _ U o U' => ∃ v L, o = .returned v ∧ Qisfin Z d1 h0 n0 v U'.heap L ∧ FrameEnd U o U' L ({ frames := 1, cells := 0, slots := 0, locals := 13 } : Room).cells ({ frames := 1, cells := 0, slots := 0, locals := 13 } : Room).slots) := by
  refine MetFree.of_bodySF (plainFor_of_name pn_java_lang_Double) hisR ?_
  intro p e s m args below meth c s₁ Bd hml0 hP hK
  obtain ⟨rfl, hZ, hh⟩ := hP
  have hx := Bd.exec
  have hby := Bd.bytes
  have hml : c.maxLocals = 2 := hml0
  have hown : s.vm.findClass "java/lang/Double" = some m.cls := findClass_of_methodNamed Bd.named
  have hnm := (name_of_methodNamed Bd.named Bd.method).1
  have X0 : Stand p l e ({ frames := 1, cells := 0, slots := 0, locals := 13 } : Room) s m #[(.double d1)] below meth c s₁ [] 0 0 := Stand.of_body Bd
  have e0 : s₁.heap = h0 := by rw [← hh, Bd.state]; rfl
  have N0 := Fr.nil n0
  have pre0 : ∀ t, Steps p.tables e below (s₁.setTop (mkF m 0 #[.val (.double d1), .second] [])) t → Steps p.tables e below (s₁.setTop (entryFrame m #[(.double d1)] 2)) t := fun t k => castTop (ef_isfin m d1) k
  obtain ⟨T101, X101, e101, st101⟩ := natS X0 hx hZ hown (hw _ (List.mem_of_getElem? (i := 64) rfl)) (hw _ (List.mem_of_getElem? (i := 65) rfl)) (hw _ (List.mem_of_getElem? (i := 66) rfl)) (hw _ (List.mem_of_getElem? (i := 67) rfl)) (by decide) e0 (W := 0) (F := fun a' => a' = #[(.double d1)] ∧ NoNaN64 d1) (val' := (.double (d1 &&& 0x7fffffffffffffff))) (fun hc => Jvm.Free.Fl.Abs.absD_pays d1 hc (by decide) (by decide)) (g := (mkF m 1 #[.val (.double d1), .second] [(.double d1)])) rfl (by rw [hml]; rfl) (argsL := [(.double d1)]) (rest := []) (lenOf pd__28D_29D rfl) rfl (by show 2 * 0 + _ ≤ _; exact Nat.le_of_eq rfl) (hb hby d10_1) (by decide) (by decide) ⟨rfl, hfin.noNaN⟩ rfl
  have pre102 : ∀ t, Steps p.tables e below (T101.setTop (mkF m 16 #[.val (.double d1), .second] [(.int (1 : Int32))])) t → Steps p.tables e below (s₁.setTop (entryFrame m #[(.double d1)] 2)) t := fun t kt => pre0 t (by
      show Steps p.tables e below (s₁.setTop (mkF m 0 #[.val (.double d1), .second] [])) _
      refine XS.dloadN X0.here hx rfl (hb hby d10_0) rfl ?_
      show Steps p.tables e below (s₁.setTop (mkF m 1 #[.val (.double d1), .second] [(.double d1)])) _
      refine st101 _ ?_
      show Steps p.tables e below (T101.setTop (mkF m 4 #[.val (.double d1), .second] [(.double (d1 &&& 0x7fffffffffffffff))])) _
      refine X101.ldc2DoubleC hx hown (mvT hZ (hw _ (List.mem_of_getElem? (i := 68) rfl))) (g := (mkF m 4 #[.val (.double d1), .second] [(.double (d1 &&& 0x7fffffffffffffff))])) rfl (hb hby d10_4) _ ?_
      show Steps p.tables e below (T101.setTop (mkF m 7 #[.val (.double d1), .second] [(.double (9218868437227405311 : UInt64)), (.double (d1 &&& 0x7fffffffffffffff))])) _
      refine XS.dcmpS X101.here hx rfl (hb hby d10_7) rfl (v := (cmpValue (FP.dcmp (d1 &&& 0x7fffffffffffffff) (9218868437227405311 : UInt64)) .g)) rfl ?_
      show Steps p.tables e below (T101.setTop (mkF m 8 #[.val (.double d1), .second] [(.int (cmpValue (FP.dcmp (d1 &&& 0x7fffffffffffffff) (9218868437227405311 : UInt64)) .g))])) _
      refine XS.ifNo X101.here hx rfl (hb hby d10_8) rfl ((if0 _ _).trans (flt (OwnFP.abs_le_max hfin : ¬ ((0 : Int32) < (cmpValue (FP.dcmp (d1 &&& 0x7fffffffffffffff) (9218868437227405311 : UInt64)) .g)))).2.2.1) ?_
      show Steps p.tables e below (T101.setTop (mkF m 11 #[.val (.double d1), .second] [])) _
      refine XS.iconst X101.here hx rfl (hb hby d10_11) ?_
      show Steps p.tables e below (T101.setTop (mkF m 12 #[.val (.double d1), .second] [(.int (1 : Int32))])) _
      refine XS.goto X101.here hx rfl (pc0 := 12) (pc' := 16) rfl (hb hby d10_12) (by decide) (by decide) ?_
      exact kt)
  obtain ⟨fs, hr, hrun, hended, hW, hsame⟩ := X101.leave (v := some (.int (1 : Int32))) (fun h => by rw [Bd.returns] at h; cases h)
  refine ⟨_, _, pre102 _ ?_, hrun, hended, _, _, rfl, ?_, ⟨_, rfl⟩, hW, hsame.mono (by decide) (by decide)⟩
  · show Steps p.tables e below (T101.setTop (mkF m 16 #[.val (.double d1), .second] [(.int (1 : Int32))])) _
    exact retN X101 hx (t := .boolean) Bd.returns (by simp) (hb hby d10_16) hr
  · show Qisfin Z d1 h0 n0 _ T101.heap _
    rw [e101]
    exact ⟨rfl, N0, rfl⟩
theorem ef_Pinit (m : MethodId) (a1 : Addr) (a2 : Addr) (d1 : UInt64) (d2 : UInt64) (d3 : UInt64) : entryFrame m #[(.ref a1), (.ref a2), (.double d1), (.double d2), (.int (0 : Int32)), (.double d3), (.int (1 : Int32))] 10 = mkF m 0 #[.val (.ref a1), .val (.ref a2), .val (.double d1), .second, .val (.double d2), .second, .val (.int (0 : Int32)), .val (.double d3), .second, .val (.int (1 : Int32))] [] := by first | (simp [entryFrame, mkF, argsToLocals, Value.category]; done) | rfl
theorem d8_0 : decode prog_32_method_2_code 0 = .ok (.aload_n 0, 1) := by decide +kernel
theorem d8_1 : decode prog_32_method_2_code 1 = .ok (.invokespecial 7, 3) := by decide +kernel
theorem d8_4 : decode prog_32_method_2_code 4 = .ok (.aload_n 0, 1) := by decide +kernel
theorem d8_5 : decode prog_32_method_2_code 5 = .ok (.aload_n 1, 1) := by decide +kernel
theorem d8_6 : decode prog_32_method_2_code 6 = .ok (.putfield 12, 3) := by decide +kernel
theorem d8_9 : decode prog_32_method_2_code 9 = .ok (.aload_n 0, 1) := by decide +kernel
theorem d8_10 : decode prog_32_method_2_code 10 = .ok (.dload_n 2, 1) := by decide +kernel
theorem d8_11 : decode prog_32_method_2_code 11 = .ok (.putfield 16, 3) := by decide +kernel
theorem d8_14 : decode prog_32_method_2_code 14 = .ok (.aload_n 0, 1) := by decide +kernel
theorem d8_15 : decode prog_32_method_2_code 15 = .ok (.dload 4, 2) := by decide +kernel
theorem d8_17 : decode prog_32_method_2_code 17 = .ok (.putfield 20, 3) := by decide +kernel
theorem d8_20 : decode prog_32_method_2_code 20 = .ok (.aload_n 0, 1) := by decide +kernel
theorem d8_21 : decode prog_32_method_2_code 21 = .ok (.iload 6, 2) := by decide +kernel
theorem d8_23 : decode prog_32_method_2_code 23 = .ok (.putfield 23, 3) := by decide +kernel
theorem d8_26 : decode prog_32_method_2_code 26 = .ok (.aload_n 0, 1) := by decide +kernel
theorem d8_27 : decode prog_32_method_2_code 27 = .ok (.dload 7, 2) := by decide +kernel
theorem d8_29 : decode prog_32_method_2_code 29 = .ok (.putfield 27, 3) := by decide +kernel
theorem d8_32 : decode prog_32_method_2_code 32 = .ok (.aload_n 0, 1) := by decide +kernel
theorem d8_33 : decode prog_32_method_2_code 33 = .ok (.iload 9, 2) := by decide +kernel
theorem d8_35 : decode prog_32_method_2_code 35 = .ok (.putfield 30, 3) := by decide +kernel
theorem d8_38 : decode prog_32_method_2_code 38 = .ok (.return_, 1) := by decide +kernel
theorem pn_com_example_heft_heft_rank_Parameter : plainName "com/example/heft/heft/rank/Parameter" = true := by first | (simp [plainName, overriddenIn]; done) | decide +kernel
def QPinit (Z : State) (a1 : Addr) (a2 : Addr) (d1 : UInt64) (d2 : UInt64) (d3 : UInt64) (h0 : Heap) (n0 : Nat) (v : Option Value) (h : Heap) (L : List Loc) : Prop := v = none ∧ Fr n0 L ∧ Keep h0 h [a1] ∧ (Exa Z h a1 "com/example/heft/heft/rank/Parameter") ∧ (Fld Z h a1 "com/example/heft/heft/rank/Parameter" "name" "Ljava/lang/String;" (.ref a2)) ∧ (Fld Z h a1 "com/example/heft/heft/rank/Parameter" "defaultValue" "D" (.double d1)) ∧ (Fld Z h a1 "com/example/heft/heft/rank/Parameter" "min" "D" (.double d2)) ∧ (Fld Z h a1 "com/example/heft/heft/rank/Parameter" "minAllowed" "Z" (.int (0 : Int32))) ∧ (Fld Z h a1 "com/example/heft/heft/rank/Parameter" "max" "D" (.double d3)) ∧ (Fld Z h a1 "com/example/heft/heft/rank/Parameter" "maxAllowed" "Z" (.int (1 : Int32)))
set_option maxRecDepth 65536 in
set_option maxHeartbeats 40000000 in
theorem rmPinit (l : Launch) (Z : State) (a0 : Array Value) (hw : ∀ d ∈ tables_1, d.before a0 Z = true) (ws : List Jvm.Cond) (a1 : Addr) (a2 : Addr) (d1 : UInt64) (d2 : UInt64) (d3 : UInt64) (h0 : Heap) (n0 : Nat) (Z0 : n0 ≤ h0.size) (P_E_a1 : Exa Z h0 a1 "com/example/heft/heft/rank/Parameter") (P_G_a1 : n0 ≤ a1) (P_F_a1_name : Fld Z h0 a1 "com/example/heft/heft/rank/Parameter" "name" "Ljava/lang/String;" .null) (P_F_a1_defaultValue : Fld Z h0 a1 "com/example/heft/heft/rank/Parameter" "defaultValue" "D" (.double (0 : UInt64))) (P_F_a1_min : Fld Z h0 a1 "com/example/heft/heft/rank/Parameter" "min" "D" (.double (0 : UInt64))) (P_F_a1_minAllowed : Fld Z h0 a1 "com/example/heft/heft/rank/Parameter" "minAllowed" "Z" (.int (0 : Int32))) (P_F_a1_max : Fld Z h0 a1 "com/example/heft/heft/rank/Parameter" "max" "D" (.double (0 : UInt64))) (P_F_a1_maxAllowed : Fld Z h0 a1 "com/example/heft/heft/rank/Parameter" "maxAllowed" "Z" (.int (0 : Int32))) :
    MetFree l (⟨"com/example/heft/heft/rank/Parameter", "<init>", "(Ljava/lang/String;DDZDZ)V"⟩ : MethodName) (head1 (Jvm.Cond.code (⟨"com/example/heft/heft/rank/Parameter", "<init>", "(Ljava/lang/String;DDZDZ)V"⟩ : MethodName) prog_32_method_2_code 10 none :: ws) ({ frames := 1, cells := 0, slots := 0, locals := 12 } : Room)) (fun a U => a = #[(.ref a1), (.ref a2), (.double d1), (.double d2), (.int (0 : Int32)), (.double d3), (.int (1 : Int32))] ∧ Z.Warmed39 U.vm ∧ U.heap = h0) (fun _ _ _ _ _ => True) (fun _ U o U' => ∃ v L, o = .returned v ∧ QPinit Z a1 a2 d1 d2 d3 h0 n0 v U'.heap L ∧ FrameEnd U o U' L ({ frames := 1, cells := 0, slots := 0, locals := 12 } : Room).cells ({ frames := 1, cells := 0, slots := 0, locals := 12 } : Room).slots) := by
  refine MetFree.of_bodySF (plainFor_of_name pn_com_example_heft_heft_rank_Parameter) hisR ?_
  intro p e s m args below meth c s₁ Bd hml0 hP hK
  obtain ⟨rfl, hZ, hh⟩ := hP
  have hx := Bd.exec
  have hby := Bd.bytes
  have hml : c.maxLocals = 10 := hml0
  have hown : s.vm.findClass "com/example/heft/heft/rank/Parameter" = some m.cls := findClass_of_methodNamed Bd.named
  have hnm := (name_of_methodNamed Bd.named Bd.method).1
  have X0 : Stand p l e ({ frames := 1, cells := 0, slots := 0, locals := 12 } : Room) s m #[(.ref a1), (.ref a2), (.double d1), (.double d2), (.int (0 : Int32)), (.double d3), (.int (1 : Int32))] below meth c s₁ [] 0 0 := Stand.of_body Bd
  have e0 : s₁.heap = h0 := by rw [← hh, Bd.state]; rfl
  have N0 := Fr.nil n0
  have pre0 : ∀ t, Steps p.tables e below (s₁.setTop (mkF m 0 #[.val (.ref a1), .val (.ref a2), .val (.double d1), .second, .val (.double d2), .second, .val (.int (0 : Int32)), .val (.double d3), .second, .val (.int (1 : Int32))] [])) t → Steps p.tables e below (s₁.setTop (entryFrame m #[(.ref a1), (.ref a2), (.double d1), (.double d2), (.int (0 : Int32)), (.double d3), (.int (1 : Int32))] 10)) t := fun t k => castTop (ef_Pinit m a1 a2 d1 d2 d3) k
  obtain ⟨T101, X101, e101, st101⟩ := initO X0 hx hZ hown (hw _ (List.mem_of_getElem? (i := 40) rfl)) (hw _ (List.mem_of_getElem? (i := 12) rfl)) (hw _ (List.mem_of_getElem? (i := 13) rfl)) e0 (g := (mkF m 1 #[.val (.ref a1), .val (.ref a2), .val (.double d1), .second, .val (.double d2), .second, .val (.int (0 : Int32)), .val (.double d3), .second, .val (.int (1 : Int32))] [(.ref a1)])) rfl (by rw [hml]; rfl) rfl (hb hby d8_1) (by decide) (W := 0) (by show 2 * 0 + _ ≤ _; exact Nat.le_of_eq rfl) (by decide)
  obtain ⟨T102, h102, X102, e102, W102, st102⟩ := putF X101 hx hZ hown (host := "") (Or.inl (hw _ (List.mem_of_getElem? (i := 41) rfl))) Via.refl e101 P_F_a1_name P_E_a1 (Or.inr ⟨(hw _ (List.mem_of_getElem? (i := 42) rfl)), rfl, hnm⟩) (hw _ (List.mem_of_getElem? (i := 35) rfl)) (ty := (.object "java/lang/String")) (by decide) rfl rfl (g := (mkF m 6 #[.val (.ref a1), .val (.ref a2), .val (.double d1), .second, .val (.double d2), .second, .val (.int (0 : Int32)), .val (.double d3), .second, .val (.int (1 : Int32))] [(.ref a2), (.ref a1)])) rfl rfl (hb hby d8_6)
  have F102 : Fld Z h102 a1 "com/example/heft/heft/rank/Parameter" "name" "Ljava/lang/String;" (.ref a2) := P_F_a1_name.same W102
  have z103 : n0 ≤ h102.size := Nat.le_trans Z0 (Keep.of_wr W102).1
  have k104 : Keep h0 h102 [a1] := (Keep.refl h0 [a1]).wr W102 (Or.inl (List.mem_of_getElem? (i := 0) rfl))
  have N102 : Fr n0 _ := Fr.snoc X102 N0 P_G_a1
  have f105 : Fld Z h102 a1 "com/example/heft/heft/rank/Parameter" "defaultValue" "D" (.double (0 : UInt64)) := (P_F_a1_defaultValue.other W102 (Or.inr (slot_ne (Or.inr (hw _ (List.mem_of_getElem? (i := 44) rfl))) (Or.inr (hw _ (List.mem_of_getElem? (i := 42) rfl))) (by decide) (t := .double) (t' := (.object "java/lang/String")) (by decide) (by decide))))
  have f106 : Exa Z h102 a1 "com/example/heft/heft/rank/Parameter" := (P_E_a1.wr W102)
  obtain ⟨T107, h107, X107, e107, W107, st107⟩ := putF X102 hx hZ hown (host := "") (Or.inl (hw _ (List.mem_of_getElem? (i := 43) rfl))) Via.refl e102 f105 f106 (Or.inr ⟨(hw _ (List.mem_of_getElem? (i := 44) rfl)), rfl, hnm⟩) (hw _ (List.mem_of_getElem? (i := 35) rfl)) (ty := .double) (by decide) rfl rfl (g := (mkF m 11 #[.val (.ref a1), .val (.ref a2), .val (.double d1), .second, .val (.double d2), .second, .val (.int (0 : Int32)), .val (.double d3), .second, .val (.int (1 : Int32))] [(.double d1), (.ref a1)])) rfl rfl (hb hby d8_11)
  have F107 : Fld Z h107 a1 "com/example/heft/heft/rank/Parameter" "defaultValue" "D" (.double d1) := f105.same W107
  have z108 : n0 ≤ h107.size := Nat.le_trans z103 (Keep.of_wr W107).1
  have k109 : Keep h0 h107 [a1] := k104.wr W107 (Or.inl (List.mem_of_getElem? (i := 0) rfl))
  have N107 : Fr n0 _ := Fr.snoc X107 N102 P_G_a1
  have f110 : Fld Z h107 a1 "com/example/heft/heft/rank/Parameter" "min" "D" (.double (0 : UInt64)) := ((P_F_a1_min.other W102 (Or.inr (slot_ne (Or.inr (hw _ (List.mem_of_getElem? (i := 46) rfl))) (Or.inr (hw _ (List.mem_of_getElem? (i := 42) rfl))) (by decide) (t := .double) (t' := (.object "java/lang/String")) (by decide) (by decide)))).other W107 (Or.inr (slot_ne (Or.inr (hw _ (List.mem_of_getElem? (i := 46) rfl))) (Or.inr (hw _ (List.mem_of_getElem? (i := 44) rfl))) (by decide) (t := .double) (t' := .double) (by decide) (by decide))))
  have f111 : Exa Z h107 a1 "com/example/heft/heft/rank/Parameter" := (f106.wr W107)
  obtain ⟨T112, h112, X112, e112, W112, st112⟩ := putF X107 hx hZ hown (host := "") (Or.inl (hw _ (List.mem_of_getElem? (i := 45) rfl))) Via.refl e107 f110 f111 (Or.inr ⟨(hw _ (List.mem_of_getElem? (i := 46) rfl)), rfl, hnm⟩) (hw _ (List.mem_of_getElem? (i := 35) rfl)) (ty := .double) (by decide) rfl rfl (g := (mkF m 17 #[.val (.ref a1), .val (.ref a2), .val (.double d1), .second, .val (.double d2), .second, .val (.int (0 : Int32)), .val (.double d3), .second, .val (.int (1 : Int32))] [(.double d2), (.ref a1)])) rfl rfl (hb hby d8_17)
  have F112 : Fld Z h112 a1 "com/example/heft/heft/rank/Parameter" "min" "D" (.double d2) := f110.same W112
  have z113 : n0 ≤ h112.size := Nat.le_trans z108 (Keep.of_wr W112).1
  have k114 : Keep h0 h112 [a1] := k109.wr W112 (Or.inl (List.mem_of_getElem? (i := 0) rfl))
  have N112 : Fr n0 _ := Fr.snoc X112 N107 P_G_a1
  have f115 : Fld Z h112 a1 "com/example/heft/heft/rank/Parameter" "minAllowed" "Z" (.int (0 : Int32)) := (((P_F_a1_minAllowed.other W102 (Or.inr (slot_ne (Or.inr (hw _ (List.mem_of_getElem? (i := 48) rfl))) (Or.inr (hw _ (List.mem_of_getElem? (i := 42) rfl))) (by decide) (t := .boolean) (t' := (.object "java/lang/String")) (by decide) (by decide)))).other W107 (Or.inr (slot_ne (Or.inr (hw _ (List.mem_of_getElem? (i := 48) rfl))) (Or.inr (hw _ (List.mem_of_getElem? (i := 44) rfl))) (by decide) (t := .boolean) (t' := .double) (by decide) (by decide)))).other W112 (Or.inr (slot_ne (Or.inr (hw _ (List.mem_of_getElem? (i := 48) rfl))) (Or.inr (hw _ (List.mem_of_getElem? (i := 46) rfl))) (by decide) (t := .boolean) (t' := .double) (by decide) (by decide))))
  have f116 : Exa Z h112 a1 "com/example/heft/heft/rank/Parameter" := (f111.wr W112)
  obtain ⟨T117, h117, X117, e117, W117, st117⟩ := putFN X112 hx hZ hown (hw _ (List.mem_of_getElem? (i := 47) rfl)) Via.refl e112 f115 f116 (Or.inr ⟨(hw _ (List.mem_of_getElem? (i := 48) rfl)), rfl, hnm⟩) (hw _ (List.mem_of_getElem? (i := 35) rfl)) (ty := .boolean) (v' := (.int (0 : Int32))) (by decide) rfl (by decide) (g := (mkF m 23 #[.val (.ref a1), .val (.ref a2), .val (.double d1), .second, .val (.double d2), .second, .val (.int (0 : Int32)), .val (.double d3), .second, .val (.int (1 : Int32))] [(.int (0 : Int32)), (.ref a1)])) rfl rfl (hb hby d8_23)
  have F117 : Fld Z h117 a1 "com/example/heft/heft/rank/Parameter" "minAllowed" "Z" (.int (0 : Int32)) := f115.same W117
  have z118 : n0 ≤ h117.size := Nat.le_trans z113 (Keep.of_wr W117).1
  have k119 : Keep h0 h117 [a1] := k114.wr W117 (Or.inl (List.mem_of_getElem? (i := 0) rfl))
  have N117 : Fr n0 _ := Fr.snoc X117 N112 P_G_a1
  have f120 : Fld Z h117 a1 "com/example/heft/heft/rank/Parameter" "max" "D" (.double (0 : UInt64)) := ((((P_F_a1_max.other W102 (Or.inr (slot_ne (Or.inr (hw _ (List.mem_of_getElem? (i := 50) rfl))) (Or.inr (hw _ (List.mem_of_getElem? (i := 42) rfl))) (by decide) (t := .double) (t' := (.object "java/lang/String")) (by decide) (by decide)))).other W107 (Or.inr (slot_ne (Or.inr (hw _ (List.mem_of_getElem? (i := 50) rfl))) (Or.inr (hw _ (List.mem_of_getElem? (i := 44) rfl))) (by decide) (t := .double) (t' := .double) (by decide) (by decide)))).other W112 (Or.inr (slot_ne (Or.inr (hw _ (List.mem_of_getElem? (i := 50) rfl))) (Or.inr (hw _ (List.mem_of_getElem? (i := 46) rfl))) (by decide) (t := .double) (t' := .double) (by decide) (by decide)))).other W117 (Or.inr (slot_ne (Or.inr (hw _ (List.mem_of_getElem? (i := 50) rfl))) (Or.inr (hw _ (List.mem_of_getElem? (i := 48) rfl))) (by decide) (t := .double) (t' := .boolean) (by decide) (by decide))))
  have f121 : Exa Z h117 a1 "com/example/heft/heft/rank/Parameter" := (f116.wr W117)
  obtain ⟨T122, h122, X122, e122, W122, st122⟩ := putF X117 hx hZ hown (host := "") (Or.inl (hw _ (List.mem_of_getElem? (i := 49) rfl))) Via.refl e117 f120 f121 (Or.inr ⟨(hw _ (List.mem_of_getElem? (i := 50) rfl)), rfl, hnm⟩) (hw _ (List.mem_of_getElem? (i := 35) rfl)) (ty := .double) (by decide) rfl rfl (g := (mkF m 29 #[.val (.ref a1), .val (.ref a2), .val (.double d1), .second, .val (.double d2), .second, .val (.int (0 : Int32)), .val (.double d3), .second, .val (.int (1 : Int32))] [(.double d3), (.ref a1)])) rfl rfl (hb hby d8_29)
  have F122 : Fld Z h122 a1 "com/example/heft/heft/rank/Parameter" "max" "D" (.double d3) := f120.same W122
  have z123 : n0 ≤ h122.size := Nat.le_trans z118 (Keep.of_wr W122).1
  have k124 : Keep h0 h122 [a1] := k119.wr W122 (Or.inl (List.mem_of_getElem? (i := 0) rfl))
  have N122 : Fr n0 _ := Fr.snoc X122 N117 P_G_a1
  have f125 : Fld Z h122 a1 "com/example/heft/heft/rank/Parameter" "maxAllowed" "Z" (.int (0 : Int32)) := (((((P_F_a1_maxAllowed.other W102 (Or.inr (slot_ne (Or.inr (hw _ (List.mem_of_getElem? (i := 52) rfl))) (Or.inr (hw _ (List.mem_of_getElem? (i := 42) rfl))) (by decide) (t := .boolean) (t' := (.object "java/lang/String")) (by decide) (by decide)))).other W107 (Or.inr (slot_ne (Or.inr (hw _ (List.mem_of_getElem? (i := 52) rfl))) (Or.inr (hw _ (List.mem_of_getElem? (i := 44) rfl))) (by decide) (t := .boolean) (t' := .double) (by decide) (by decide)))).other W112 (Or.inr (slot_ne (Or.inr (hw _ (List.mem_of_getElem? (i := 52) rfl))) (Or.inr (hw _ (List.mem_of_getElem? (i := 46) rfl))) (by decide) (t := .boolean) (t' := .double) (by decide) (by decide)))).other W117 (Or.inr (slot_ne (Or.inr (hw _ (List.mem_of_getElem? (i := 52) rfl))) (Or.inr (hw _ (List.mem_of_getElem? (i := 48) rfl))) (by decide) (t := .boolean) (t' := .boolean) (by decide) (by decide)))).other W122 (Or.inr (slot_ne (Or.inr (hw _ (List.mem_of_getElem? (i := 52) rfl))) (Or.inr (hw _ (List.mem_of_getElem? (i := 50) rfl))) (by decide) (t := .boolean) (t' := .double) (by decide) (by decide))))
  have f126 : Exa Z h122 a1 "com/example/heft/heft/rank/Parameter" := (f121.wr W122)
  obtain ⟨T127, h127, X127, e127, W127, st127⟩ := putFN X122 hx hZ hown (hw _ (List.mem_of_getElem? (i := 51) rfl)) Via.refl e122 f125 f126 (Or.inr ⟨(hw _ (List.mem_of_getElem? (i := 52) rfl)), rfl, hnm⟩) (hw _ (List.mem_of_getElem? (i := 35) rfl)) (ty := .boolean) (v' := (.int (1 : Int32))) (by decide) rfl (by decide) (g := (mkF m 35 #[.val (.ref a1), .val (.ref a2), .val (.double d1), .second, .val (.double d2), .second, .val (.int (0 : Int32)), .val (.double d3), .second, .val (.int (1 : Int32))] [(.int (1 : Int32)), (.ref a1)])) rfl rfl (hb hby d8_35)
  have F127 : Fld Z h127 a1 "com/example/heft/heft/rank/Parameter" "maxAllowed" "Z" (.int (1 : Int32)) := f125.same W127
  have z128 : n0 ≤ h127.size := Nat.le_trans z123 (Keep.of_wr W127).1
  have k129 : Keep h0 h127 [a1] := k124.wr W127 (Or.inl (List.mem_of_getElem? (i := 0) rfl))
  have N127 : Fr n0 _ := Fr.snoc X127 N122 P_G_a1
  have pre130 : ∀ t, Steps p.tables e below (T127.setTop (mkF m 38 #[.val (.ref a1), .val (.ref a2), .val (.double d1), .second, .val (.double d2), .second, .val (.int (0 : Int32)), .val (.double d3), .second, .val (.int (1 : Int32))] [])) t → Steps p.tables e below (s₁.setTop (entryFrame m #[(.ref a1), (.ref a2), (.double d1), (.double d2), (.int (0 : Int32)), (.double d3), (.int (1 : Int32))] 10)) t := fun t kt => pre0 t (by
      show Steps p.tables e below (s₁.setTop (mkF m 0 #[.val (.ref a1), .val (.ref a2), .val (.double d1), .second, .val (.double d2), .second, .val (.int (0 : Int32)), .val (.double d3), .second, .val (.int (1 : Int32))] [])) _
      refine XS.aloadN X0.here hx rfl (hb hby d8_0) rfl rfl ?_
      show Steps p.tables e below (s₁.setTop (mkF m 1 #[.val (.ref a1), .val (.ref a2), .val (.double d1), .second, .val (.double d2), .second, .val (.int (0 : Int32)), .val (.double d3), .second, .val (.int (1 : Int32))] [(.ref a1)])) _
      refine st101 _ ?_
      show Steps p.tables e below (T101.setTop (mkF m 4 #[.val (.ref a1), .val (.ref a2), .val (.double d1), .second, .val (.double d2), .second, .val (.int (0 : Int32)), .val (.double d3), .second, .val (.int (1 : Int32))] [])) _
      refine XS.aloadN X101.here hx rfl (hb hby d8_4) rfl rfl ?_
      show Steps p.tables e below (T101.setTop (mkF m 5 #[.val (.ref a1), .val (.ref a2), .val (.double d1), .second, .val (.double d2), .second, .val (.int (0 : Int32)), .val (.double d3), .second, .val (.int (1 : Int32))] [(.ref a1)])) _
      refine XS.aloadN X101.here hx rfl (hb hby d8_5) rfl rfl ?_
      show Steps p.tables e below (T101.setTop (mkF m 6 #[.val (.ref a1), .val (.ref a2), .val (.double d1), .second, .val (.double d2), .second, .val (.int (0 : Int32)), .val (.double d3), .second, .val (.int (1 : Int32))] [(.ref a2), (.ref a1)])) _
      refine st102 _ ?_
      show Steps p.tables e below (T102.setTop (mkF m 9 #[.val (.ref a1), .val (.ref a2), .val (.double d1), .second, .val (.double d2), .second, .val (.int (0 : Int32)), .val (.double d3), .second, .val (.int (1 : Int32))] [])) _
      refine XS.aloadN X102.here hx rfl (hb hby d8_9) rfl rfl ?_
      show Steps p.tables e below (T102.setTop (mkF m 10 #[.val (.ref a1), .val (.ref a2), .val (.double d1), .second, .val (.double d2), .second, .val (.int (0 : Int32)), .val (.double d3), .second, .val (.int (1 : Int32))] [(.ref a1)])) _
      refine XS.dloadN X102.here hx rfl (hb hby d8_10) rfl ?_
      show Steps p.tables e below (T102.setTop (mkF m 11 #[.val (.ref a1), .val (.ref a2), .val (.double d1), .second, .val (.double d2), .second, .val (.int (0 : Int32)), .val (.double d3), .second, .val (.int (1 : Int32))] [(.double d1), (.ref a1)])) _
      refine st107 _ ?_
      show Steps p.tables e below (T107.setTop (mkF m 14 #[.val (.ref a1), .val (.ref a2), .val (.double d1), .second, .val (.double d2), .second, .val (.int (0 : Int32)), .val (.double d3), .second, .val (.int (1 : Int32))] [])) _
      refine XS.aloadN X107.here hx rfl (hb hby d8_14) rfl rfl ?_
      show Steps p.tables e below (T107.setTop (mkF m 15 #[.val (.ref a1), .val (.ref a2), .val (.double d1), .second, .val (.double d2), .second, .val (.int (0 : Int32)), .val (.double d3), .second, .val (.int (1 : Int32))] [(.ref a1)])) _
      refine XS.dload X107.here hx rfl (hb hby d8_15) rfl ?_
      show Steps p.tables e below (T107.setTop (mkF m 17 #[.val (.ref a1), .val (.ref a2), .val (.double d1), .second, .val (.double d2), .second, .val (.int (0 : Int32)), .val (.double d3), .second, .val (.int (1 : Int32))] [(.double d2), (.ref a1)])) _
      refine st112 _ ?_
      show Steps p.tables e below (T112.setTop (mkF m 20 #[.val (.ref a1), .val (.ref a2), .val (.double d1), .second, .val (.double d2), .second, .val (.int (0 : Int32)), .val (.double d3), .second, .val (.int (1 : Int32))] [])) _
      refine XS.aloadN X112.here hx rfl (hb hby d8_20) rfl rfl ?_
      show Steps p.tables e below (T112.setTop (mkF m 21 #[.val (.ref a1), .val (.ref a2), .val (.double d1), .second, .val (.double d2), .second, .val (.int (0 : Int32)), .val (.double d3), .second, .val (.int (1 : Int32))] [(.ref a1)])) _
      refine XS.iload X112.here hx rfl (hb hby d8_21) rfl ?_
      show Steps p.tables e below (T112.setTop (mkF m 23 #[.val (.ref a1), .val (.ref a2), .val (.double d1), .second, .val (.double d2), .second, .val (.int (0 : Int32)), .val (.double d3), .second, .val (.int (1 : Int32))] [(.int (0 : Int32)), (.ref a1)])) _
      refine st117 _ ?_
      show Steps p.tables e below (T117.setTop (mkF m 26 #[.val (.ref a1), .val (.ref a2), .val (.double d1), .second, .val (.double d2), .second, .val (.int (0 : Int32)), .val (.double d3), .second, .val (.int (1 : Int32))] [])) _
      refine XS.aloadN X117.here hx rfl (hb hby d8_26) rfl rfl ?_
      show Steps p.tables e below (T117.setTop (mkF m 27 #[.val (.ref a1), .val (.ref a2), .val (.double d1), .second, .val (.double d2), .second, .val (.int (0 : Int32)), .val (.double d3), .second, .val (.int (1 : Int32))] [(.ref a1)])) _
      refine XS.dload X117.here hx rfl (hb hby d8_27) rfl ?_
      show Steps p.tables e below (T117.setTop (mkF m 29 #[.val (.ref a1), .val (.ref a2), .val (.double d1), .second, .val (.double d2), .second, .val (.int (0 : Int32)), .val (.double d3), .second, .val (.int (1 : Int32))] [(.double d3), (.ref a1)])) _
      refine st122 _ ?_
      show Steps p.tables e below (T122.setTop (mkF m 32 #[.val (.ref a1), .val (.ref a2), .val (.double d1), .second, .val (.double d2), .second, .val (.int (0 : Int32)), .val (.double d3), .second, .val (.int (1 : Int32))] [])) _
      refine XS.aloadN X122.here hx rfl (hb hby d8_32) rfl rfl ?_
      show Steps p.tables e below (T122.setTop (mkF m 33 #[.val (.ref a1), .val (.ref a2), .val (.double d1), .second, .val (.double d2), .second, .val (.int (0 : Int32)), .val (.double d3), .second, .val (.int (1 : Int32))] [(.ref a1)])) _
      refine XS.iload X122.here hx rfl (hb hby d8_33) rfl ?_
      show Steps p.tables e below (T122.setTop (mkF m 35 #[.val (.ref a1), .val (.ref a2), .val (.double d1), .second, .val (.double d2), .second, .val (.int (0 : Int32)), .val (.double d3), .second, .val (.int (1 : Int32))] [(.int (1 : Int32)), (.ref a1)])) _
      refine st127 _ ?_
      exact kt)
  have f131 : Exa Z h127 a1 "com/example/heft/heft/rank/Parameter" := (f126.wr W127)
  have f132 : Fld Z h127 a1 "com/example/heft/heft/rank/Parameter" "name" "Ljava/lang/String;" (.ref a2) := (((((F102.other W107 (Or.inr (slot_ne (Or.inr (hw _ (List.mem_of_getElem? (i := 42) rfl))) (Or.inr (hw _ (List.mem_of_getElem? (i := 44) rfl))) (by decide) (t := (.object "java/lang/String")) (t' := .double) (by decide) (by decide)))).other W112 (Or.inr (slot_ne (Or.inr (hw _ (List.mem_of_getElem? (i := 42) rfl))) (Or.inr (hw _ (List.mem_of_getElem? (i := 46) rfl))) (by decide) (t := (.object "java/lang/String")) (t' := .double) (by decide) (by decide)))).other W117 (Or.inr (slot_ne (Or.inr (hw _ (List.mem_of_getElem? (i := 42) rfl))) (Or.inr (hw _ (List.mem_of_getElem? (i := 48) rfl))) (by decide) (t := (.object "java/lang/String")) (t' := .boolean) (by decide) (by decide)))).other W122 (Or.inr (slot_ne (Or.inr (hw _ (List.mem_of_getElem? (i := 42) rfl))) (Or.inr (hw _ (List.mem_of_getElem? (i := 50) rfl))) (by decide) (t := (.object "java/lang/String")) (t' := .double) (by decide) (by decide)))).other W127 (Or.inr (slot_ne (Or.inr (hw _ (List.mem_of_getElem? (i := 42) rfl))) (Or.inr (hw _ (List.mem_of_getElem? (i := 52) rfl))) (by decide) (t := (.object "java/lang/String")) (t' := .boolean) (by decide) (by decide))))
  have f133 : Fld Z h127 a1 "com/example/heft/heft/rank/Parameter" "defaultValue" "D" (.double d1) := ((((F107.other W112 (Or.inr (slot_ne (Or.inr (hw _ (List.mem_of_getElem? (i := 44) rfl))) (Or.inr (hw _ (List.mem_of_getElem? (i := 46) rfl))) (by decide) (t := .double) (t' := .double) (by decide) (by decide)))).other W117 (Or.inr (slot_ne (Or.inr (hw _ (List.mem_of_getElem? (i := 44) rfl))) (Or.inr (hw _ (List.mem_of_getElem? (i := 48) rfl))) (by decide) (t := .double) (t' := .boolean) (by decide) (by decide)))).other W122 (Or.inr (slot_ne (Or.inr (hw _ (List.mem_of_getElem? (i := 44) rfl))) (Or.inr (hw _ (List.mem_of_getElem? (i := 50) rfl))) (by decide) (t := .double) (t' := .double) (by decide) (by decide)))).other W127 (Or.inr (slot_ne (Or.inr (hw _ (List.mem_of_getElem? (i := 44) rfl))) (Or.inr (hw _ (List.mem_of_getElem? (i := 52) rfl))) (by decide) (t := .double) (t' := .boolean) (by decide) (by decide))))
  have f134 : Fld Z h127 a1 "com/example/heft/heft/rank/Parameter" "min" "D" (.double d2) := (((F112.other W117 (Or.inr (slot_ne (Or.inr (hw _ (List.mem_of_getElem? (i := 46) rfl))) (Or.inr (hw _ (List.mem_of_getElem? (i := 48) rfl))) (by decide) (t := .double) (t' := .boolean) (by decide) (by decide)))).other W122 (Or.inr (slot_ne (Or.inr (hw _ (List.mem_of_getElem? (i := 46) rfl))) (Or.inr (hw _ (List.mem_of_getElem? (i := 50) rfl))) (by decide) (t := .double) (t' := .double) (by decide) (by decide)))).other W127 (Or.inr (slot_ne (Or.inr (hw _ (List.mem_of_getElem? (i := 46) rfl))) (Or.inr (hw _ (List.mem_of_getElem? (i := 52) rfl))) (by decide) (t := .double) (t' := .boolean) (by decide) (by decide))))
  have f135 : Fld Z h127 a1 "com/example/heft/heft/rank/Parameter" "minAllowed" "Z" (.int (0 : Int32)) := ((F117.other W122 (Or.inr (slot_ne (Or.inr (hw _ (List.mem_of_getElem? (i := 48) rfl))) (Or.inr (hw _ (List.mem_of_getElem? (i := 50) rfl))) (by decide) (t := .boolean) (t' := .double) (by decide) (by decide)))).other W127 (Or.inr (slot_ne (Or.inr (hw _ (List.mem_of_getElem? (i := 48) rfl))) (Or.inr (hw _ (List.mem_of_getElem? (i := 52) rfl))) (by decide) (t := .boolean) (t' := .boolean) (by decide) (by decide))))
  have f136 : Fld Z h127 a1 "com/example/heft/heft/rank/Parameter" "max" "D" (.double d3) := (F122.other W127 (Or.inr (slot_ne (Or.inr (hw _ (List.mem_of_getElem? (i := 50) rfl))) (Or.inr (hw _ (List.mem_of_getElem? (i := 52) rfl))) (by decide) (t := .double) (t' := .boolean) (by decide) (by decide))))
  obtain ⟨fs, hr, hrun, hended, hW, hsame⟩ := X127.leave (v := none) (fun _ => rfl)
  refine ⟨_, _, pre130 _ ?_, hrun, hended, _, _, rfl, ?_, ⟨_, rfl⟩, hW, hsame.mono (by decide) (by decide)⟩
  · show Steps p.tables e below (T127.setTop (mkF m 38 #[.val (.ref a1), .val (.ref a2), .val (.double d1), .second, .val (.double d2), .second, .val (.int (0 : Int32)), .val (.double d3), .second, .val (.int (1 : Int32))] [])) _
    exact X127.returnOut hx Bd.returns (hb hby d8_38) hr
  · show QPinit Z a1 a2 d1 d2 d3 h0 n0 _ T127.heap _
    rw [e127]
    exact ⟨rfl, N127, k129, f131, f132, f133, f134, f135, f136, F127⟩
theorem ef_Pmake (m : MethodId) (a2 : Addr) (d1 : UInt64) (d2 : UInt64) : entryFrame m #[(.ref a2), (.double d1), (.double d2)] 5 = mkF m 0 #[.val (.ref a2), .val (.double d1), .second, .val (.double d2), .second] [] := by first | (simp [entryFrame, mkF, argsToLocals, Value.category]; done) | rfl
theorem d7_0 : decode prog_32_method_3_code 0 = .ok (.new 2, 3) := by decide +kernel
theorem d7_3 : decode prog_32_method_3_code 3 = .ok (.dup, 1) := by decide +kernel
theorem d7_4 : decode prog_32_method_3_code 4 = .ok (.aload_n 0, 1) := by decide +kernel
theorem d7_5 : decode prog_32_method_3_code 5 = .ok (.dload_n 1, 1) := by decide +kernel
theorem d7_6 : decode prog_32_method_3_code 6 = .ok (.dload_n 3, 1) := by decide +kernel
theorem d7_7 : decode prog_32_method_3_code 7 = .ok (.iconst 0, 1) := by decide +kernel
theorem d7_8 : decode prog_32_method_3_code 8 = .ok (.ldc2_w 35, 3) := by decide +kernel
theorem d7_11 : decode prog_32_method_3_code 11 = .ok (.iconst 1, 1) := by decide +kernel
theorem pd__28Ljava_2flang_2fString_3bDDZDZ_29V : parseMethodDescriptor "(Ljava/lang/String;DDZDZ)V" = some ⟨[(.object "java/lang/String"), .double, .double, .boolean, .double, .boolean], none⟩ := by decide +kernel
theorem d7_12 : decode prog_32_method_3_code 12 = .ok (.invokespecial 1, 3) := by decide +kernel
theorem d7_15 : decode prog_32_method_3_code 15 = .ok (.areturn, 1) := by decide +kernel
def QPmake (Z : State) (a2 : Addr) (d1 : UInt64) (d2 : UInt64) (h0 : Heap) (n0 : Nat) (v : Option Value) (h : Heap) (L : List Loc) : Prop := ∃ (b : Addr), v = some (.ref b) ∧ Fr n0 L ∧ Keep h0 h [] ∧ (h0.size ≤ b) ∧ (Exa Z h b "com/example/heft/heft/rank/Parameter") ∧ (Fld Z h b "com/example/heft/heft/rank/Parameter" "name" "Ljava/lang/String;" (.ref a2)) ∧ (Fld Z h b "com/example/heft/heft/rank/Parameter" "defaultValue" "D" (.double d1)) ∧ (Fld Z h b "com/example/heft/heft/rank/Parameter" "min" "D" (.double d2)) ∧ (Fld Z h b "com/example/heft/heft/rank/Parameter" "minAllowed" "Z" (.int (0 : Int32))) ∧ (Fld Z h b "com/example/heft/heft/rank/Parameter" "max" "D" (.double (9218868437227405312 : UInt64))) ∧ (Fld Z h b "com/example/heft/heft/rank/Parameter" "maxAllowed" "Z" (.int (1 : Int32)))
set_option maxRecDepth 65536 in
set_option maxHeartbeats 40000000 in
theorem rmPmake (l : Launch) (Z : State) (a0 : Array Value) (hw : ∀ d ∈ tables_1, d.before a0 Z = true) (ws : List Jvm.Cond) (a2 : Addr) (d1 : UInt64) (d2 : UInt64) (h0 : Heap) (n0 : Nat) (Z0 : n0 ≤ h0.size) :
    MetFree l (⟨"com/example/heft/heft/rank/Parameter", "greaterThan", "(Ljava/lang/String;DD)Lcom/example/heft/heft/rank/Parameter;"⟩ : MethodName) (head1 (Jvm.Cond.code (⟨"com/example/heft/heft/rank/Parameter", "greaterThan", "(Ljava/lang/String;DD)Lcom/example/heft/heft/rank/Parameter;"⟩ : MethodName) prog_32_method_3_code 5 (some (.object "com/example/heft/heft/rank/Parameter")) :: ws) ({ frames := 2, cells := 1, slots := 6, locals := 34 } : Room)) (fun a U => a = #[(.ref a2), (.double d1), (.double d2)] ∧ Z.Warmed39 U.vm ∧ U.heap = h0) (fun _ _ _ _ _ => True) (fun _ U o U' => ∃ v L, o = .returned v ∧ QPmake Z a2 d1 d2 h0 n0 v U'.heap L ∧ FrameEnd U o U' L ({ frames := 2, cells := 1, slots := 6, locals := 34 } : Room).cells ({ frames := 2, cells := 1, slots := 6, locals := 34 } : Room).slots) := by
  refine MetFree.of_bodySF (plainFor_of_name pn_com_example_heft_heft_rank_Parameter) hisR ?_
  intro p e s m args below meth c s₁ Bd hml0 hP hK
  obtain ⟨rfl, hZ, hh⟩ := hP
  have hx := Bd.exec
  have hby := Bd.bytes
  have hml : c.maxLocals = 5 := hml0
  have hown : s.vm.findClass "com/example/heft/heft/rank/Parameter" = some m.cls := findClass_of_methodNamed Bd.named
  have hnm := (name_of_methodNamed Bd.named Bd.method).1
  have X0 : Stand p l e ({ frames := 2, cells := 1, slots := 6, locals := 34 } : Room) s m #[(.ref a2), (.double d1), (.double d2)] below meth c s₁ [] 0 0 := Stand.of_body Bd
  have e0 : s₁.heap = h0 := by rw [← hh, Bd.state]; rfl
  have N0 := Fr.nil n0
  have pre0 : ∀ t, Steps p.tables e below (s₁.setTop (mkF m 0 #[.val (.ref a2), .val (.double d1), .second, .val (.double d2), .second] [])) t → Steps p.tables e below (s₁.setTop (entryFrame m #[(.ref a2), (.double d1), (.double d2)] 5)) t := fun t k => castTop (ef_Pmake m a2 d1 d2) k
  obtain ⟨T101, h101, X101, e101, E101, A101, D101, -, st101⟩ := newO X0 hx hZ hown (hw _ (List.mem_of_getElem? (i := 34) rfl)) (hw _ (List.mem_of_getElem? (i := 35) rfl)) (hw _ (List.mem_of_getElem? (i := 32) rfl)) e0 (g := (mkF m 0 #[.val (.ref a2), .val (.double d1), .second, .val (.double d2), .second] [])) rfl (hb hby d7_0) (by decide) (by decide)
  obtain ⟨b101, g101⟩ : ∃ z, z = h0.size := ⟨_, rfl⟩
  rw [← g101] at A101 D101 st101
  have g_b101 : n0 ≤ b101 := Nat.le_trans Z0 (Nat.le_of_eq g101.symm)
  have sz_b101 : h0.size ≤ b101 := Nat.le_trans (Keep.refl h0 []).1 (Nat.le_of_eq g101.symm)
  have z102 : n0 ≤ h101.size := Nat.le_trans Z0 E101.1
  have k103 : Keep h0 h101 [] := (Keep.refl h0 []).ext E101
  have F101_42 : Fld Z h101 b101 "com/example/heft/heft/rank/Parameter" "name" "Ljava/lang/String;" .null := D101 (Or.inr (hw _ (List.mem_of_getElem? (i := 42) rfl))) (ty := (.object "java/lang/String")) (by decide)
  have F101_44 : Fld Z h101 b101 "com/example/heft/heft/rank/Parameter" "defaultValue" "D" (.double (0 : UInt64)) := D101 (Or.inr (hw _ (List.mem_of_getElem? (i := 44) rfl))) (ty := .double) (by decide)
  have F101_46 : Fld Z h101 b101 "com/example/heft/heft/rank/Parameter" "min" "D" (.double (0 : UInt64)) := D101 (Or.inr (hw _ (List.mem_of_getElem? (i := 46) rfl))) (ty := .double) (by decide)
  have F101_48 : Fld Z h101 b101 "com/example/heft/heft/rank/Parameter" "minAllowed" "Z" (.int (0 : Int32)) := D101 (Or.inr (hw _ (List.mem_of_getElem? (i := 48) rfl))) (ty := .boolean) (by decide)
  have F101_50 : Fld Z h101 b101 "com/example/heft/heft/rank/Parameter" "max" "D" (.double (0 : UInt64)) := D101 (Or.inr (hw _ (List.mem_of_getElem? (i := 50) rfl))) (ty := .double) (by decide)
  have F101_52 : Fld Z h101 b101 "com/example/heft/heft/rank/Parameter" "maxAllowed" "Z" (.int (0 : Int32)) := D101 (Or.inr (hw _ (List.mem_of_getElem? (i := 52) rfl))) (ty := .boolean) (by decide)
  obtain ⟨_, _, ⟨T104, L104, kk104, nn104⟩, -, X104, ⟨Lc104, hQ104, l104, y104, z104⟩, st104⟩ := X101.specialBack hx (y := (⟨"com/example/heft/heft/rank/Parameter", "<init>", "(Ljava/lang/String;DDZDZ)V"⟩ : MethodName)) rfl hown (mvT hZ (hw _ (List.mem_of_getElem? (i := 37) rfl))) (mvT hZ (hw _ (List.mem_of_getElem? (i := 38) rfl))) (mvT hZ (hw _ (List.mem_of_getElem? (i := 39) rfl))) (by decide) (backOf (W := 1) (rmPinit l Z a0 hw [] b101 a2 d1 d2 (9218868437227405312 : UInt64) h101 n0 z102 A101 g_b101 F101_42 F101_44 F101_46 F101_48 F101_50 F101_52) hZ (hw _ (List.mem_of_getElem? (i := 39) rfl)) (hw _ (List.mem_of_getElem? (i := 32) rfl)) (by decide) (by decide)) (g := (mkF m 12 #[.val (.ref a2), .val (.double d1), .second, .val (.double d2), .second] [(.int (1 : Int32)), (.double (9218868437227405312 : UInt64)), (.int (0 : Int32)), (.double d2), (.double d1), (.ref a2), (.ref b101), (.ref b101)])) rfl (by rw [hml]; rfl) (Steps.refl _) (a := b101) (argsL := [(.ref a2), (.double d1), (.double d2), (.int (0 : Int32)), (.double (9218868437227405312 : UInt64)), (.int (1 : Int32))]) (rest := [(.ref b101)]) (lenOf pd__28Ljava_2flang_2fString_3bDDZDZ_29V rfl) rfl (by show 2 * 0 + _ ≤ _; exact Nat.le_of_eq rfl) (hb hby d7_12) (fun _ _ => ⟨rfl, e101, (by decide : 1 + 0 ≤ _), (by decide : 6 + 0 ≤ _)⟩)
  dsimp only [Pt.U, Pt.locs, Pt.cells, Pt.slots] at X104 l104 y104 z104 st104 hQ104
  subst l104 y104 z104
  obtain ⟨rfl, N104q, K104, x104_0, x104_1, x104_2, x104_3, x104_4, x104_5, x104_6⟩ := hQ104
  have N104 := Fr.app N0 N104q
  have z105 : n0 ≤ T104.heap.size := Nat.le_trans z102 K104.1
  have k106 : Keep h0 T104.heap [] := k103.trans K104 (own_wmc (Or.inr sz_b101) own_wm0)
  have pre107 : ∀ t, Steps p.tables e below (T104.setTop (mkF m 15 #[.val (.ref a2), .val (.double d1), .second, .val (.double d2), .second] [(.ref b101)])) t → Steps p.tables e below (s₁.setTop (entryFrame m #[(.ref a2), (.double d1), (.double d2)] 5)) t := fun t kt => pre0 t (by
      show Steps p.tables e below (s₁.setTop (mkF m 0 #[.val (.ref a2), .val (.double d1), .second, .val (.double d2), .second] [])) _
      refine st101 _ ?_
      show Steps p.tables e below (T101.setTop (mkF m 3 #[.val (.ref a2), .val (.double d1), .second, .val (.double d2), .second] [(.ref b101)])) _
      refine XS.dup X101.here hx rfl (hb hby d7_3) rfl rfl ?_
      show Steps p.tables e below (T101.setTop (mkF m 4 #[.val (.ref a2), .val (.double d1), .second, .val (.double d2), .second] [(.ref b101), (.ref b101)])) _
      refine XS.aloadN X101.here hx rfl (hb hby d7_4) rfl rfl ?_
      show Steps p.tables e below (T101.setTop (mkF m 5 #[.val (.ref a2), .val (.double d1), .second, .val (.double d2), .second] [(.ref a2), (.ref b101), (.ref b101)])) _
      refine XS.dloadN X101.here hx rfl (hb hby d7_5) rfl ?_
      show Steps p.tables e below (T101.setTop (mkF m 6 #[.val (.ref a2), .val (.double d1), .second, .val (.double d2), .second] [(.double d1), (.ref a2), (.ref b101), (.ref b101)])) _
      refine XS.dloadN X101.here hx rfl (hb hby d7_6) rfl ?_
      show Steps p.tables e below (T101.setTop (mkF m 7 #[.val (.ref a2), .val (.double d1), .second, .val (.double d2), .second] [(.double d2), (.double d1), (.ref a2), (.ref b101), (.ref b101)])) _
      refine XS.iconst X101.here hx rfl (hb hby d7_7) ?_
      show Steps p.tables e below (T101.setTop (mkF m 8 #[.val (.ref a2), .val (.double d1), .second, .val (.double d2), .second] [(.int (0 : Int32)), (.double d2), (.double d1), (.ref a2), (.ref b101), (.ref b101)])) _
      refine X101.ldc2DoubleC hx hown (mvT hZ (hw _ (List.mem_of_getElem? (i := 36) rfl))) (g := (mkF m 8 #[.val (.ref a2), .val (.double d1), .second, .val (.double d2), .second] [(.int (0 : Int32)), (.double d2), (.double d1), (.ref a2), (.ref b101), (.ref b101)])) rfl (hb hby d7_8) _ ?_
      show Steps p.tables e below (T101.setTop (mkF m 11 #[.val (.ref a2), .val (.double d1), .second, .val (.double d2), .second] [(.double (9218868437227405312 : UInt64)), (.int (0 : Int32)), (.double d2), (.double d1), (.ref a2), (.ref b101), (.ref b101)])) _
      refine XS.iconst X101.here hx rfl (hb hby d7_11) ?_
      show Steps p.tables e below (T101.setTop (mkF m 12 #[.val (.ref a2), .val (.double d1), .second, .val (.double d2), .second] [(.int (1 : Int32)), (.double (9218868437227405312 : UInt64)), (.int (0 : Int32)), (.double d2), (.double d1), (.ref a2), (.ref b101), (.ref b101)])) _
      refine st104.trans ?_
      exact kt)
  obtain ⟨fs, hr, hrun, hended, hW, hsame⟩ := X104.leave (v := some (.ref b101)) (fun h => by rw [Bd.returns] at h; cases h)
  refine ⟨_, _, pre107 _ ?_, hrun, hended, _, _, rfl, ?_, ⟨_, rfl⟩, hW, hsame.mono (by decide) (by decide)⟩
  · show Steps p.tables e below (T104.setTop (mkF m 15 #[.val (.ref a2), .val (.double d1), .second, .val (.double d2), .second] [(.ref b101)])) _
    exact own_retR X104 hx Bd.returns rfl (hb hby d7_15) hr
  · show QPmake Z a2 d1 d2 h0 n0 _ T104.heap _
    exact ⟨b101, rfl, N104, k106, sz_b101, x104_0, x104_1, x104_2, x104_3, x104_4, x104_5, x104_6⟩
theorem ef_Pname (m : MethodId) (a1 : Addr) : entryFrame m #[(.ref a1)] 1 = mkF m 0 #[.val (.ref a1)] [] := by first | (simp [entryFrame, mkF, argsToLocals, Value.category]; done) | rfl
theorem d12_0 : decode prog_32_method_5_code 0 = .ok (.aload_n 0, 1) := by decide +kernel
theorem d12_1 : decode prog_32_method_5_code 1 = .ok (.getfield 12, 3) := by decide +kernel
theorem d12_4 : decode prog_32_method_5_code 4 = .ok (.areturn, 1) := by decide +kernel
def QPname (Z : State) (a1 : Addr) (a2 : Addr) (h0 : Heap) (n0 : Nat) (v : Option Value) (h : Heap) (L : List Loc) : Prop := v = some (.ref a2) ∧ Fr n0 L ∧ h = h0
set_option maxRecDepth 65536 in
set_option maxHeartbeats 40000000 in
theorem rmPname (l : Launch) (Z : State) (a0 : Array Value) (hw : ∀ d ∈ tables_1, d.before a0 Z = true) (ws : List Jvm.Cond) (a1 : Addr) (a2 : Addr) (h0 : Heap) (n0 : Nat) (Z0 : n0 ≤ h0.size) (P_F_a1_name : Fld Z h0 a1 "com/example/heft/heft/rank/Parameter" "name" "Ljava/lang/String;" (.ref a2)) :
    MetFree l (⟨"com/example/heft/heft/rank/Parameter", "name", "()Ljava/lang/String;"⟩ : MethodName) (head1 (Jvm.Cond.code (⟨"com/example/heft/heft/rank/Parameter", "name", "()Ljava/lang/String;"⟩ : MethodName) prog_32_method_5_code 1 (some (.object "java/lang/String")) :: ws) ({ frames := 0, cells := 0, slots := 0, locals := 0 } : Room)) (fun a U => a = #[(.ref a1)] ∧ Z.Warmed39 U.vm ∧ U.heap = h0) (fun _ _ _ _ _ => True) (fun _ U o U' => ∃ v L, o = .returned v ∧ QPname Z a1 a2 h0 n0 v U'.heap L ∧ FrameEnd U o U' L ({ frames := 0, cells := 0, slots := 0, locals := 0 } : Room).cells ({ frames := 0, cells := 0, slots := 0, locals := 0 } : Room).slots) := by
  refine MetFree.of_bodySF (plainFor_of_name pn_com_example_heft_heft_rank_Parameter) hisR ?_
  intro p e s m args below meth c s₁ Bd hml0 hP hK
  obtain ⟨rfl, hZ, hh⟩ := hP
  have hx := Bd.exec
  have hby := Bd.bytes
  have hml : c.maxLocals = 1 := hml0
  have hown : s.vm.findClass "com/example/heft/heft/rank/Parameter" = some m.cls := findClass_of_methodNamed Bd.named
  have hnm := (name_of_methodNamed Bd.named Bd.method).1
  have X0 : Stand p l e ({ frames := 0, cells := 0, slots := 0, locals := 0 } : Room) s m #[(.ref a1)] below meth c s₁ [] 0 0 := Stand.of_body Bd
  have e0 : s₁.heap = h0 := by rw [← hh, Bd.state]; rfl
  have N0 := Fr.nil n0
  have pre0 : ∀ t, Steps p.tables e below (s₁.setTop (mkF m 0 #[.val (.ref a1)] [])) t → Steps p.tables e below (s₁.setTop (entryFrame m #[(.ref a1)] 1)) t := fun t k => castTop (ef_Pname m a1) k
  obtain ⟨T101, X101, e101, st101⟩ := getF X0 hx hZ hown (host := "") (Or.inl (hw _ (List.mem_of_getElem? (i := 41) rfl))) Via.refl e0 P_F_a1_name (g := (mkF m 1 #[.val (.ref a1)] [(.ref a1)])) rfl rfl (hb hby d12_1)
  have pre102 : ∀ t, Steps p.tables e below (T101.setTop (mkF m 4 #[.val (.ref a1)] [(.ref a2)])) t → Steps p.tables e below (s₁.setTop (entryFrame m #[(.ref a1)] 1)) t := fun t kt => pre0 t (by
      show Steps p.tables e below (s₁.setTop (mkF m 0 #[.val (.ref a1)] [])) _
      refine XS.aloadN X0.here hx rfl (hb hby d12_0) rfl rfl ?_
      show Steps p.tables e below (s₁.setTop (mkF m 1 #[.val (.ref a1)] [(.ref a1)])) _
      refine st101 _ ?_
      exact kt)
  obtain ⟨fs, hr, hrun, hended, hW, hsame⟩ := X101.leave (v := some (.ref a2)) (fun h => by rw [Bd.returns] at h; cases h)
  refine ⟨_, _, pre102 _ ?_, hrun, hended, _, _, rfl, ?_, ⟨_, rfl⟩, hW, hsame.mono (by decide) (by decide)⟩
  · show Steps p.tables e below (T101.setTop (mkF m 4 #[.val (.ref a1)] [(.ref a2)])) _
    exact own_retR X101 hx Bd.returns rfl (hb hby d12_4) hr
  · show QPname Z a1 a2 h0 n0 _ T101.heap _
    rw [e101]
    exact ⟨rfl, N0, rfl⟩
theorem ef_Pdv (m : MethodId) (a1 : Addr) : entryFrame m #[(.ref a1)] 1 = mkF m 0 #[.val (.ref a1)] [] := by first | (simp [entryFrame, mkF, argsToLocals, Value.category]; done) | rfl
theorem d14_0 : decode prog_32_method_6_code 0 = .ok (.aload_n 0, 1) := by decide +kernel
theorem d14_1 : decode prog_32_method_6_code 1 = .ok (.getfield 16, 3) := by decide +kernel
theorem d14_4 : decode prog_32_method_6_code 4 = .ok (.dreturn, 1) := by decide +kernel
def QPdv (Z : State) (a1 : Addr) (d1 : UInt64) (h0 : Heap) (n0 : Nat) (v : Option Value) (h : Heap) (L : List Loc) : Prop := v = some (.double d1) ∧ Fr n0 L ∧ h = h0
set_option maxRecDepth 65536 in
set_option maxHeartbeats 40000000 in
theorem rmPdv (l : Launch) (Z : State) (a0 : Array Value) (hw : ∀ d ∈ tables_1, d.before a0 Z = true) (ws : List Jvm.Cond) (a1 : Addr) (d1 : UInt64) (h0 : Heap) (n0 : Nat) (Z0 : n0 ≤ h0.size) (P_F_a1_defaultValue : Fld Z h0 a1 "com/example/heft/heft/rank/Parameter" "defaultValue" "D" (.double d1)) :
    MetFree l (⟨"com/example/heft/heft/rank/Parameter", "defaultValue", "()D"⟩ : MethodName) (head1 (Jvm.Cond.code (⟨"com/example/heft/heft/rank/Parameter", "defaultValue", "()D"⟩ : MethodName) prog_32_method_6_code 1 (some .double) :: ws) ({ frames := 0, cells := 0, slots := 0, locals := 0 } : Room)) (fun a U => a = #[(.ref a1)] ∧ Z.Warmed39 U.vm ∧ U.heap = h0) (fun _ _ _ _ _ => True) (fun _ U o U' => ∃ v L, o = .returned v ∧ QPdv Z a1 d1 h0 n0 v U'.heap L ∧ FrameEnd U o U' L ({ frames := 0, cells := 0, slots := 0, locals := 0 } : Room).cells ({ frames := 0, cells := 0, slots := 0, locals := 0 } : Room).slots) := by
  refine MetFree.of_bodySF (plainFor_of_name pn_com_example_heft_heft_rank_Parameter) hisR ?_
  intro p e s m args below meth c s₁ Bd hml0 hP hK
  obtain ⟨rfl, hZ, hh⟩ := hP
  have hx := Bd.exec
  have hby := Bd.bytes
  have hml : c.maxLocals = 1 := hml0
  have hown : s.vm.findClass "com/example/heft/heft/rank/Parameter" = some m.cls := findClass_of_methodNamed Bd.named
  have hnm := (name_of_methodNamed Bd.named Bd.method).1
  have X0 : Stand p l e ({ frames := 0, cells := 0, slots := 0, locals := 0 } : Room) s m #[(.ref a1)] below meth c s₁ [] 0 0 := Stand.of_body Bd
  have e0 : s₁.heap = h0 := by rw [← hh, Bd.state]; rfl
  have N0 := Fr.nil n0
  have pre0 : ∀ t, Steps p.tables e below (s₁.setTop (mkF m 0 #[.val (.ref a1)] [])) t → Steps p.tables e below (s₁.setTop (entryFrame m #[(.ref a1)] 1)) t := fun t k => castTop (ef_Pdv m a1) k
  obtain ⟨T101, X101, e101, st101⟩ := getF X0 hx hZ hown (host := "") (Or.inl (hw _ (List.mem_of_getElem? (i := 43) rfl))) Via.refl e0 P_F_a1_defaultValue (g := (mkF m 1 #[.val (.ref a1)] [(.ref a1)])) rfl rfl (hb hby d14_1)
  have pre102 : ∀ t, Steps p.tables e below (T101.setTop (mkF m 4 #[.val (.ref a1)] [(.double d1)])) t → Steps p.tables e below (s₁.setTop (entryFrame m #[(.ref a1)] 1)) t := fun t kt => pre0 t (by
      show Steps p.tables e below (s₁.setTop (mkF m 0 #[.val (.ref a1)] [])) _
      refine XS.aloadN X0.here hx rfl (hb hby d14_0) rfl rfl ?_
      show Steps p.tables e below (s₁.setTop (mkF m 1 #[.val (.ref a1)] [(.ref a1)])) _
      refine st101 _ ?_
      exact kt)
  obtain ⟨fs, hr, hrun, hended, hW, hsame⟩ := X101.leave (v := some (.double d1)) (fun h => by rw [Bd.returns] at h; cases h)
  refine ⟨_, _, pre102 _ ?_, hrun, hended, _, _, rfl, ?_, ⟨_, rfl⟩, hW, hsame.mono (by decide) (by decide)⟩
  · show Steps p.tables e below (T101.setTop (mkF m 4 #[.val (.ref a1)] [(.double d1)])) _
    exact own_retD X101 hx Bd.returns (hb hby d14_4) hr
  · show QPdv Z a1 d1 h0 n0 _ T101.heap _
    rw [e101]
    exact ⟨rfl, N0, rfl⟩
theorem ef_Seq (m : MethodId) (a1 : Addr) : entryFrame m #[(.ref a1), (.ref a1)] 3 = mkF m 0 #[.val (.ref a1), .val (.ref a1), .unset] [] := by first | (simp [entryFrame, mkF, argsToLocals, Value.category]; done) | rfl
theorem d13_0 : decode jdk_42_method_66_code 0 = .ok (.aload_n 0, 1) := by decide +kernel
theorem d13_1 : decode jdk_42_method_66_code 1 = .ok (.aload_n 1, 1) := by decide +kernel
theorem d13_2 : decode jdk_42_method_66_code 2 = .ok (.if_acmp .ne 5, 3) := by decide +kernel
theorem d13_5 : decode jdk_42_method_66_code 5 = .ok (.iconst 1, 1) := by decide +kernel
theorem d13_6 : decode jdk_42_method_66_code 6 = .ok (.ireturn, 1) := by decide +kernel
theorem pn_java_lang_String : plainName "java/lang/String" = true := by first | (simp [plainName, overriddenIn]; done) | decide +kernel
def QSeq (Z : State) (a1 : Addr) (h0 : Heap) (n0 : Nat) (v : Option Value) (h : Heap) (L : List Loc) : Prop := v = some (.int (1 : Int32)) ∧ Fr n0 L ∧ h = h0
set_option maxRecDepth 65536 in
set_option maxHeartbeats 40000000 in
theorem rmSeq (l : Launch) (Z : State) (a0 : Array Value) (hw : ∀ d ∈ tables_1, d.before a0 Z = true) (ws : List Jvm.Cond) (a1 : Addr) (h0 : Heap) (n0 : Nat) (Z0 : n0 ≤ h0.size) :
    MetFree l (⟨"java/lang/String", "equals", "(Ljava/lang/Object;)Z"⟩ : MethodName) (head1 (Jvm.Cond.code (⟨"java/lang/String", "equals", "(Ljava/lang/Object;)Z"⟩ : MethodName) jdk_42_method_66_code 3 (some .boolean) :: ws) ({ frames := 0, cells := 0, slots := 0, locals := 0 } : Room)) (fun a U => a = #[(.ref a1), (.ref a1)] ∧ Z.Warmed39 U.vm ∧ U.heap = h0) (fun _ _ _ _ _ => True) (fun _ U o U' => ∃ v L, o = .returned v ∧ QSeq Z a1 h0 n0 v U'.heap L ∧ FrameEnd U o U' L ({ frames := 0, cells := 0, slots := 0, locals := 0 } : Room).cells ({ frames := 0, cells := 0, slots := 0, locals := 0 } : Room).slots) := by
  refine MetFree.of_bodySF (plainFor_of_name pn_java_lang_String) hisR ?_
  intro p e s m args below meth c s₁ Bd hml0 hP hK
  obtain ⟨rfl, hZ, hh⟩ := hP
  have hx := Bd.exec
  have hby := Bd.bytes
  have hml : c.maxLocals = 3 := hml0
  have hown : s.vm.findClass "java/lang/String" = some m.cls := findClass_of_methodNamed Bd.named
  have hnm := (name_of_methodNamed Bd.named Bd.method).1
  have X0 : Stand p l e ({ frames := 0, cells := 0, slots := 0, locals := 0 } : Room) s m #[(.ref a1), (.ref a1)] below meth c s₁ [] 0 0 := Stand.of_body Bd
  have e0 : s₁.heap = h0 := by rw [← hh, Bd.state]; rfl
  have N0 := Fr.nil n0
  have pre0 : ∀ t, Steps p.tables e below (s₁.setTop (mkF m 0 #[.val (.ref a1), .val (.ref a1), .unset] [])) t → Steps p.tables e below (s₁.setTop (entryFrame m #[(.ref a1), (.ref a1)] 3)) t := fun t k => castTop (ef_Seq m a1) k
  have pre101 : ∀ t, Steps p.tables e below (s₁.setTop (mkF m 6 #[.val (.ref a1), .val (.ref a1), .unset] [(.int (1 : Int32))])) t → Steps p.tables e below (s₁.setTop (entryFrame m #[(.ref a1), (.ref a1)] 3)) t := fun t kt => pre0 t (by
      show Steps p.tables e below (s₁.setTop (mkF m 0 #[.val (.ref a1), .val (.ref a1), .unset] [])) _
      refine XS.aloadN X0.here hx rfl (hb hby d13_0) rfl rfl ?_
      show Steps p.tables e below (s₁.setTop (mkF m 1 #[.val (.ref a1), .val (.ref a1), .unset] [(.ref a1)])) _
      refine XS.aloadN X0.here hx rfl (hb hby d13_1) rfl rfl ?_
      show Steps p.tables e below (s₁.setTop (mkF m 2 #[.val (.ref a1), .val (.ref a1), .unset] [(.ref a1), (.ref a1)])) _
      refine Jvm.RoadKit.acmp (g := (mkF m 2 #[.val (.ref a1), .val (.ref a1), .unset] [(.ref a1), (.ref a1)])) X0 hx rfl rfl rfl (pc0 := 2) (pc' := 5) (same := true) rfl (hb hby d13_2) rfl (decide_eq_true rfl) (by decide) (by decide) ?_
      show Steps p.tables e below (s₁.setTop (mkF m 5 #[.val (.ref a1), .val (.ref a1), .unset] [])) _
      refine XS.iconst X0.here hx rfl (hb hby d13_5) ?_
      exact kt)
  obtain ⟨fs, hr, hrun, hended, hW, hsame⟩ := X0.leave (v := some (.int (1 : Int32))) (fun h => by rw [Bd.returns] at h; cases h)
  refine ⟨_, _, pre101 _ ?_, hrun, hended, _, _, rfl, ?_, ⟨_, rfl⟩, hW, hsame.mono (by decide) (by decide)⟩
  · show Steps p.tables e below (s₁.setTop (mkF m 6 #[.val (.ref a1), .val (.ref a1), .unset] [(.int (1 : Int32))])) _
    exact retN X0 hx (t := .boolean) Bd.returns (by simp) (hb hby d13_6) hr
  · show QSeq Z a1 h0 n0 _ s₁.heap _
    rw [e0]
    exact ⟨rfl, N0, rfl⟩
theorem ef_Pcheck (m : MethodId) (a1 : Addr) (d1 : UInt64) : entryFrame m #[(.ref a1), (.double d1)] 5 = mkF m 0 #[.val (.ref a1), .val (.double d1), .second, .unset, .unset] [] := by first | (simp [entryFrame, mkF, argsToLocals, Value.category]; done) | rfl
theorem d9_0 : decode prog_32_method_7_code 0 = .ok (.aload_n 0, 1) := by decide +kernel
theorem d9_1 : decode prog_32_method_7_code 1 = .ok (.getfield 23, 3) := by decide +kernel
theorem d9_4 : decode prog_32_method_7_code 4 = .ok (.ifCond .eq 20, 3) := by decide +kernel
theorem d9_24 : decode prog_32_method_7_code 24 = .ok (.dload_n 1, 1) := by decide +kernel
theorem d9_25 : decode prog_32_method_7_code 25 = .ok (.aload_n 0, 1) := by decide +kernel
theorem d9_26 : decode prog_32_method_7_code 26 = .ok (.getfield 20, 3) := by decide +kernel
theorem d9_29 : decode prog_32_method_7_code 29 = .ok (.dcmp .g, 1) := by decide +kernel
theorem d9_30 : decode prog_32_method_7_code 30 = .ok (.ifCond .gt 7, 3) := by decide +kernel
theorem d9_37 : decode prog_32_method_7_code 37 = .ok (.iconst 0, 1) := by decide +kernel
theorem d9_38 : decode prog_32_method_7_code 38 = .ok (.istore_n 3, 1) := by decide +kernel
theorem d9_39 : decode prog_32_method_7_code 39 = .ok (.aload_n 0, 1) := by decide +kernel
theorem d9_40 : decode prog_32_method_7_code 40 = .ok (.getfield 30, 3) := by decide +kernel
theorem d9_43 : decode prog_32_method_7_code 43 = .ok (.ifCond .eq 20, 3) := by decide +kernel
theorem d9_46 : decode prog_32_method_7_code 46 = .ok (.dload_n 1, 1) := by decide +kernel
theorem d9_47 : decode prog_32_method_7_code 47 = .ok (.aload_n 0, 1) := by decide +kernel
theorem d9_48 : decode prog_32_method_7_code 48 = .ok (.getfield 27, 3) := by decide +kernel
theorem d9_51 : decode prog_32_method_7_code 51 = .ok (.dcmp .l, 1) := by decide +kernel
theorem d9_52 : decode prog_32_method_7_code 52 = .ok (.ifCond .le 7, 3) := by decide +kernel
theorem d9_59 : decode prog_32_method_7_code 59 = .ok (.iconst 0, 1) := by decide +kernel
theorem d9_60 : decode prog_32_method_7_code 60 = .ok (.goto 17, 3) := by decide +kernel
theorem d9_77 : decode prog_32_method_7_code 77 = .ok (.istore 4, 2) := by decide +kernel
theorem d9_79 : decode prog_32_method_7_code 79 = .ok (.dload_n 1, 1) := by decide +kernel
theorem pd__28D_29Z : parseMethodDescriptor "(D)Z" = some ⟨[.double], some .boolean⟩ := by decide +kernel
theorem d9_80 : decode prog_32_method_7_code 80 = .ok (.invokestatic 37, 3) := by decide +kernel
theorem d9_83 : decode prog_32_method_7_code 83 = .ok (.ifCond .eq 12, 3) := by decide +kernel
theorem d9_86 : decode prog_32_method_7_code 86 = .ok (.iload_n 3, 1) := by decide +kernel
theorem d9_87 : decode prog_32_method_7_code 87 = .ok (.ifCond .ne 8, 3) := by decide +kernel
theorem d9_90 : decode prog_32_method_7_code 90 = .ok (.iload 4, 2) := by decide +kernel
theorem d9_92 : decode prog_32_method_7_code 92 = .ok (.ifCond .eq 28, 3) := by decide +kernel
theorem d9_120 : decode prog_32_method_7_code 120 = .ok (.return_, 1) := by decide +kernel
def QPcheck (Z : State) (a1 : Addr) (d1 : UInt64) (d2 : UInt64) (d3 : UInt64) (h0 : Heap) (n0 : Nat) (v : Option Value) (h : Heap) (L : List Loc) : Prop := v = none ∧ Fr n0 L ∧ h = h0
set_option maxRecDepth 65536 in
set_option maxHeartbeats 40000000 in
theorem rmPcheck (l : Launch) (Z : State) (a0 : Array Value) (hw : ∀ d ∈ tables_1, d.before a0 Z = true) (ws : List Jvm.Cond) (a1 : Addr) (d1 : UInt64) (d2 : UInt64) (d3 : UInt64) (h0 : Heap) (n0 : Nat) (Z0 : n0 ≤ h0.size) (P_F_a1_min : Fld Z h0 a1 "com/example/heft/heft/rank/Parameter" "min" "D" (.double d2)) (P_F_a1_minAllowed : Fld Z h0 a1 "com/example/heft/heft/rank/Parameter" "minAllowed" "Z" (.int (0 : Int32))) (P_F_a1_max : Fld Z h0 a1 "com/example/heft/heft/rank/Parameter" "max" "D" (.double d3)) (P_F_a1_maxAllowed : Fld Z h0 a1 "com/example/heft/heft/rank/Parameter" "maxAllowed" "Z" (.int (1 : Int32))) (hf : Fin64 d1) (hm : Fin64 d2) (hlo : OwnFP.zv d2 < OwnFP.zv d1) (hx_ : NoNaN64 d3) (hhi : OwnFP.zv d1 < OwnFP.zv d3) :
    MetFree l (⟨"com/example/heft/heft/rank/Parameter", "check", "(D)V"⟩ : MethodName) (head1 (Jvm.Cond.code (⟨"com/example/heft/heft/rank/Parameter", "check", "(D)V"⟩ : MethodName) prog_32_method_7_code 5 none :: ws) ({ frames := 2, cells := 0, slots := 0, locals := 26 } : Room)) (fun a U => a = #[(.ref a1), (.double d1)] ∧ Z.Warmed39 U.vm ∧ U.heap = h0) (fun _ _ _ _ _ => True) (fun _ U o U' => ∃ v L, o = .returned v ∧ QPcheck Z a1 d1 d2 d3 h0 n0 v U'.heap L ∧ FrameEnd U o U' L ({ frames := 2, cells := 0, slots := 0, locals := 26 } : Room).cells ({ frames := 2, cells := 0, slots := 0, locals := 26 } : Room).slots) := by
  refine MetFree.of_bodySF (plainFor_of_name pn_com_example_heft_heft_rank_Parameter) hisR ?_
  intro p e s m args below meth c s₁ Bd hml0 hP hK
  obtain ⟨rfl, hZ, hh⟩ := hP
  have hx := Bd.exec
  have hby := Bd.bytes
  have hml : c.maxLocals = 5 := hml0
  have hown : s.vm.findClass "com/example/heft/heft/rank/Parameter" = some m.cls := findClass_of_methodNamed Bd.named
  have hnm := (name_of_methodNamed Bd.named Bd.method).1
  have X0 : Stand p l e ({ frames := 2, cells := 0, slots := 0, locals := 26 } : Room) s m #[(.ref a1), (.double d1)] below meth c s₁ [] 0 0 := Stand.of_body Bd
  have e0 : s₁.heap = h0 := by rw [← hh, Bd.state]; rfl
  have N0 := Fr.nil n0
  have pre0 : ∀ t, Steps p.tables e below (s₁.setTop (mkF m 0 #[.val (.ref a1), .val (.double d1), .second, .unset, .unset] [])) t → Steps p.tables e below (s₁.setTop (entryFrame m #[(.ref a1), (.double d1)] 5)) t := fun t k => castTop (ef_Pcheck m a1 d1) k
  obtain ⟨T101, X101, e101, st101⟩ := getF X0 hx hZ hown (host := "") (Or.inl (hw _ (List.mem_of_getElem? (i := 47) rfl))) Via.refl e0 P_F_a1_minAllowed (g := (mkF m 1 #[.val (.ref a1), .val (.double d1), .second, .unset, .unset] [(.ref a1)])) rfl rfl (hb hby d9_1)
  obtain ⟨T102, X102, e102, st102⟩ := getF X101 hx hZ hown (host := "") (Or.inl (hw _ (List.mem_of_getElem? (i := 45) rfl))) Via.refl e101 P_F_a1_min (g := (mkF m 26 #[.val (.ref a1), .val (.double d1), .second, .unset, .unset] [(.ref a1), (.double d1)])) rfl rfl (hb hby d9_26)
  obtain ⟨T103, X103, e103, st103⟩ := getF X102 hx hZ hown (host := "") (Or.inl (hw _ (List.mem_of_getElem? (i := 51) rfl))) Via.refl e102 P_F_a1_maxAllowed (g := (mkF m 40 #[.val (.ref a1), .val (.double d1), .second, .val (.int (0 : Int32)), .unset] [(.ref a1)])) rfl rfl (hb hby d9_40)
  obtain ⟨T104, X104, e104, st104⟩ := getF X103 hx hZ hown (host := "") (Or.inl (hw _ (List.mem_of_getElem? (i := 49) rfl))) Via.refl e103 P_F_a1_max (g := (mkF m 48 #[.val (.ref a1), .val (.double d1), .second, .val (.int (0 : Int32)), .unset] [(.ref a1), (.double d1)])) rfl rfl (hb hby d9_48)
  obtain ⟨_, _, ⟨T105, L105, kk105, nn105⟩, -, X105, ⟨Lc105, hQ105, l105, y105, z105⟩, st105⟩ := Jvm.LawKit.callS X104 hx (y := (⟨"java/lang/Double", "isFinite", "(D)Z"⟩ : MethodName)) hown (mvT hZ (hw _ (List.mem_of_getElem? (i := 60) rfl))) (mvT hZ (hw _ (List.mem_of_getElem? (i := 61) rfl))) (mvT hZ (hw _ (List.mem_of_getElem? (i := 62) rfl))) (mvT hZ (hw _ (List.mem_of_getElem? (i := 63) rfl))) (by decide) (backOf (W := 0) (rmisfin l Z a0 hw [] d1 h0 n0 Z0 (hf)) hZ (hw _ (List.mem_of_getElem? (i := 63) rfl)) (hw _ (List.mem_of_getElem? (i := 62) rfl)) (by decide) (by decide)) (g := (mkF m 80 #[.val (.ref a1), .val (.double d1), .second, .val (.int (0 : Int32)), .val (.int (0 : Int32))] [(.double d1)])) rfl (by rw [hml]; rfl) (argsL := [(.double d1)]) (rest := []) (lenOf pd__28D_29Z rfl) rfl (by show 2 * 0 + _ ≤ _; exact Nat.le_of_eq rfl) (hb hby d9_80) (fun _ _ => ⟨rfl, e104, (by decide : 0 + 0 ≤ _), (by decide : 0 + 0 ≤ _)⟩)
  dsimp only [Pt.U, Pt.locs, Pt.cells, Pt.slots] at X105 l105 y105 z105 st105 hQ105
  subst l105 y105 z105
  obtain ⟨rfl, N105q, e105⟩ := hQ105
  have N105 := Fr.app N0 N105q
  have pre106 : ∀ t, Steps p.tables e below (T105.setTop (mkF m 120 #[.val (.ref a1), .val (.double d1), .second, .val (.int (0 : Int32)), .val (.int (0 : Int32))] [])) t → Steps p.tables e below (s₁.setTop (entryFrame m #[(.ref a1), (.double d1)] 5)) t := fun t kt => pre0 t (by
      show Steps p.tables e below (s₁.setTop (mkF m 0 #[.val (.ref a1), .val (.double d1), .second, .unset, .unset] [])) _
      refine XS.aloadN X0.here hx rfl (hb hby d9_0) rfl rfl ?_
      show Steps p.tables e below (s₁.setTop (mkF m 1 #[.val (.ref a1), .val (.double d1), .second, .unset, .unset] [(.ref a1)])) _
      refine st101 _ ?_
      show Steps p.tables e below (T101.setTop (mkF m 4 #[.val (.ref a1), .val (.double d1), .second, .unset, .unset] [(.int (0 : Int32))])) _
      refine XS.ifYes X101.here hx rfl (pc0 := 4) (pc' := 24) rfl (hb hby d9_4) rfl ((if0 _ _).trans (teq ((by decide) : (0 : Int32) = (0 : Int32))).1) (by decide) (by decide) ?_
      show Steps p.tables e below (T101.setTop (mkF m 24 #[.val (.ref a1), .val (.double d1), .second, .unset, .unset] [])) _
      refine XS.dloadN X101.here hx rfl (hb hby d9_24) rfl ?_
      show Steps p.tables e below (T101.setTop (mkF m 25 #[.val (.ref a1), .val (.double d1), .second, .unset, .unset] [(.double d1)])) _
      refine XS.aloadN X101.here hx rfl (hb hby d9_25) rfl rfl ?_
      show Steps p.tables e below (T101.setTop (mkF m 26 #[.val (.ref a1), .val (.double d1), .second, .unset, .unset] [(.ref a1), (.double d1)])) _
      refine st102 _ ?_
      show Steps p.tables e below (T102.setTop (mkF m 29 #[.val (.ref a1), .val (.double d1), .second, .unset, .unset] [(.double d2), (.double d1)])) _
      refine XS.dcmpS X102.here hx rfl (hb hby d9_29) rfl (v := (cmpValue (FP.dcmp d1 d2) .g)) rfl ?_
      show Steps p.tables e below (T102.setTop (mkF m 30 #[.val (.ref a1), .val (.double d1), .second, .unset, .unset] [(.int (cmpValue (FP.dcmp d1 d2) .g))])) _
      refine XS.ifYes X102.here hx rfl (pc0 := 30) (pc' := 37) rfl (hb hby d9_30) rfl ((if0 _ _).trans (tlt (by rw [OwnFP.cv_gt hf.noNaN hm.noNaN hlo]; decide : (0 : Int32) < (cmpValue (FP.dcmp d1 d2) .g))).2.2.1) (by decide) (by decide) ?_
      show Steps p.tables e below (T102.setTop (mkF m 37 #[.val (.ref a1), .val (.double d1), .second, .unset, .unset] [])) _
      refine XS.iconst X102.here hx rfl (hb hby d9_37) ?_
      show Steps p.tables e below (T102.setTop (mkF m 38 #[.val (.ref a1), .val (.double d1), .second, .unset, .unset] [(.int (0 : Int32))])) _
      refine XS.istoreN X102.here hx rfl (hb hby d9_38) rfl (l' := #[.val (.ref a1), .val (.double d1), .second, .val (.int (0 : Int32)), .unset]) rfl ?_
      show Steps p.tables e below (T102.setTop (mkF m 39 #[.val (.ref a1), .val (.double d1), .second, .val (.int (0 : Int32)), .unset] [])) _
      refine XS.aloadN X102.here hx rfl (hb hby d9_39) rfl rfl ?_
      show Steps p.tables e below (T102.setTop (mkF m 40 #[.val (.ref a1), .val (.double d1), .second, .val (.int (0 : Int32)), .unset] [(.ref a1)])) _
      refine st103 _ ?_
      show Steps p.tables e below (T103.setTop (mkF m 43 #[.val (.ref a1), .val (.double d1), .second, .val (.int (0 : Int32)), .unset] [(.int (1 : Int32))])) _
      refine XS.ifNo X103.here hx rfl (hb hby d9_43) rfl ((if0 _ _).trans (feq ((by decide) : ¬ ((1 : Int32) = (0 : Int32)))).1) ?_
      show Steps p.tables e below (T103.setTop (mkF m 46 #[.val (.ref a1), .val (.double d1), .second, .val (.int (0 : Int32)), .unset] [])) _
      refine XS.dloadN X103.here hx rfl (hb hby d9_46) rfl ?_
      show Steps p.tables e below (T103.setTop (mkF m 47 #[.val (.ref a1), .val (.double d1), .second, .val (.int (0 : Int32)), .unset] [(.double d1)])) _
      refine XS.aloadN X103.here hx rfl (hb hby d9_47) rfl rfl ?_
      show Steps p.tables e below (T103.setTop (mkF m 48 #[.val (.ref a1), .val (.double d1), .second, .val (.int (0 : Int32)), .unset] [(.ref a1), (.double d1)])) _
      refine st104 _ ?_
      show Steps p.tables e below (T104.setTop (mkF m 51 #[.val (.ref a1), .val (.double d1), .second, .val (.int (0 : Int32)), .unset] [(.double d3), (.double d1)])) _
      refine XS.dcmpS X104.here hx rfl (hb hby d9_51) rfl (v := (cmpValue (FP.dcmp d1 d3) .l)) rfl ?_
      show Steps p.tables e below (T104.setTop (mkF m 52 #[.val (.ref a1), .val (.double d1), .second, .val (.int (0 : Int32)), .unset] [(.int (cmpValue (FP.dcmp d1 d3) .l))])) _
      refine XS.ifYes X104.here hx rfl (pc0 := 52) (pc' := 59) rfl (hb hby d9_52) rfl ((if0 _ _).trans (flt (by rw [OwnFP.cv_lt hf.noNaN hx_ hhi]; decide : ¬ ((0 : Int32) < (cmpValue (FP.dcmp d1 d3) .l)))).2.2.2) (by decide) (by decide) ?_
      show Steps p.tables e below (T104.setTop (mkF m 59 #[.val (.ref a1), .val (.double d1), .second, .val (.int (0 : Int32)), .unset] [])) _
      refine XS.iconst X104.here hx rfl (hb hby d9_59) ?_
      show Steps p.tables e below (T104.setTop (mkF m 60 #[.val (.ref a1), .val (.double d1), .second, .val (.int (0 : Int32)), .unset] [(.int (0 : Int32))])) _
      refine XS.goto X104.here hx rfl (pc0 := 60) (pc' := 77) rfl (hb hby d9_60) (by decide) (by decide) ?_
      show Steps p.tables e below (T104.setTop (mkF m 77 #[.val (.ref a1), .val (.double d1), .second, .val (.int (0 : Int32)), .unset] [(.int (0 : Int32))])) _
      refine XS.istore X104.here hx rfl (hb hby d9_77) rfl (l' := #[.val (.ref a1), .val (.double d1), .second, .val (.int (0 : Int32)), .val (.int (0 : Int32))]) rfl ?_
      show Steps p.tables e below (T104.setTop (mkF m 79 #[.val (.ref a1), .val (.double d1), .second, .val (.int (0 : Int32)), .val (.int (0 : Int32))] [])) _
      refine XS.dloadN X104.here hx rfl (hb hby d9_79) rfl ?_
      show Steps p.tables e below (T104.setTop (mkF m 80 #[.val (.ref a1), .val (.double d1), .second, .val (.int (0 : Int32)), .val (.int (0 : Int32))] [(.double d1)])) _
      refine st105 _ ?_
      show Steps p.tables e below (T105.setTop (mkF m 83 #[.val (.ref a1), .val (.double d1), .second, .val (.int (0 : Int32)), .val (.int (0 : Int32))] [(.int (1 : Int32))])) _
      refine XS.ifNo X105.here hx rfl (hb hby d9_83) rfl ((if0 _ _).trans (feq ((by decide) : ¬ ((1 : Int32) = (0 : Int32)))).1) ?_
      show Steps p.tables e below (T105.setTop (mkF m 86 #[.val (.ref a1), .val (.double d1), .second, .val (.int (0 : Int32)), .val (.int (0 : Int32))] [])) _
      refine XS.iloadN X105.here hx rfl (hb hby d9_86) rfl ?_
      show Steps p.tables e below (T105.setTop (mkF m 87 #[.val (.ref a1), .val (.double d1), .second, .val (.int (0 : Int32)), .val (.int (0 : Int32))] [(.int (0 : Int32))])) _
      refine XS.ifNo X105.here hx rfl (hb hby d9_87) rfl ((if0 _ _).trans (teq ((by decide) : (0 : Int32) = (0 : Int32))).2) ?_
      show Steps p.tables e below (T105.setTop (mkF m 90 #[.val (.ref a1), .val (.double d1), .second, .val (.int (0 : Int32)), .val (.int (0 : Int32))] [])) _
      refine XS.iload X105.here hx rfl (hb hby d9_90) rfl ?_
      show Steps p.tables e below (T105.setTop (mkF m 92 #[.val (.ref a1), .val (.double d1), .second, .val (.int (0 : Int32)), .val (.int (0 : Int32))] [(.int (0 : Int32))])) _
      refine XS.ifYes X105.here hx rfl (pc0 := 92) (pc' := 120) rfl (hb hby d9_92) rfl ((if0 _ _).trans (teq ((by decide) : (0 : Int32) = (0 : Int32))).1) (by decide) (by decide) ?_
      exact kt)
  obtain ⟨fs, hr, hrun, hended, hW, hsame⟩ := X105.leave (v := none) (fun _ => rfl)
  refine ⟨_, _, pre106 _ ?_, hrun, hended, _, _, rfl, ?_, ⟨_, rfl⟩, hW, hsame.mono (by decide) (by decide)⟩
  · show Steps p.tables e below (T105.setTop (mkF m 120 #[.val (.ref a1), .val (.double d1), .second, .val (.int (0 : Int32)), .val (.int (0 : Int32))] [])) _
    exact X105.returnOut hx Bd.returns (hb hby d9_120) hr
  · show QPcheck Z a1 d1 d2 d3 h0 n0 _ T105.heap _
    rw [e105]
    exact ⟨rfl, N105, rfl⟩
theorem ef_0 (m : MethodId) (p1 : Int32) (p2 : Int32) (p3 : Int32) (p4 : Int32) (q1 : Int64) : entryFrame m #[(.int p1), (.int p2), (.int p3), (.int p4), (.long q1)] maxLocals = mkF m 0 #[.val (.int p1), .val (.int p2), .val (.int p3), .val (.int p4), .val (.long q1), .second, .unset, .unset, .unset, .unset, .unset, .unset, .unset, .unset, .unset] [] := by first | (simp [entryFrame, mkF, argsToLocals, Value.category, maxLocals]; done) | rfl
theorem pd__28_5bC_29V : parseMethodDescriptor "([C)V" = some ⟨[(.array .char)], none⟩ := by decide +kernel
theorem pd__28Ljava_2flang_2fString_3bDD_29Lcom_2fexample_2fheft_2fheft_2frank_2fParameter_3b : parseMethodDescriptor "(Ljava/lang/String;DD)Lcom/example/heft/heft/rank/Parameter;" = some ⟨[(.object "java/lang/String"), .double, .double], some (.object "com/example/heft/heft/rank/Parameter")⟩ := by decide +kernel
theorem pd__28D_29V : parseMethodDescriptor "(D)V" = some ⟨[.double], none⟩ := by decide +kernel
theorem pd__28_29Ljava_2flang_2fString_3b : parseMethodDescriptor "()Ljava/lang/String;" = some ⟨[], some (.object "java/lang/String")⟩ := by decide +kernel
theorem pd__28Ljava_2flang_2fObject_3b_29Z : parseMethodDescriptor "(Ljava/lang/Object;)Z" = some ⟨[(.object "java/lang/Object")], some .boolean⟩ := by decide +kernel
theorem pd__28_29D : parseMethodDescriptor "()D" = some ⟨[], some .double⟩ := by decide +kernel
theorem pn_com_example_heft_heft_rank_ParameterGreaterThanPinLaw : plainName "com/example/heft/heft/rank/ParameterGreaterThanPinLaw" = true := by first | (simp [plainName, overriddenIn]; done) | decide +kernel
def Q0 (Z : State) (p1 : Int32) (p2 : Int32) (p3 : Int32) (p4 : Int32) (q1 : Int64) (G1 : Int32) (h0 : Heap) (n0 : Nat) (v : Option Value) (h : Heap) (L : List Loc) : Prop := v = some (.int (1 : Int32)) ∧ Fr n0 L
set_option maxRecDepth 65536 in
set_option maxHeartbeats 40000000 in
theorem rm0 (l : Launch) (Z : State) (a0 : Array Value) (hw : ∀ d ∈ tables_1, d.before a0 Z = true) (ws : List Jvm.Cond) (p1 : Int32) (p2 : Int32) (p3 : Int32) (p4 : Int32) (q1 : Int64) (G1 : Int32) (h0 : Heap) (n0 : Nat) (Z0 : n0 ≤ h0.size) (O2 : Sta Z Z.heap "java/lang/String" "COMPACT_STRINGS" "Z" (.int G1)) (P5 : ¬ (G1 = (0 : Int32))) (P_O : Old Z n0 h0) :
    MetFree l x (head1 (Jvm.Cond.code x code maxLocals ret :: ws) room_1) (fun a U => a = #[(.int p1), (.int p2), (.int p3), (.int p4), (.long q1)] ∧ Z.Warmed39 U.vm ∧ U.heap = h0) (fun _ _ _ _ _ => True) (fun _ U o U' => ∃ v L, o = .returned v ∧ Q0 Z p1 p2 p3 p4 q1 G1 h0 n0 v U'.heap L ∧ FrameEnd U o U' L 16 128) := by
  refine MetFree.of_bodySF (plainFor_of_name pn_com_example_heft_heft_rank_ParameterGreaterThanPinLaw) hisR ?_
  intro p e s m args below meth c s₁ Bd hml0 hP hK
  obtain ⟨rfl, hZ, hh⟩ := hP
  have hx := Bd.exec
  have hby := Bd.bytes
  have hml : c.maxLocals = 15 := hml0
  have hown : s.vm.findClass "com/example/heft/heft/rank/ParameterGreaterThanPinLaw" = some m.cls := findClass_of_methodNamed Bd.named
  have hnm := (name_of_methodNamed Bd.named Bd.method).1
  have X0 : Stand p l e room_1 s m #[(.int p1), (.int p2), (.int p3), (.int p4), (.long q1)] below meth c s₁ [] 0 0 := Stand.of_body Bd
  have e0 : s₁.heap = h0 := by rw [← hh, Bd.state]; rfl
  have N0 := Fr.nil n0
  have pre0 : ∀ t, Steps p.tables e below (s₁.setTop (mkF m 0 #[.val (.int p1), .val (.int p2), .val (.int p3), .val (.int p4), .val (.long q1), .second, .unset, .unset, .unset, .unset, .unset, .unset, .unset, .unset, .unset] [])) t → Steps p.tables e below (s₁.setTop (entryFrame m #[(.int p1), (.int p2), (.int p3), (.int p4), (.long q1)] maxLocals)) t := fun t k => castTop (ef_0 m p1 p2 p3 p4 q1) k
  have hv := own_v p3 p4 q1
  obtain ⟨T101, h101, k101, X101, e101, E101, A101, st101⟩ := newP X0 hx hZ (hw _ (List.mem_of_getElem? (i := 0) rfl)) e0 (g := (mkF m 1 #[.val (.int p1), .val (.int p2), .val (.int p3), .val (.int p4), .val (.long q1), .second, .unset, .unset, .unset, .unset, .unset, .unset, .unset, .unset, .unset] [(.int (2 : Int32))])) rfl (hb hby at_1) rfl (by decide) (cap := 2) (by decide) (by decide) (by decide) (by decide)
  obtain ⟨b101, g101⟩ : ∃ z, z = h0.size := ⟨_, rfl⟩
  rw [← g101] at A101 st101
  have g_b101 : n0 ≤ b101 := Nat.le_trans Z0 (Nat.le_of_eq g101.symm)
  have z102 : n0 ≤ h101.size := Nat.le_trans Z0 E101.1
  have V101 : Arv Z h101 b101 k101 .char (2 : Int32) [(.int (0 : Int32)), (.int (0 : Int32))] (.int (0 : Int32)) := (Arv.new A101 (by decide)).pad (pad_rep [] (.int (0 : Int32)) 2)
  obtain ⟨cl103, Ar103, Q103, S103, M103, H103, G103⟩ := id V101
  have in104 : ¬ ((0 : Int32) < 0 ∨ cl103.slots.size ≤ ((0 : Int32)).toNatClampNeg) := inb_of S103 ⟨by decide, by decide⟩
  obtain ⟨T105, h105, X105, e105, W105, st105⟩ := stC X101 hx hZ e101 Ar103 (j := (0 : Int32)) in104 (g := (mkF m 11 #[.val (.int p1), .val (.int p2), .val (.int p3), .val (.int p4), .val (.long q1), .second, .unset, .unset, .unset, .unset, .unset, .unset, .unset, .unset, .unset] [(.int ((p1 &&& (255 : Int32)).toUInt32.toUInt16.toUInt32.toInt32)), (.int (0 : Int32)), (.ref b101), (.ref b101)])) rfl rfl (hb hby at_11)
  have z106 : n0 ≤ h105.size := Nat.le_trans z102 (Keep.of_wr W105).1
  have V105 : Arv Z h105 b101 k101 .char (2 : Int32) [(.int (nar .char ((p1 &&& (255 : Int32)).toUInt32.toUInt16.toUInt32.toInt32))), (.int (0 : Int32))] (.int (0 : Int32)) := Arv.set Ar103 Q103 S103 M103 H103 G103 (fits_nar_char _) W105 0 rfl (Nat.le_of_ble_eq_true rfl)
  have N105 : Fr n0 _ := Fr.snoc X105 N0 g_b101
  obtain ⟨cl107, Ar107, Q107, S107, M107, H107, G107⟩ := id V105
  have in108 : ¬ ((1 : Int32) < 0 ∨ cl107.slots.size ≤ ((1 : Int32)).toNatClampNeg) := inb_of S107 ⟨by decide, by decide⟩
  obtain ⟨T109, h109, X109, e109, W109, st109⟩ := stC X105 hx hZ e105 Ar107 (j := (1 : Int32)) in108 (g := (mkF m 23 #[.val (.int p1), .val (.int p2), .val (.int p3), .val (.int p4), .val (.long q1), .second, .unset, .unset, .unset, .unset, .unset, .unset, .unset, .unset, .unset] [(.int ((((p1.toUInt32 >>> ((8 : Int32) &&& 31).toUInt32).toInt32) &&& (255 : Int32)).toUInt32.toUInt16.toUInt32.toInt32)), (.int (1 : Int32)), (.ref b101), (.ref b101)])) rfl rfl (hb hby at_23)
  have z110 : n0 ≤ h109.size := Nat.le_trans z106 (Keep.of_wr W109).1
  have V109 : Arv Z h109 b101 k101 .char (2 : Int32) [(.int (nar .char ((p1 &&& (255 : Int32)).toUInt32.toUInt16.toUInt32.toInt32))), (.int (nar .char ((((p1.toUInt32 >>> ((8 : Int32) &&& 31).toUInt32).toInt32) &&& (255 : Int32)).toUInt32.toUInt16.toUInt32.toInt32)))] (.int (0 : Int32)) := Arv.set Ar107 Q107 S107 M107 H107 G107 (fits_nar_char _) W109 1 rfl (Nat.le_of_ble_eq_true rfl)
  have N109 : Fr n0 _ := Fr.snoc X109 N105 g_b101
  obtain ⟨T111, h111, X111, e111, E111, A111, D111, -, st111⟩ := newO X109 hx hZ hown (hw _ (List.mem_of_getElem? (i := 1) rfl)) (hw _ (List.mem_of_getElem? (i := 2) rfl)) (hw _ (List.mem_of_getElem? (i := 3) rfl)) e109 (g := (mkF m 26 #[.val (.int p1), .val (.int p2), .val (.int p3), .val (.int p4), .val (.long q1), .second, .val (.ref b101), .unset, .unset, .unset, .unset, .unset, .unset, .unset, .unset] [])) rfl (hb hby at_26) (by decide) (by decide)
  obtain ⟨b111, g111⟩ : ∃ z, z = h109.size := ⟨_, rfl⟩
  rw [← g111] at A111 D111 st111
  have ne112 : b101 ≠ b111 := Nat.ne_of_lt (Nat.lt_of_lt_of_le V109.lt (Nat.le_of_eq g111.symm))
  have g_b111 : n0 ≤ b111 := Nat.le_trans z110 (Nat.le_of_eq g111.symm)
  have z113 : n0 ≤ h111.size := Nat.le_trans z110 E111.1
  have F111_27 : Fld Z h111 b111 "java/lang/String" "coder" "B" (.int (0 : Int32)) := D111 (Or.inr (hw _ (List.mem_of_getElem? (i := 27) rfl))) (ty := .byte) (by decide)
  have F111_29 : Fld Z h111 b111 "java/lang/String" "value" "[B" .null := D111 (Or.inr (hw _ (List.mem_of_getElem? (i := 29) rfl))) (ty := (.array .byte)) (by decide)
  have f114 : Arv Z h111 b101 k101 .char (2 : Int32) [(.int (nar .char ((p1 &&& (255 : Int32)).toUInt32.toUInt16.toUInt32.toInt32))), (.int (nar .char ((((p1.toUInt32 >>> ((8 : Int32) &&& 31).toUInt32).toInt32) &&& (255 : Int32)).toUInt32.toUInt16.toUInt32.toInt32)))] (.int (0 : Int32)) := (V109.ext E111)
  have f115 : Old Z n0 h111 := ((((P_O.ext E101).wr W105 g_b101).wr W109 g_b101).ext E111)
  have hws116 : ∀ d ∈ StrChars.Road.words, d.before a0 Z = true := fun d hd => hw d ((by decide +kernel : ∀ d ∈ StrChars.Road.words, d ∈ tables_1) d hd)
  have hp116 : ∀ c ∈ ([(nar .char ((p1 &&& (255 : Int32)).toUInt32.toUInt16.toUInt32.toInt32)), (nar .char ((((p1.toUInt32 >>> ((8 : Int32) &&& 31).toUInt32).toInt32) &&& (255 : Int32)).toUInt32.toUInt16.toUInt32.toInt32))] : List Int32), ¬ c < 0 ∧ ¬ (255 : Int32) < c := by
    intro c hc
    simp only [List.mem_cons, List.not_mem_nil, or_false] at hc
    rcases hc with rfl | rfl
    · exact own_and255 _
    · exact own_and255 _
  obtain ⟨_, _, ⟨T116, L116, kk116, nn116⟩, -, X116, ⟨Lc116, hQ116, l116, y116, z116⟩, st116⟩ := X111.specialBack hx (y := (⟨"java/lang/String", "<init>", "([C)V"⟩ : MethodName)) rfl hown (mvT hZ (hw _ (List.mem_of_getElem? (i := 4) rfl))) (mvT hZ (hw _ (List.mem_of_getElem? (i := 5) rfl))) (mvT hZ (hw _ (List.mem_of_getElem? (i := 6) rfl))) (by decide) (StrChars.Road.backV (W := 1) hZ hws116 (kI := 4) (hw _ (List.mem_of_getElem? (i := 2) rfl)) (cs := ([(nar .char ((p1 &&& (255 : Int32)).toUInt32.toUInt16.toUInt32.toInt32)), (nar .char ((((p1.toUInt32 >>> ((8 : Int32) &&& 31).toUInt32).toInt32) &&& (255 : Int32)).toUInt32.toUInt16.toUInt32.toInt32))] : List Int32)) (bs := ([(nar .char ((p1 &&& (255 : Int32)).toUInt32.toUInt16.toUInt32.toInt32)), (nar .char ((((p1.toUInt32 >>> ((8 : Int32) &&& 31).toUInt32).toInt32) &&& (255 : Int32)).toUInt32.toUInt16.toUInt32.toInt32))] : List Int32).map (fun c => c.toInt8.toInt32)) (n := 2) g_b111 z113 A111 F111_29 F111_27 f114 (O2.ext f115.2) P5 rfl rfl (by decide) (by decide) hp116 rfl (by decide) (by decide)) (g := (mkF m 32 #[.val (.int p1), .val (.int p2), .val (.int p3), .val (.int p4), .val (.long q1), .second, .val (.ref b101), .unset, .unset, .unset, .unset, .unset, .unset, .unset, .unset] [(.ref b101), (.ref b111), (.ref b111)])) rfl (by rw [hml]; rfl) (Steps.refl _) (a := b111) (argsL := [(.ref b101)]) (rest := [(.ref b111)]) (lenOf pd__28_5bC_29V rfl) rfl (by show 2 * 0 + _ ≤ _; exact Nat.le_of_eq rfl) (hb hby at_32) (fun _ _ => ⟨rfl, e111, (by decide : 2 + 1 ≤ _), (by decide : 6 + 2 ≤ _)⟩)
  dsimp only [Pt.U, Pt.locs, Pt.cells, Pt.slots] at X116 l116 y116 z116 st116 hQ116
  subst l116 y116 z116
  obtain ⟨rfl, N116q, K116, Ex116, Fc116, b116, kb116, g_b116, sz116, ne116, Fv116, Va116⟩ := hQ116
  have N116 := Fr.app N109 N116q
  have ne117 : b101 ≠ b116 := Nat.ne_of_lt (Nat.lt_of_lt_of_le f114.lt sz116)
  have ne118 : b111 ≠ b116 := Nat.ne_of_lt (Nat.lt_of_lt_of_le A111.lt sz116)
  have z119 : n0 ≤ T116.heap.size := Nat.le_trans z113 K116.1
  obtain ⟨_, _, ⟨T120, L120, kk120, nn120⟩, -, X120, ⟨Lc120, hQ120, l120, y120, z120⟩, st120⟩ := Jvm.LawKit.callS X116 hx (y := (⟨"com/example/heft/heft/rank/Parameter", "greaterThan", "(Ljava/lang/String;DD)Lcom/example/heft/heft/rank/Parameter;"⟩ : MethodName)) hown (mvT hZ (hw _ (List.mem_of_getElem? (i := 30) rfl))) (mvT hZ (hw _ (List.mem_of_getElem? (i := 31) rfl))) (mvT hZ (hw _ (List.mem_of_getElem? (i := 32) rfl))) (mvT hZ (hw _ (List.mem_of_getElem? (i := 33) rfl))) (by decide) (backOf (W := 0) (rmPmake l Z a0 hw [] b111 (FP.i2d p2) (FP.i2d p3) T116.heap n0 z119 ) hZ (hw _ (List.mem_of_getElem? (i := 33) rfl)) (hw _ (List.mem_of_getElem? (i := 32) rfl)) (by decide) (by decide)) (g := (mkF m 51 #[.val (.int p1), .val (.int p2), .val (.int p3), .val (.int p4), .val (.long q1), .second, .val (.ref b101), .val (.ref b111), .val (.double (FP.i2d p2)), .second, .val (.double (FP.i2d p3)), .second, .unset, .unset, .unset] [(.double (FP.i2d p3)), (.double (FP.i2d p2)), (.ref b111)])) rfl (by rw [hml]; rfl) (argsL := [(.ref b111), (.double (FP.i2d p2)), (.double (FP.i2d p3))]) (rest := []) (lenOf pd__28Ljava_2flang_2fString_3bDD_29Lcom_2fexample_2fheft_2fheft_2frank_2fParameter_3b rfl) rfl (by show 2 * 0 + _ ≤ _; exact Nat.le_of_eq rfl) (hb hby at_51) (fun _ _ => ⟨rfl, rfl, (by decide : 3 + 1 ≤ _), (by decide : 8 + 6 ≤ _)⟩)
  dsimp only [Pt.U, Pt.locs, Pt.cells, Pt.slots] at X120 l120 y120 z120 st120 hQ120
  subst l120 y120 z120
  obtain ⟨b_120, rfl, N120q, K120, x120_0, x120_1, x120_2, x120_3, x120_4, x120_5, x120_6, x120_7⟩ := hQ120
  have N120 := Fr.app N116 N120q
  have f121 : Arv Z T116.heap b101 k101 .char (2 : Int32) [(.int (nar .char ((p1 &&& (255 : Int32)).toUInt32.toUInt16.toUInt32.toInt32))), (.int (nar .char ((((p1.toUInt32 >>> ((8 : Int32) &&& 31).toUInt32).toInt32) &&& (255 : Int32)).toUInt32.toUInt16.toUInt32.toInt32)))] (.int (0 : Int32)) := (f114.keep K116 (own_nmc ne112 own_nm0))
  have ne122 : b101 ≠ b_120 := Nat.ne_of_lt (Nat.lt_of_lt_of_le f121.lt x120_0)
  have ne123 : b111 ≠ b_120 := Nat.ne_of_lt (Nat.lt_of_lt_of_le Ex116.lt x120_0)
  have ne124 : b116 ≠ b_120 := Nat.ne_of_lt (Nat.lt_of_lt_of_le Va116.lt x120_0)
  have g_b_120 : n0 ≤ b_120 := Nat.le_trans z119 x120_0
  have z125 : n0 ≤ T120.heap.size := Nat.le_trans z119 K120.1
  obtain ⟨cq126, kq126, q126a, q126b, q126c⟩ := isOf hZ rfl x120_1
  obtain ⟨_, _, ⟨T126, L126, kk126, nn126⟩, -, X126, ⟨Lc126, hQ126, l126, y126, z126⟩, st126⟩ := X120.virtualBack hx (y := (⟨"com/example/heft/heft/rank/Parameter", "check", "(D)V"⟩ : MethodName)) (z := (⟨"com/example/heft/heft/rank/Parameter", "check", "(D)V"⟩ : MethodName)) hown (mvT hZ (hw _ (List.mem_of_getElem? (i := 55) rfl))) (mvT hZ (hw _ (List.mem_of_getElem? (i := 56) rfl))) (notFace_of_selects (args := #[]) (mvT hZ (hw _ (List.mem_of_getElem? (i := 58) rfl)))) (mvT hZ (hw _ (List.mem_of_getElem? (i := 58) rfl))) (mvT hZ (hw _ (List.mem_of_getElem? (i := 57) rfl))) (by decide) (backOf (W := 0) (rmPcheck l Z a0 hw [] b_120 (FP.dadd (FP.dadd (FP.i2d p3) (FP.ddiv (FP.i2d ((p4 &&& (255 : Int32)) + (1 : Int32))) (4643211215818981376 : UInt64))) (FP.l2d (q1 &&& (4611686018427387903 : Int64)))) (FP.i2d p3) (9218868437227405312 : UInt64) T120.heap n0 z125 x120_4 x120_5 x120_6 x120_7 (hv.1) (Fl.i2d_fin _) (hv.2) (own_inf) (own_ltinf hv.1)) hZ (hw _ (List.mem_of_getElem? (i := 59) rfl)) (hw _ (List.mem_of_getElem? (i := 32) rfl)) (by decide) (by decide)) q126a q126c (g := (mkF m 85 #[.val (.int p1), .val (.int p2), .val (.int p3), .val (.int p4), .val (.long q1), .second, .val (.ref b101), .val (.ref b111), .val (.double (FP.i2d p2)), .second, .val (.double (FP.i2d p3)), .second, .val (.ref b_120), .val (.double (FP.dadd (FP.dadd (FP.i2d p3) (FP.ddiv (FP.i2d ((p4 &&& (255 : Int32)) + (1 : Int32))) (4643211215818981376 : UInt64))) (FP.l2d (q1 &&& (4611686018427387903 : Int64))))), .second] [(.double (FP.dadd (FP.dadd (FP.i2d p3) (FP.ddiv (FP.i2d ((p4 &&& (255 : Int32)) + (1 : Int32))) (4643211215818981376 : UInt64))) (FP.l2d (q1 &&& (4611686018427387903 : Int64))))), (.ref b_120)])) rfl (by rw [hml]; rfl) (Steps.refl _) (argsL := [(.double (FP.dadd (FP.dadd (FP.i2d p3) (FP.ddiv (FP.i2d ((p4 &&& (255 : Int32)) + (1 : Int32))) (4643211215818981376 : UInt64))) (FP.l2d (q1 &&& (4611686018427387903 : Int64)))))]) (rest := []) (lenOf pd__28D_29V rfl) rfl (by show 2 * 0 + _ ≤ _; exact Nat.le_of_eq rfl) (hb hby at_85) (fun _ _ => ⟨rfl, rfl, (by decide : 4 + 0 ≤ _), (by decide : 14 + 0 ≤ _)⟩)
  dsimp only [Pt.U, Pt.locs, Pt.cells, Pt.slots] at X126 l126 y126 z126 st126 hQ126
  subst l126 y126 z126
  obtain ⟨rfl, N126q, e126⟩ := hQ126
  have N126 := Fr.app N120 N126q
  obtain ⟨cq127, kq127, q127a, q127b, q127c⟩ := isOf hZ e126 x120_1
  obtain ⟨_, _, ⟨T127, L127, kk127, nn127⟩, -, X127, ⟨Lc127, hQ127, l127, y127, z127⟩, st127⟩ := X126.virtualBack hx (y := (⟨"com/example/heft/heft/rank/Parameter", "name", "()Ljava/lang/String;"⟩ : MethodName)) (z := (⟨"com/example/heft/heft/rank/Parameter", "name", "()Ljava/lang/String;"⟩ : MethodName)) hown (mvT hZ (hw _ (List.mem_of_getElem? (i := 69) rfl))) (mvT hZ (hw _ (List.mem_of_getElem? (i := 70) rfl))) (notFace_of_selects (args := #[]) (mvT hZ (hw _ (List.mem_of_getElem? (i := 72) rfl)))) (mvT hZ (hw _ (List.mem_of_getElem? (i := 72) rfl))) (mvT hZ (hw _ (List.mem_of_getElem? (i := 71) rfl))) (by decide) (backOf (W := 1) (rmPname l Z a0 hw [] b_120 b111 T120.heap n0 z125 x120_2) hZ (hw _ (List.mem_of_getElem? (i := 73) rfl)) (hw _ (List.mem_of_getElem? (i := 32) rfl)) (by decide) (by decide)) q127a q127c (g := (mkF m 92 #[.val (.int p1), .val (.int p2), .val (.int p3), .val (.int p4), .val (.long q1), .second, .val (.ref b101), .val (.ref b111), .val (.double (FP.i2d p2)), .second, .val (.double (FP.i2d p3)), .second, .val (.ref b_120), .val (.double (FP.dadd (FP.dadd (FP.i2d p3) (FP.ddiv (FP.i2d ((p4 &&& (255 : Int32)) + (1 : Int32))) (4643211215818981376 : UInt64))) (FP.l2d (q1 &&& (4611686018427387903 : Int64))))), .second] [(.ref b_120), (.ref b111)])) rfl (by rw [hml]; rfl) (Steps.refl _) (argsL := []) (rest := [(.ref b111)]) (lenOf pd__28_29Ljava_2flang_2fString_3b rfl) rfl (by show 2 * 0 + _ ≤ _; exact Nat.le_of_eq rfl) (hb hby at_92) (fun _ _ => ⟨rfl, e126, (by decide : 4 + 0 ≤ _), (by decide : 14 + 0 ≤ _)⟩)
  dsimp only [Pt.U, Pt.locs, Pt.cells, Pt.slots] at X127 l127 y127 z127 st127 hQ127
  subst l127 y127 z127
  obtain ⟨rfl, N127q, e127⟩ := hQ127
  have N127 := Fr.app N126 N127q
  have f129 : Exa Z T120.heap b111 "java/lang/String" := (Ex116.keep K120)
  obtain ⟨cq128, kq128, q128a, q128b, q128c⟩ := isOf hZ e127 f129
  obtain ⟨_, _, ⟨T128, L128, kk128, nn128⟩, -, X128, ⟨Lc128, hQ128, l128, y128, z128⟩, st128⟩ := X127.virtualBack hx (y := (⟨"java/lang/String", "equals", "(Ljava/lang/Object;)Z"⟩ : MethodName)) (z := (⟨"java/lang/String", "equals", "(Ljava/lang/Object;)Z"⟩ : MethodName)) hown (mvT hZ (hw _ (List.mem_of_getElem? (i := 74) rfl))) (mvT hZ (hw _ (List.mem_of_getElem? (i := 75) rfl))) (notFace_of_selects (args := #[]) (mvT hZ (hw _ (List.mem_of_getElem? (i := 77) rfl)))) (mvT hZ (hw _ (List.mem_of_getElem? (i := 77) rfl))) (mvT hZ (hw _ (List.mem_of_getElem? (i := 76) rfl))) (by decide) (backOf (W := 0) (rmSeq l Z a0 hw [] b111 T120.heap n0 z125 ) hZ (hw _ (List.mem_of_getElem? (i := 78) rfl)) (hw _ (List.mem_of_getElem? (i := 3) rfl)) (by decide) (by decide)) q128a q128c (g := (mkF m 95 #[.val (.int p1), .val (.int p2), .val (.int p3), .val (.int p4), .val (.long q1), .second, .val (.ref b101), .val (.ref b111), .val (.double (FP.i2d p2)), .second, .val (.double (FP.i2d p3)), .second, .val (.ref b_120), .val (.double (FP.dadd (FP.dadd (FP.i2d p3) (FP.ddiv (FP.i2d ((p4 &&& (255 : Int32)) + (1 : Int32))) (4643211215818981376 : UInt64))) (FP.l2d (q1 &&& (4611686018427387903 : Int64))))), .second] [(.ref b111), (.ref b111)])) rfl (by rw [hml]; rfl) (Steps.refl _) (argsL := [(.ref b111)]) (rest := []) (lenOf pd__28Ljava_2flang_2fObject_3b_29Z rfl) rfl (by show 2 * 0 + _ ≤ _; exact Nat.le_of_eq rfl) (hb hby at_95) (fun _ _ => ⟨rfl, e127, (by decide : 4 + 0 ≤ _), (by decide : 14 + 0 ≤ _)⟩)
  dsimp only [Pt.U, Pt.locs, Pt.cells, Pt.slots] at X128 l128 y128 z128 st128 hQ128
  subst l128 y128 z128
  obtain ⟨rfl, N128q, e128⟩ := hQ128
  have N128 := Fr.app N127 N128q
  obtain ⟨cq130, kq130, q130a, q130b, q130c⟩ := isOf hZ e128 x120_1
  obtain ⟨_, _, ⟨T130, L130, kk130, nn130⟩, -, X130, ⟨Lc130, hQ130, l130, y130, z130⟩, st130⟩ := X128.virtualBack hx (y := (⟨"com/example/heft/heft/rank/Parameter", "defaultValue", "()D"⟩ : MethodName)) (z := (⟨"com/example/heft/heft/rank/Parameter", "defaultValue", "()D"⟩ : MethodName)) hown (mvT hZ (hw _ (List.mem_of_getElem? (i := 79) rfl))) (mvT hZ (hw _ (List.mem_of_getElem? (i := 80) rfl))) (notFace_of_selects (args := #[]) (mvT hZ (hw _ (List.mem_of_getElem? (i := 82) rfl)))) (mvT hZ (hw _ (List.mem_of_getElem? (i := 82) rfl))) (mvT hZ (hw _ (List.mem_of_getElem? (i := 81) rfl))) (by decide) (backOf (W := 0) (rmPdv l Z a0 hw [] b_120 (FP.i2d p2) T120.heap n0 z125 x120_3) hZ (hw _ (List.mem_of_getElem? (i := 83) rfl)) (hw _ (List.mem_of_getElem? (i := 32) rfl)) (by decide) (by decide)) q130a q130c (g := (mkF m 103 #[.val (.int p1), .val (.int p2), .val (.int p3), .val (.int p4), .val (.long q1), .second, .val (.ref b101), .val (.ref b111), .val (.double (FP.i2d p2)), .second, .val (.double (FP.i2d p3)), .second, .val (.ref b_120), .val (.double (FP.dadd (FP.dadd (FP.i2d p3) (FP.ddiv (FP.i2d ((p4 &&& (255 : Int32)) + (1 : Int32))) (4643211215818981376 : UInt64))) (FP.l2d (q1 &&& (4611686018427387903 : Int64))))), .second] [(.ref b_120)])) rfl (by rw [hml]; rfl) (Steps.refl _) (argsL := []) (rest := []) (lenOf pd__28_29D rfl) rfl (by show 2 * 0 + _ ≤ _; exact Nat.le_of_eq rfl) (hb hby at_103) (fun _ _ => ⟨rfl, e128, (by decide : 4 + 0 ≤ _), (by decide : 14 + 0 ≤ _)⟩)
  dsimp only [Pt.U, Pt.locs, Pt.cells, Pt.slots] at X130 l130 y130 z130 st130 hQ130
  subst l130 y130 z130
  obtain ⟨rfl, N130q, e130⟩ := hQ130
  have N130 := Fr.app N128 N130q
  have pre131 : ∀ t, Steps p.tables e below (T130.setTop (mkF m 117 #[.val (.int p1), .val (.int p2), .val (.int p3), .val (.int p4), .val (.long q1), .second, .val (.ref b101), .val (.ref b111), .val (.double (FP.i2d p2)), .second, .val (.double (FP.i2d p3)), .second, .val (.ref b_120), .val (.double (FP.dadd (FP.dadd (FP.i2d p3) (FP.ddiv (FP.i2d ((p4 &&& (255 : Int32)) + (1 : Int32))) (4643211215818981376 : UInt64))) (FP.l2d (q1 &&& (4611686018427387903 : Int64))))), .second] [(.int (1 : Int32))])) t → Steps p.tables e below (s₁.setTop (entryFrame m #[(.int p1), (.int p2), (.int p3), (.int p4), (.long q1)] maxLocals)) t := fun t kt => pre0 t (by
      show Steps p.tables e below (s₁.setTop (mkF m 0 #[.val (.int p1), .val (.int p2), .val (.int p3), .val (.int p4), .val (.long q1), .second, .unset, .unset, .unset, .unset, .unset, .unset, .unset, .unset, .unset] [])) _
      refine XS.iconst X0.here hx rfl (hb hby at_0) ?_
      show Steps p.tables e below (s₁.setTop (mkF m 1 #[.val (.int p1), .val (.int p2), .val (.int p3), .val (.int p4), .val (.long q1), .second, .unset, .unset, .unset, .unset, .unset, .unset, .unset, .unset, .unset] [(.int (2 : Int32))])) _
      refine st101 _ ?_
      show Steps p.tables e below (T101.setTop (mkF m 3 #[.val (.int p1), .val (.int p2), .val (.int p3), .val (.int p4), .val (.long q1), .second, .unset, .unset, .unset, .unset, .unset, .unset, .unset, .unset, .unset] [(.ref b101)])) _
      refine XS.dup X101.here hx rfl (hb hby at_3) rfl rfl ?_
      show Steps p.tables e below (T101.setTop (mkF m 4 #[.val (.int p1), .val (.int p2), .val (.int p3), .val (.int p4), .val (.long q1), .second, .unset, .unset, .unset, .unset, .unset, .unset, .unset, .unset, .unset] [(.ref b101), (.ref b101)])) _
      refine XS.iconst X101.here hx rfl (hb hby at_4) ?_
      show Steps p.tables e below (T101.setTop (mkF m 5 #[.val (.int p1), .val (.int p2), .val (.int p3), .val (.int p4), .val (.long q1), .second, .unset, .unset, .unset, .unset, .unset, .unset, .unset, .unset, .unset] [(.int (0 : Int32)), (.ref b101), (.ref b101)])) _
      refine XS.iloadN X101.here hx rfl (hb hby at_5) rfl ?_
      show Steps p.tables e below (T101.setTop (mkF m 6 #[.val (.int p1), .val (.int p2), .val (.int p3), .val (.int p4), .val (.long q1), .second, .unset, .unset, .unset, .unset, .unset, .unset, .unset, .unset, .unset] [(.int p1), (.int (0 : Int32)), (.ref b101), (.ref b101)])) _
      refine XS.sipush X101.here hx rfl (hb hby at_6) ?_
      show Steps p.tables e below (T101.setTop (mkF m 9 #[.val (.int p1), .val (.int p2), .val (.int p3), .val (.int p4), .val (.long q1), .second, .unset, .unset, .unset, .unset, .unset, .unset, .unset, .unset, .unset] [(.int (255 : Int32)), (.int p1), (.int (0 : Int32)), (.ref b101), (.ref b101)])) _
      refine XS.iand X101.here hx rfl (hb hby at_9) rfl ?_
      show Steps p.tables e below (T101.setTop (mkF m 10 #[.val (.int p1), .val (.int p2), .val (.int p3), .val (.int p4), .val (.long q1), .second, .unset, .unset, .unset, .unset, .unset, .unset, .unset, .unset, .unset] [(.int (p1 &&& (255 : Int32))), (.int (0 : Int32)), (.ref b101), (.ref b101)])) _
      refine XS.i2c X101.here hx rfl (hb hby at_10) rfl ?_
      show Steps p.tables e below (T101.setTop (mkF m 11 #[.val (.int p1), .val (.int p2), .val (.int p3), .val (.int p4), .val (.long q1), .second, .unset, .unset, .unset, .unset, .unset, .unset, .unset, .unset, .unset] [(.int ((p1 &&& (255 : Int32)).toUInt32.toUInt16.toUInt32.toInt32)), (.int (0 : Int32)), (.ref b101), (.ref b101)])) _
      refine st105 _ ?_
      show Steps p.tables e below (T105.setTop (mkF m 12 #[.val (.int p1), .val (.int p2), .val (.int p3), .val (.int p4), .val (.long q1), .second, .unset, .unset, .unset, .unset, .unset, .unset, .unset, .unset, .unset] [(.ref b101)])) _
      refine XS.dup X105.here hx rfl (hb hby at_12) rfl rfl ?_
      show Steps p.tables e below (T105.setTop (mkF m 13 #[.val (.int p1), .val (.int p2), .val (.int p3), .val (.int p4), .val (.long q1), .second, .unset, .unset, .unset, .unset, .unset, .unset, .unset, .unset, .unset] [(.ref b101), (.ref b101)])) _
      refine XS.iconst X105.here hx rfl (hb hby at_13) ?_
      show Steps p.tables e below (T105.setTop (mkF m 14 #[.val (.int p1), .val (.int p2), .val (.int p3), .val (.int p4), .val (.long q1), .second, .unset, .unset, .unset, .unset, .unset, .unset, .unset, .unset, .unset] [(.int (1 : Int32)), (.ref b101), (.ref b101)])) _
      refine XS.iloadN X105.here hx rfl (hb hby at_14) rfl ?_
      show Steps p.tables e below (T105.setTop (mkF m 15 #[.val (.int p1), .val (.int p2), .val (.int p3), .val (.int p4), .val (.long q1), .second, .unset, .unset, .unset, .unset, .unset, .unset, .unset, .unset, .unset] [(.int p1), (.int (1 : Int32)), (.ref b101), (.ref b101)])) _
      refine XS.bipush X105.here hx rfl (hb hby at_15) ?_
      show Steps p.tables e below (T105.setTop (mkF m 17 #[.val (.int p1), .val (.int p2), .val (.int p3), .val (.int p4), .val (.long q1), .second, .unset, .unset, .unset, .unset, .unset, .unset, .unset, .unset, .unset] [(.int (8 : Int32)), (.int p1), (.int (1 : Int32)), (.ref b101), (.ref b101)])) _
      refine XS.iushr X105.here hx rfl (hb hby at_17) rfl ?_
      show Steps p.tables e below (T105.setTop (mkF m 18 #[.val (.int p1), .val (.int p2), .val (.int p3), .val (.int p4), .val (.long q1), .second, .unset, .unset, .unset, .unset, .unset, .unset, .unset, .unset, .unset] [(.int ((p1.toUInt32 >>> ((8 : Int32) &&& 31).toUInt32).toInt32)), (.int (1 : Int32)), (.ref b101), (.ref b101)])) _
      refine XS.sipush X105.here hx rfl (hb hby at_18) ?_
      show Steps p.tables e below (T105.setTop (mkF m 21 #[.val (.int p1), .val (.int p2), .val (.int p3), .val (.int p4), .val (.long q1), .second, .unset, .unset, .unset, .unset, .unset, .unset, .unset, .unset, .unset] [(.int (255 : Int32)), (.int ((p1.toUInt32 >>> ((8 : Int32) &&& 31).toUInt32).toInt32)), (.int (1 : Int32)), (.ref b101), (.ref b101)])) _
      refine XS.iand X105.here hx rfl (hb hby at_21) rfl ?_
      show Steps p.tables e below (T105.setTop (mkF m 22 #[.val (.int p1), .val (.int p2), .val (.int p3), .val (.int p4), .val (.long q1), .second, .unset, .unset, .unset, .unset, .unset, .unset, .unset, .unset, .unset] [(.int (((p1.toUInt32 >>> ((8 : Int32) &&& 31).toUInt32).toInt32) &&& (255 : Int32))), (.int (1 : Int32)), (.ref b101), (.ref b101)])) _
      refine XS.i2c X105.here hx rfl (hb hby at_22) rfl ?_
      show Steps p.tables e below (T105.setTop (mkF m 23 #[.val (.int p1), .val (.int p2), .val (.int p3), .val (.int p4), .val (.long q1), .second, .unset, .unset, .unset, .unset, .unset, .unset, .unset, .unset, .unset] [(.int ((((p1.toUInt32 >>> ((8 : Int32) &&& 31).toUInt32).toInt32) &&& (255 : Int32)).toUInt32.toUInt16.toUInt32.toInt32)), (.int (1 : Int32)), (.ref b101), (.ref b101)])) _
      refine st109 _ ?_
      show Steps p.tables e below (T109.setTop (mkF m 24 #[.val (.int p1), .val (.int p2), .val (.int p3), .val (.int p4), .val (.long q1), .second, .unset, .unset, .unset, .unset, .unset, .unset, .unset, .unset, .unset] [(.ref b101)])) _
      refine XS.astore X109.here hx rfl (hb hby at_24) rfl rfl (l' := #[.val (.int p1), .val (.int p2), .val (.int p3), .val (.int p4), .val (.long q1), .second, .val (.ref b101), .unset, .unset, .unset, .unset, .unset, .unset, .unset, .unset]) rfl ?_
      show Steps p.tables e below (T109.setTop (mkF m 26 #[.val (.int p1), .val (.int p2), .val (.int p3), .val (.int p4), .val (.long q1), .second, .val (.ref b101), .unset, .unset, .unset, .unset, .unset, .unset, .unset, .unset] [])) _
      refine st111 _ ?_
      show Steps p.tables e below (T111.setTop (mkF m 29 #[.val (.int p1), .val (.int p2), .val (.int p3), .val (.int p4), .val (.long q1), .second, .val (.ref b101), .unset, .unset, .unset, .unset, .unset, .unset, .unset, .unset] [(.ref b111)])) _
      refine XS.dup X111.here hx rfl (hb hby at_29) rfl rfl ?_
      show Steps p.tables e below (T111.setTop (mkF m 30 #[.val (.int p1), .val (.int p2), .val (.int p3), .val (.int p4), .val (.long q1), .second, .val (.ref b101), .unset, .unset, .unset, .unset, .unset, .unset, .unset, .unset] [(.ref b111), (.ref b111)])) _
      refine XS.aload X111.here hx rfl (hb hby at_30) rfl rfl ?_
      show Steps p.tables e below (T111.setTop (mkF m 32 #[.val (.int p1), .val (.int p2), .val (.int p3), .val (.int p4), .val (.long q1), .second, .val (.ref b101), .unset, .unset, .unset, .unset, .unset, .unset, .unset, .unset] [(.ref b101), (.ref b111), (.ref b111)])) _
      refine st116.trans ?_
      show Steps p.tables e below (T116.setTop (mkF m 35 #[.val (.int p1), .val (.int p2), .val (.int p3), .val (.int p4), .val (.long q1), .second, .val (.ref b101), .unset, .unset, .unset, .unset, .unset, .unset, .unset, .unset] [(.ref b111)])) _
      refine XS.astore X116.here hx rfl (hb hby at_35) rfl rfl (l' := #[.val (.int p1), .val (.int p2), .val (.int p3), .val (.int p4), .val (.long q1), .second, .val (.ref b101), .val (.ref b111), .unset, .unset, .unset, .unset, .unset, .unset, .unset]) rfl ?_
      show Steps p.tables e below (T116.setTop (mkF m 37 #[.val (.int p1), .val (.int p2), .val (.int p3), .val (.int p4), .val (.long q1), .second, .val (.ref b101), .val (.ref b111), .unset, .unset, .unset, .unset, .unset, .unset, .unset] [])) _
      refine XS.iloadN X116.here hx rfl (hb hby at_37) rfl ?_
      show Steps p.tables e below (T116.setTop (mkF m 38 #[.val (.int p1), .val (.int p2), .val (.int p3), .val (.int p4), .val (.long q1), .second, .val (.ref b101), .val (.ref b111), .unset, .unset, .unset, .unset, .unset, .unset, .unset] [(.int p2)])) _
      refine XS.i2dS X116.here hx rfl (hb hby at_38) rfl (v := (FP.i2d p2)) rfl ?_
      show Steps p.tables e below (T116.setTop (mkF m 39 #[.val (.int p1), .val (.int p2), .val (.int p3), .val (.int p4), .val (.long q1), .second, .val (.ref b101), .val (.ref b111), .unset, .unset, .unset, .unset, .unset, .unset, .unset] [(.double (FP.i2d p2))])) _
      refine XS.dstore X116.here hx rfl (hb hby at_39) rfl (l' := #[.val (.int p1), .val (.int p2), .val (.int p3), .val (.int p4), .val (.long q1), .second, .val (.ref b101), .val (.ref b111), .val (.double (FP.i2d p2)), .second, .unset, .unset, .unset, .unset, .unset]) rfl ?_
      show Steps p.tables e below (T116.setTop (mkF m 41 #[.val (.int p1), .val (.int p2), .val (.int p3), .val (.int p4), .val (.long q1), .second, .val (.ref b101), .val (.ref b111), .val (.double (FP.i2d p2)), .second, .unset, .unset, .unset, .unset, .unset] [])) _
      refine XS.iloadN X116.here hx rfl (hb hby at_41) rfl ?_
      show Steps p.tables e below (T116.setTop (mkF m 42 #[.val (.int p1), .val (.int p2), .val (.int p3), .val (.int p4), .val (.long q1), .second, .val (.ref b101), .val (.ref b111), .val (.double (FP.i2d p2)), .second, .unset, .unset, .unset, .unset, .unset] [(.int p3)])) _
      refine XS.i2dS X116.here hx rfl (hb hby at_42) rfl (v := (FP.i2d p3)) rfl ?_
      show Steps p.tables e below (T116.setTop (mkF m 43 #[.val (.int p1), .val (.int p2), .val (.int p3), .val (.int p4), .val (.long q1), .second, .val (.ref b101), .val (.ref b111), .val (.double (FP.i2d p2)), .second, .unset, .unset, .unset, .unset, .unset] [(.double (FP.i2d p3))])) _
      refine XS.dstore X116.here hx rfl (hb hby at_43) rfl (l' := #[.val (.int p1), .val (.int p2), .val (.int p3), .val (.int p4), .val (.long q1), .second, .val (.ref b101), .val (.ref b111), .val (.double (FP.i2d p2)), .second, .val (.double (FP.i2d p3)), .second, .unset, .unset, .unset]) rfl ?_
      show Steps p.tables e below (T116.setTop (mkF m 45 #[.val (.int p1), .val (.int p2), .val (.int p3), .val (.int p4), .val (.long q1), .second, .val (.ref b101), .val (.ref b111), .val (.double (FP.i2d p2)), .second, .val (.double (FP.i2d p3)), .second, .unset, .unset, .unset] [])) _
      refine XS.aload X116.here hx rfl (hb hby at_45) rfl rfl ?_
      show Steps p.tables e below (T116.setTop (mkF m 47 #[.val (.int p1), .val (.int p2), .val (.int p3), .val (.int p4), .val (.long q1), .second, .val (.ref b101), .val (.ref b111), .val (.double (FP.i2d p2)), .second, .val (.double (FP.i2d p3)), .second, .unset, .unset, .unset] [(.ref b111)])) _
      refine XS.dload X116.here hx rfl (hb hby at_47) rfl ?_
      show Steps p.tables e below (T116.setTop (mkF m 49 #[.val (.int p1), .val (.int p2), .val (.int p3), .val (.int p4), .val (.long q1), .second, .val (.ref b101), .val (.ref b111), .val (.double (FP.i2d p2)), .second, .val (.double (FP.i2d p3)), .second, .unset, .unset, .unset] [(.double (FP.i2d p2)), (.ref b111)])) _
      refine XS.dload X116.here hx rfl (hb hby at_49) rfl ?_
      show Steps p.tables e below (T116.setTop (mkF m 51 #[.val (.int p1), .val (.int p2), .val (.int p3), .val (.int p4), .val (.long q1), .second, .val (.ref b101), .val (.ref b111), .val (.double (FP.i2d p2)), .second, .val (.double (FP.i2d p3)), .second, .unset, .unset, .unset] [(.double (FP.i2d p3)), (.double (FP.i2d p2)), (.ref b111)])) _
      refine st120 _ ?_
      show Steps p.tables e below (T120.setTop (mkF m 54 #[.val (.int p1), .val (.int p2), .val (.int p3), .val (.int p4), .val (.long q1), .second, .val (.ref b101), .val (.ref b111), .val (.double (FP.i2d p2)), .second, .val (.double (FP.i2d p3)), .second, .unset, .unset, .unset] [(.ref b_120)])) _
      refine XS.astore X120.here hx rfl (hb hby at_54) rfl rfl (l' := #[.val (.int p1), .val (.int p2), .val (.int p3), .val (.int p4), .val (.long q1), .second, .val (.ref b101), .val (.ref b111), .val (.double (FP.i2d p2)), .second, .val (.double (FP.i2d p3)), .second, .val (.ref b_120), .unset, .unset]) rfl ?_
      show Steps p.tables e below (T120.setTop (mkF m 56 #[.val (.int p1), .val (.int p2), .val (.int p3), .val (.int p4), .val (.long q1), .second, .val (.ref b101), .val (.ref b111), .val (.double (FP.i2d p2)), .second, .val (.double (FP.i2d p3)), .second, .val (.ref b_120), .unset, .unset] [])) _
      refine XS.dload X120.here hx rfl (hb hby at_56) rfl ?_
      show Steps p.tables e below (T120.setTop (mkF m 58 #[.val (.int p1), .val (.int p2), .val (.int p3), .val (.int p4), .val (.long q1), .second, .val (.ref b101), .val (.ref b111), .val (.double (FP.i2d p2)), .second, .val (.double (FP.i2d p3)), .second, .val (.ref b_120), .unset, .unset] [(.double (FP.i2d p3))])) _
      refine XS.iloadN X120.here hx rfl (hb hby at_58) rfl ?_
      show Steps p.tables e below (T120.setTop (mkF m 59 #[.val (.int p1), .val (.int p2), .val (.int p3), .val (.int p4), .val (.long q1), .second, .val (.ref b101), .val (.ref b111), .val (.double (FP.i2d p2)), .second, .val (.double (FP.i2d p3)), .second, .val (.ref b_120), .unset, .unset] [(.int p4), (.double (FP.i2d p3))])) _
      refine XS.sipush X120.here hx rfl (hb hby at_59) ?_
      show Steps p.tables e below (T120.setTop (mkF m 62 #[.val (.int p1), .val (.int p2), .val (.int p3), .val (.int p4), .val (.long q1), .second, .val (.ref b101), .val (.ref b111), .val (.double (FP.i2d p2)), .second, .val (.double (FP.i2d p3)), .second, .val (.ref b_120), .unset, .unset] [(.int (255 : Int32)), (.int p4), (.double (FP.i2d p3))])) _
      refine XS.iand X120.here hx rfl (hb hby at_62) rfl ?_
      show Steps p.tables e below (T120.setTop (mkF m 63 #[.val (.int p1), .val (.int p2), .val (.int p3), .val (.int p4), .val (.long q1), .second, .val (.ref b101), .val (.ref b111), .val (.double (FP.i2d p2)), .second, .val (.double (FP.i2d p3)), .second, .val (.ref b_120), .unset, .unset] [(.int (p4 &&& (255 : Int32))), (.double (FP.i2d p3))])) _
      refine XS.iconst X120.here hx rfl (hb hby at_63) ?_
      show Steps p.tables e below (T120.setTop (mkF m 64 #[.val (.int p1), .val (.int p2), .val (.int p3), .val (.int p4), .val (.long q1), .second, .val (.ref b101), .val (.ref b111), .val (.double (FP.i2d p2)), .second, .val (.double (FP.i2d p3)), .second, .val (.ref b_120), .unset, .unset] [(.int (1 : Int32)), (.int (p4 &&& (255 : Int32))), (.double (FP.i2d p3))])) _
      refine XS.iadd X120.here hx rfl (hb hby at_64) rfl ?_
      show Steps p.tables e below (T120.setTop (mkF m 65 #[.val (.int p1), .val (.int p2), .val (.int p3), .val (.int p4), .val (.long q1), .second, .val (.ref b101), .val (.ref b111), .val (.double (FP.i2d p2)), .second, .val (.double (FP.i2d p3)), .second, .val (.ref b_120), .unset, .unset] [(.int ((p4 &&& (255 : Int32)) + (1 : Int32))), (.double (FP.i2d p3))])) _
      refine XS.i2dS X120.here hx rfl (hb hby at_65) rfl (v := (FP.i2d ((p4 &&& (255 : Int32)) + (1 : Int32)))) rfl ?_
      show Steps p.tables e below (T120.setTop (mkF m 66 #[.val (.int p1), .val (.int p2), .val (.int p3), .val (.int p4), .val (.long q1), .second, .val (.ref b101), .val (.ref b111), .val (.double (FP.i2d p2)), .second, .val (.double (FP.i2d p3)), .second, .val (.ref b_120), .unset, .unset] [(.double (FP.i2d ((p4 &&& (255 : Int32)) + (1 : Int32)))), (.double (FP.i2d p3))])) _
      refine X120.ldc2DoubleC hx hown (mvT hZ (hw _ (List.mem_of_getElem? (i := 53) rfl))) (g := (mkF m 66 #[.val (.int p1), .val (.int p2), .val (.int p3), .val (.int p4), .val (.long q1), .second, .val (.ref b101), .val (.ref b111), .val (.double (FP.i2d p2)), .second, .val (.double (FP.i2d p3)), .second, .val (.ref b_120), .unset, .unset] [(.double (FP.i2d ((p4 &&& (255 : Int32)) + (1 : Int32)))), (.double (FP.i2d p3))])) rfl (hb hby at_66) _ ?_
      show Steps p.tables e below (T120.setTop (mkF m 69 #[.val (.int p1), .val (.int p2), .val (.int p3), .val (.int p4), .val (.long q1), .second, .val (.ref b101), .val (.ref b111), .val (.double (FP.i2d p2)), .second, .val (.double (FP.i2d p3)), .second, .val (.ref b_120), .unset, .unset] [(.double (4643211215818981376 : UInt64)), (.double (FP.i2d ((p4 &&& (255 : Int32)) + (1 : Int32)))), (.double (FP.i2d p3))])) _
      refine XS.ddivS X120.here hx rfl (hb hby at_69) rfl (own_q p4).nn (v := (FP.ddiv (FP.i2d ((p4 &&& (255 : Int32)) + (1 : Int32))) (4643211215818981376 : UInt64))) rfl ?_
      show Steps p.tables e below (T120.setTop (mkF m 70 #[.val (.int p1), .val (.int p2), .val (.int p3), .val (.int p4), .val (.long q1), .second, .val (.ref b101), .val (.ref b111), .val (.double (FP.i2d p2)), .second, .val (.double (FP.i2d p3)), .second, .val (.ref b_120), .unset, .unset] [(.double (FP.ddiv (FP.i2d ((p4 &&& (255 : Int32)) + (1 : Int32))) (4643211215818981376 : UInt64))), (.double (FP.i2d p3))])) _
      refine XS.daddS X120.here hx rfl (hb hby at_70) rfl (own_s p3 p4).nn (v := (FP.dadd (FP.i2d p3) (FP.ddiv (FP.i2d ((p4 &&& (255 : Int32)) + (1 : Int32))) (4643211215818981376 : UInt64)))) rfl ?_
      show Steps p.tables e below (T120.setTop (mkF m 71 #[.val (.int p1), .val (.int p2), .val (.int p3), .val (.int p4), .val (.long q1), .second, .val (.ref b101), .val (.ref b111), .val (.double (FP.i2d p2)), .second, .val (.double (FP.i2d p3)), .second, .val (.ref b_120), .unset, .unset] [(.double (FP.dadd (FP.i2d p3) (FP.ddiv (FP.i2d ((p4 &&& (255 : Int32)) + (1 : Int32))) (4643211215818981376 : UInt64))))])) _
      refine XS.lload X120.here hx rfl (hb hby at_71) rfl ?_
      show Steps p.tables e below (T120.setTop (mkF m 73 #[.val (.int p1), .val (.int p2), .val (.int p3), .val (.int p4), .val (.long q1), .second, .val (.ref b101), .val (.ref b111), .val (.double (FP.i2d p2)), .second, .val (.double (FP.i2d p3)), .second, .val (.ref b_120), .unset, .unset] [(.long q1), (.double (FP.dadd (FP.i2d p3) (FP.ddiv (FP.i2d ((p4 &&& (255 : Int32)) + (1 : Int32))) (4643211215818981376 : UInt64))))])) _
      refine X120.ldc2Long hx hown (mvT hZ (hw _ (List.mem_of_getElem? (i := 54) rfl))) (g := (mkF m 73 #[.val (.int p1), .val (.int p2), .val (.int p3), .val (.int p4), .val (.long q1), .second, .val (.ref b101), .val (.ref b111), .val (.double (FP.i2d p2)), .second, .val (.double (FP.i2d p3)), .second, .val (.ref b_120), .unset, .unset] [(.long q1), (.double (FP.dadd (FP.i2d p3) (FP.ddiv (FP.i2d ((p4 &&& (255 : Int32)) + (1 : Int32))) (4643211215818981376 : UInt64))))])) rfl (hb hby at_73) _ ?_
      show Steps p.tables e below (T120.setTop (mkF m 76 #[.val (.int p1), .val (.int p2), .val (.int p3), .val (.int p4), .val (.long q1), .second, .val (.ref b101), .val (.ref b111), .val (.double (FP.i2d p2)), .second, .val (.double (FP.i2d p3)), .second, .val (.ref b_120), .unset, .unset] [(.long (4611686018427387903 : Int64)), (.long q1), (.double (FP.dadd (FP.i2d p3) (FP.ddiv (FP.i2d ((p4 &&& (255 : Int32)) + (1 : Int32))) (4643211215818981376 : UInt64))))])) _
      refine XS.land X120.here hx rfl (hb hby at_76) rfl ?_
      show Steps p.tables e below (T120.setTop (mkF m 77 #[.val (.int p1), .val (.int p2), .val (.int p3), .val (.int p4), .val (.long q1), .second, .val (.ref b101), .val (.ref b111), .val (.double (FP.i2d p2)), .second, .val (.double (FP.i2d p3)), .second, .val (.ref b_120), .unset, .unset] [(.long (q1 &&& (4611686018427387903 : Int64))), (.double (FP.dadd (FP.i2d p3) (FP.ddiv (FP.i2d ((p4 &&& (255 : Int32)) + (1 : Int32))) (4643211215818981376 : UInt64))))])) _
      refine XS.l2dS X120.here hx rfl (hb hby at_77) rfl (v := (FP.l2d (q1 &&& (4611686018427387903 : Int64)))) rfl ?_
      show Steps p.tables e below (T120.setTop (mkF m 78 #[.val (.int p1), .val (.int p2), .val (.int p3), .val (.int p4), .val (.long q1), .second, .val (.ref b101), .val (.ref b111), .val (.double (FP.i2d p2)), .second, .val (.double (FP.i2d p3)), .second, .val (.ref b_120), .unset, .unset] [(.double (FP.l2d (q1 &&& (4611686018427387903 : Int64)))), (.double (FP.dadd (FP.i2d p3) (FP.ddiv (FP.i2d ((p4 &&& (255 : Int32)) + (1 : Int32))) (4643211215818981376 : UInt64))))])) _
      refine XS.daddS X120.here hx rfl (hb hby at_78) rfl hv.1.noNaN (v := (FP.dadd (FP.dadd (FP.i2d p3) (FP.ddiv (FP.i2d ((p4 &&& (255 : Int32)) + (1 : Int32))) (4643211215818981376 : UInt64))) (FP.l2d (q1 &&& (4611686018427387903 : Int64))))) rfl ?_
      show Steps p.tables e below (T120.setTop (mkF m 79 #[.val (.int p1), .val (.int p2), .val (.int p3), .val (.int p4), .val (.long q1), .second, .val (.ref b101), .val (.ref b111), .val (.double (FP.i2d p2)), .second, .val (.double (FP.i2d p3)), .second, .val (.ref b_120), .unset, .unset] [(.double (FP.dadd (FP.dadd (FP.i2d p3) (FP.ddiv (FP.i2d ((p4 &&& (255 : Int32)) + (1 : Int32))) (4643211215818981376 : UInt64))) (FP.l2d (q1 &&& (4611686018427387903 : Int64)))))])) _
      refine XS.dstore X120.here hx rfl (hb hby at_79) rfl (l' := #[.val (.int p1), .val (.int p2), .val (.int p3), .val (.int p4), .val (.long q1), .second, .val (.ref b101), .val (.ref b111), .val (.double (FP.i2d p2)), .second, .val (.double (FP.i2d p3)), .second, .val (.ref b_120), .val (.double (FP.dadd (FP.dadd (FP.i2d p3) (FP.ddiv (FP.i2d ((p4 &&& (255 : Int32)) + (1 : Int32))) (4643211215818981376 : UInt64))) (FP.l2d (q1 &&& (4611686018427387903 : Int64))))), .second]) rfl ?_
      show Steps p.tables e below (T120.setTop (mkF m 81 #[.val (.int p1), .val (.int p2), .val (.int p3), .val (.int p4), .val (.long q1), .second, .val (.ref b101), .val (.ref b111), .val (.double (FP.i2d p2)), .second, .val (.double (FP.i2d p3)), .second, .val (.ref b_120), .val (.double (FP.dadd (FP.dadd (FP.i2d p3) (FP.ddiv (FP.i2d ((p4 &&& (255 : Int32)) + (1 : Int32))) (4643211215818981376 : UInt64))) (FP.l2d (q1 &&& (4611686018427387903 : Int64))))), .second] [])) _
      refine XS.aload X120.here hx rfl (hb hby at_81) rfl rfl ?_
      show Steps p.tables e below (T120.setTop (mkF m 83 #[.val (.int p1), .val (.int p2), .val (.int p3), .val (.int p4), .val (.long q1), .second, .val (.ref b101), .val (.ref b111), .val (.double (FP.i2d p2)), .second, .val (.double (FP.i2d p3)), .second, .val (.ref b_120), .val (.double (FP.dadd (FP.dadd (FP.i2d p3) (FP.ddiv (FP.i2d ((p4 &&& (255 : Int32)) + (1 : Int32))) (4643211215818981376 : UInt64))) (FP.l2d (q1 &&& (4611686018427387903 : Int64))))), .second] [(.ref b_120)])) _
      refine XS.dload X120.here hx rfl (hb hby at_83) rfl ?_
      show Steps p.tables e below (T120.setTop (mkF m 85 #[.val (.int p1), .val (.int p2), .val (.int p3), .val (.int p4), .val (.long q1), .second, .val (.ref b101), .val (.ref b111), .val (.double (FP.i2d p2)), .second, .val (.double (FP.i2d p3)), .second, .val (.ref b_120), .val (.double (FP.dadd (FP.dadd (FP.i2d p3) (FP.ddiv (FP.i2d ((p4 &&& (255 : Int32)) + (1 : Int32))) (4643211215818981376 : UInt64))) (FP.l2d (q1 &&& (4611686018427387903 : Int64))))), .second] [(.double (FP.dadd (FP.dadd (FP.i2d p3) (FP.ddiv (FP.i2d ((p4 &&& (255 : Int32)) + (1 : Int32))) (4643211215818981376 : UInt64))) (FP.l2d (q1 &&& (4611686018427387903 : Int64))))), (.ref b_120)])) _
      refine st126.trans ?_
      show Steps p.tables e below (T126.setTop (mkF m 88 #[.val (.int p1), .val (.int p2), .val (.int p3), .val (.int p4), .val (.long q1), .second, .val (.ref b101), .val (.ref b111), .val (.double (FP.i2d p2)), .second, .val (.double (FP.i2d p3)), .second, .val (.ref b_120), .val (.double (FP.dadd (FP.dadd (FP.i2d p3) (FP.ddiv (FP.i2d ((p4 &&& (255 : Int32)) + (1 : Int32))) (4643211215818981376 : UInt64))) (FP.l2d (q1 &&& (4611686018427387903 : Int64))))), .second] [])) _
      refine XS.aload X126.here hx rfl (hb hby at_88) rfl rfl ?_
      show Steps p.tables e below (T126.setTop (mkF m 90 #[.val (.int p1), .val (.int p2), .val (.int p3), .val (.int p4), .val (.long q1), .second, .val (.ref b101), .val (.ref b111), .val (.double (FP.i2d p2)), .second, .val (.double (FP.i2d p3)), .second, .val (.ref b_120), .val (.double (FP.dadd (FP.dadd (FP.i2d p3) (FP.ddiv (FP.i2d ((p4 &&& (255 : Int32)) + (1 : Int32))) (4643211215818981376 : UInt64))) (FP.l2d (q1 &&& (4611686018427387903 : Int64))))), .second] [(.ref b111)])) _
      refine XS.aload X126.here hx rfl (hb hby at_90) rfl rfl ?_
      show Steps p.tables e below (T126.setTop (mkF m 92 #[.val (.int p1), .val (.int p2), .val (.int p3), .val (.int p4), .val (.long q1), .second, .val (.ref b101), .val (.ref b111), .val (.double (FP.i2d p2)), .second, .val (.double (FP.i2d p3)), .second, .val (.ref b_120), .val (.double (FP.dadd (FP.dadd (FP.i2d p3) (FP.ddiv (FP.i2d ((p4 &&& (255 : Int32)) + (1 : Int32))) (4643211215818981376 : UInt64))) (FP.l2d (q1 &&& (4611686018427387903 : Int64))))), .second] [(.ref b_120), (.ref b111)])) _
      refine st127.trans ?_
      show Steps p.tables e below (T127.setTop (mkF m 95 #[.val (.int p1), .val (.int p2), .val (.int p3), .val (.int p4), .val (.long q1), .second, .val (.ref b101), .val (.ref b111), .val (.double (FP.i2d p2)), .second, .val (.double (FP.i2d p3)), .second, .val (.ref b_120), .val (.double (FP.dadd (FP.dadd (FP.i2d p3) (FP.ddiv (FP.i2d ((p4 &&& (255 : Int32)) + (1 : Int32))) (4643211215818981376 : UInt64))) (FP.l2d (q1 &&& (4611686018427387903 : Int64))))), .second] [(.ref b111), (.ref b111)])) _
      refine st128.trans ?_
      show Steps p.tables e below (T128.setTop (mkF m 98 #[.val (.int p1), .val (.int p2), .val (.int p3), .val (.int p4), .val (.long q1), .second, .val (.ref b101), .val (.ref b111), .val (.double (FP.i2d p2)), .second, .val (.double (FP.i2d p3)), .second, .val (.ref b_120), .val (.double (FP.dadd (FP.dadd (FP.i2d p3) (FP.ddiv (FP.i2d ((p4 &&& (255 : Int32)) + (1 : Int32))) (4643211215818981376 : UInt64))) (FP.l2d (q1 &&& (4611686018427387903 : Int64))))), .second] [(.int (1 : Int32))])) _
      refine XS.ifNo X128.here hx rfl (hb hby at_98) rfl ((if0 _ _).trans (feq ((by decide) : ¬ ((1 : Int32) = (0 : Int32)))).1) ?_
      show Steps p.tables e below (T128.setTop (mkF m 101 #[.val (.int p1), .val (.int p2), .val (.int p3), .val (.int p4), .val (.long q1), .second, .val (.ref b101), .val (.ref b111), .val (.double (FP.i2d p2)), .second, .val (.double (FP.i2d p3)), .second, .val (.ref b_120), .val (.double (FP.dadd (FP.dadd (FP.i2d p3) (FP.ddiv (FP.i2d ((p4 &&& (255 : Int32)) + (1 : Int32))) (4643211215818981376 : UInt64))) (FP.l2d (q1 &&& (4611686018427387903 : Int64))))), .second] [])) _
      refine XS.aload X128.here hx rfl (hb hby at_101) rfl rfl ?_
      show Steps p.tables e below (T128.setTop (mkF m 103 #[.val (.int p1), .val (.int p2), .val (.int p3), .val (.int p4), .val (.long q1), .second, .val (.ref b101), .val (.ref b111), .val (.double (FP.i2d p2)), .second, .val (.double (FP.i2d p3)), .second, .val (.ref b_120), .val (.double (FP.dadd (FP.dadd (FP.i2d p3) (FP.ddiv (FP.i2d ((p4 &&& (255 : Int32)) + (1 : Int32))) (4643211215818981376 : UInt64))) (FP.l2d (q1 &&& (4611686018427387903 : Int64))))), .second] [(.ref b_120)])) _
      refine st130.trans ?_
      show Steps p.tables e below (T130.setTop (mkF m 106 #[.val (.int p1), .val (.int p2), .val (.int p3), .val (.int p4), .val (.long q1), .second, .val (.ref b101), .val (.ref b111), .val (.double (FP.i2d p2)), .second, .val (.double (FP.i2d p3)), .second, .val (.ref b_120), .val (.double (FP.dadd (FP.dadd (FP.i2d p3) (FP.ddiv (FP.i2d ((p4 &&& (255 : Int32)) + (1 : Int32))) (4643211215818981376 : UInt64))) (FP.l2d (q1 &&& (4611686018427387903 : Int64))))), .second] [(.double (FP.i2d p2))])) _
      refine XS.dload X130.here hx rfl (hb hby at_106) rfl ?_
      show Steps p.tables e below (T130.setTop (mkF m 108 #[.val (.int p1), .val (.int p2), .val (.int p3), .val (.int p4), .val (.long q1), .second, .val (.ref b101), .val (.ref b111), .val (.double (FP.i2d p2)), .second, .val (.double (FP.i2d p3)), .second, .val (.ref b_120), .val (.double (FP.dadd (FP.dadd (FP.i2d p3) (FP.ddiv (FP.i2d ((p4 &&& (255 : Int32)) + (1 : Int32))) (4643211215818981376 : UInt64))) (FP.l2d (q1 &&& (4611686018427387903 : Int64))))), .second] [(.double (FP.i2d p2)), (.double (FP.i2d p2))])) _
      refine XS.dcmpS X130.here hx rfl (hb hby at_108) rfl (v := (0 : Int32)) (dcmpV_self (Fl.i2d_fin _).noNaN .l) ?_
      show Steps p.tables e below (T130.setTop (mkF m 109 #[.val (.int p1), .val (.int p2), .val (.int p3), .val (.int p4), .val (.long q1), .second, .val (.ref b101), .val (.ref b111), .val (.double (FP.i2d p2)), .second, .val (.double (FP.i2d p3)), .second, .val (.ref b_120), .val (.double (FP.dadd (FP.dadd (FP.i2d p3) (FP.ddiv (FP.i2d ((p4 &&& (255 : Int32)) + (1 : Int32))) (4643211215818981376 : UInt64))) (FP.l2d (q1 &&& (4611686018427387903 : Int64))))), .second] [(.int (0 : Int32))])) _
      refine XS.ifNo X130.here hx rfl (hb hby at_109) rfl ((if0 _ _).trans (teq ((by decide) : (0 : Int32) = (0 : Int32))).2) ?_
      show Steps p.tables e below (T130.setTop (mkF m 112 #[.val (.int p1), .val (.int p2), .val (.int p3), .val (.int p4), .val (.long q1), .second, .val (.ref b101), .val (.ref b111), .val (.double (FP.i2d p2)), .second, .val (.double (FP.i2d p3)), .second, .val (.ref b_120), .val (.double (FP.dadd (FP.dadd (FP.i2d p3) (FP.ddiv (FP.i2d ((p4 &&& (255 : Int32)) + (1 : Int32))) (4643211215818981376 : UInt64))) (FP.l2d (q1 &&& (4611686018427387903 : Int64))))), .second] [])) _
      refine XS.iconst X130.here hx rfl (hb hby at_112) ?_
      show Steps p.tables e below (T130.setTop (mkF m 113 #[.val (.int p1), .val (.int p2), .val (.int p3), .val (.int p4), .val (.long q1), .second, .val (.ref b101), .val (.ref b111), .val (.double (FP.i2d p2)), .second, .val (.double (FP.i2d p3)), .second, .val (.ref b_120), .val (.double (FP.dadd (FP.dadd (FP.i2d p3) (FP.ddiv (FP.i2d ((p4 &&& (255 : Int32)) + (1 : Int32))) (4643211215818981376 : UInt64))) (FP.l2d (q1 &&& (4611686018427387903 : Int64))))), .second] [(.int (1 : Int32))])) _
      refine XS.goto X130.here hx rfl (pc0 := 113) (pc' := 117) rfl (hb hby at_113) (by decide) (by decide) ?_
      exact kt)
  obtain ⟨fs, hr, hrun, hended, hW, hsame⟩ := X130.leave (v := some (.int (1 : Int32))) (fun h => by rw [Bd.returns] at h; cases h)
  refine ⟨_, _, pre131 _ ?_, hrun, hended, _, _, rfl, ?_, ⟨_, rfl⟩, hW, hsame.mono (by decide) (by decide)⟩
  · show Steps p.tables e below (T130.setTop (mkF m 117 #[.val (.int p1), .val (.int p2), .val (.int p3), .val (.int p4), .val (.long q1), .second, .val (.ref b101), .val (.ref b111), .val (.double (FP.i2d p2)), .second, .val (.double (FP.i2d p3)), .second, .val (.ref b_120), .val (.double (FP.dadd (FP.dadd (FP.i2d p3) (FP.ddiv (FP.i2d ((p4 &&& (255 : Int32)) + (1 : Int32))) (4643211215818981376 : UInt64))) (FP.l2d (q1 &&& (4611686018427387903 : Int64))))), .second] [(.int (1 : Int32))])) _
    exact retN X130 hx (t := .boolean) Bd.returns (by simp) (hb hby at_117) hr
  · show Q0 Z p1 p2 p3 p4 q1 G1 h0 n0 _ T130.heap _
    rw [e130]
    exact ⟨rfl, N130⟩
set_option maxRecDepth 65536 in
set_option maxHeartbeats 40000000 in
theorem comes_1 {Post : Tables → Env → Array Value → State → Outcome → State → Prop} (hpost : ∀ tb e args s v u, (limb_1_1.after args s (.returned v) u = true ∧ limb_1_2.after args s (.returned v) u = true ∧ True) → FrameEnd s (.returned v) u (Jvm.fieldLocs frame_1_writes args s ++ Jvm.arrayLocs frame_1_arrays args s ++ Jvm.staticLocs frame_1_statics s) 16 128 → Post tb e args s (.returned v) u) :
    ArmFor flags0 classFile x code maxLocals ret World_1 tables_1 room_1 Calls_1 rest_1 Pre_1 Post := by
  intro l hfl _ _ p e ha hc hk s m args below hf hA hF happ hP
  obtain ⟨hcalls, hrest, hpre⟩ := hP
  obtain ⟨-, -, -, hnamed, -, -, -, hat⟩ := (Spec.applies_iff hf).mp happ
  obtain ⟨hg, hn⟩ := and_e (Cond.before_iff.mp (show (Jvm.Cond.and given_1 narrow_1).before args s = true from hpre))
  obtain ⟨g1, g2⟩ := and_e hg
  obtain ⟨g3, g4⟩ := and_e g2
  obtain ⟨g5, g6⟩ := and_e g4
  obtain ⟨g7, g8⟩ := and_e g6
  obtain ⟨g9, g10⟩ := and_e g8
  obtain ⟨w0, w1, w2, w3, w4, rfl⟩ : ∃ w0 w1 w2 w3 w4 : Value, args = #[w0, w1, w2, w3, w4] := by
    have hs : args.size = 5 := by simpa [Cond.value, given_1] using g1
    obtain ⟨L⟩ := args
    match L, hs with
    | [w0, w1, w2, w3, w4], _ => exact ⟨w0, w1, w2, w3, w4, rfl⟩
  have hw := fun d (hd : d ∈ tables_1) => atoms_spec (ws := Jvm.Cond.code x code maxLocals ret :: tables_1) hat d (List.mem_cons_of_mem _ hd)
  have hfit : Fit s := fun {y c} hc i hi => by
    obtain ⟨ha, rfl⟩ := Array.getElem?_eq_some_iff.mp hc
    have q := List.all_eq_true.mp ((Array.all_eq_true_iff_forall_mem.mp hF) _ (Array.getElem_mem ha)) i (List.mem_range.mpr hi)
    simpa [Array.getElem?_eq_getElem hi] using q
  obtain ⟨hsets, hown0⟩ := atoms_of _ (rest_1_c_eq ▸ (show rest_1_c.before _ s = true from hrest))
  have hr0 := Cond.before_iff.mp hown0
  obtain ⟨i0, ei0⟩ := is_v g3
  obtain rfl : w0 = (.int i0) := Option.some.inj ei0
  obtain ⟨i1, ei1⟩ := is_v g5
  obtain rfl : w1 = (.int i1) := Option.some.inj ei1
  obtain ⟨i2, ei2⟩ := is_v g7
  obtain rfl : w2 = (.int i2) := Option.some.inj ei2
  obtain ⟨i3, ei3⟩ := is_v g9
  obtain rfl : w3 = (.int i3) := Option.some.inj ei3
  obtain ⟨i4, ei4⟩ := isL_v g10
  obtain rfl : w4 = (.long i4) := Option.some.inj ei4
  have n_c := not_v (Cond.before_iff.mp (hsets _ (List.mem_of_getElem? (i := 2) rfl)))
  obtain ⟨i_c, e_c⟩ := is_v (Cond.before_iff.mp (hsets _ (List.mem_of_getElem? (i := 1) rfl)))
  have S_c : Sta s s.heap "java/lang/String" "COMPACT_STRINGS" "Z" (.int i_c) := Sta.start e_c (Or.inl (hsets _ (List.mem_of_getElem? (i := 0) rfl)))
  have c_c : ¬ (i_c = (0 : Int32)) := gotF (Cond.eq_ints e_c (Term.int_eval (0))) n_c
  obtain ⟨n, o, h1, h2, h3, _, L, rfl, ⟨rfl, N⟩, hq⟩ := rm0 l s _ hw tables_1 i0 i1 i2 i3 i4 i_c s.heap s.heap.size (Nat.le_refl _) S_c c_c (Old.start s) p e ha hc hk s m _ below hf ((Spec.applies_iff_loose hf).mp happ).1 ⟨rfl, State.Warmed39.refl s, rfl⟩ trivial
  refine ⟨n, _, h1, h2, h3, hpost _ _ _ _ _ _ ⟨Cond.after_iff.mpr rfl, Cond.after_iff.mpr (eq_i res_at (Term.int_eval (1)) rfl), trivial⟩ ⟨hq.1, hq.2.1, (hq.2.2.sift fun y hy => Or.inr (N y hy)).mono (by decide) (by decide)⟩⟩
theorem main_1_1 : Claimed_1_1 := comes_1 fun _ _ _ _ _ _ h hF => ⟨h.1, hF⟩
theorem main_1_2 : Claimed_1_2 := comes_1 fun _ _ _ _ _ _ h hF => ⟨h.2.1, hF⟩
end Jvm.Pilot.@@N@@
namespace Jvm.Pilot.@@N@@
open Jvm Jvm.ClassFile Sem Op Lib Jvm.Free Jvm.Stand Jvm.Pilot.@@N@@.Jvm.D
/-! MADE BY PROGRAM (witnessworld.py) out of the Statement's table words and the real class files: 23 classes; the members and pool entries that the words name. The judged class is class 1, her method 1. -/
namespace start1
open Jvm.ClassFile
def u (s : String) : CpInfo := .utf8 (stringToUtf16 s)
/-- a pool by its gaps: so many unusable entries, then the entry; so many at the end -/
def gap : Nat → List CpInfo → List CpInfo
  | 0, r => r
  | n + 1, r => .unusable :: gap n r
def poolList (es : List (Nat × CpInfo)) (last : Nat) : List CpInfo := es.foldr (fun e r => gap e.1 (e.2 :: r)) (gap last [])
def pool (es : List (Nat × CpInfo)) (last : Nat) : Array CpInfo := ⟨poolList es last⟩
def fileOf (pool : Array CpInfo) (this : Nat) (attrs : Array Attribute := #[]) (ms : Array MethodInfo := #[]) (fl : Nat := 33) (sup : Nat := 0) (ifs : Array Nat := #[]) (fds : Array FieldInfo := #[]) : ClassFile where
  minorVersion := 0
  majorVersion := 65
  constantPool := pool
  accessFlags := fl
  thisClass := this
  superClass := sup
  interfaces := ifs
  fields := fds
  methods := ms
  attributes := attrs
def plain (name : String) (sup : Option ClassId) : Class where
  name := name
  kind := .ordinary
  loader := none
  accessFlags := 33
  super := sup
  interfaces := #[]
  cf := none
  fields := #[]
  methods := #[]
  instanceTypes := #[]
  staticTypes := #[]
  resolved := #[]
  callSites := []
  init := .initialized
  statics := none
  mirror := none

def pool0 : Array CpInfo := pool [(5, u "<init>"), (0, u "()V"), (1, .class_ 10), (1, u "java/lang/Object")] 113

def k0c0 : Code := { maxStack := 0, maxLocals := 1, code := object_method_1_code, exceptionTable := #[], attributes := #[] }
def k0m0 : Method := { name := "<init>", desc := "()V", sig := { parameters := [], returnType := none }, accessFlags := 1, code := some k0c0 }
/-- java/lang/Object -/
def k0 : Class := { plain "java/lang/Object" none with
  accessFlags := 33
  interfaces := #[]
  cf := some (fileOf pool0 8 #[] #[{ accessFlags := 1, nameIndex := 5, descriptorIndex := 6, attributes := #[] }] 33 0 #[] #[])
  fields := #[]
  methods := #[k0m0]
  instanceTypes := #[]
  staticTypes := #[]
  resolved := Array.replicate 124 none
  statics := none }

def pool1 : Array CpInfo := pool [(2, .class_ 4), (1, u "java/lang/Object"), (0, u "<init>"), (0, u "()V"), (0, .class_ 8), (0, u "java/lang/String"), (0, .methodref 7 10), (0, .nameAndType 5 11), (0, u "([C)V"), (0, .methodref 13 14), (0, .class_ 15), (0, .nameAndType 16 17), (0, u "com/example/heft/heft/rank/Parameter"), (0, u "greaterThan"), (0, u "(Ljava/lang/String;DD)Lcom/example/heft/heft/rank/Parameter;"), (0, .double 4643211215818981376), (1, .long 4611686018427387903), (1, .methodref 13 23), (0, .nameAndType 24 25), (0, u "check"), (0, u "(D)V"), (0, .methodref 13 27), (0, .nameAndType 28 29), (0, u "name"), (0, u "()Ljava/lang/String;"), (0, .methodref 7 31), (0, .nameAndType 32 33), (0, u "equals"), (0, u "(Ljava/lang/Object;)Z"), (0, .methodref 13 35), (0, .nameAndType 36 37), (0, u "defaultValue"), (0, u "()D"), (0, .class_ 39), (0, u "com/example/heft/heft/rank/ParameterGreaterThanPinLaw"), (2, u "law"), (0, u "(IIIIJ)Z")] 5

def k1m0 : Method := { name := "<init>", desc := "()V", sig := { parameters := [], returnType := none }, accessFlags := 1, code := none }
def k1c1 : Code := { maxStack := 6, maxLocals := 15, code := code, exceptionTable := #[], attributes := #[] }
def k1m1 : Method := { name := "law", desc := "(IIIIJ)Z", sig := { parameters := [.int, .int, .int, .int, .long], returnType := some .boolean }, accessFlags := 9, code := some k1c1 }
/-- com/example/heft/heft/rank/ParameterGreaterThanPinLaw -/
def k1 : Class := { plain "com/example/heft/heft/rank/ParameterGreaterThanPinLaw" (some 0) with
  accessFlags := 49
  interfaces := #[]
  cf := some (fileOf pool1 38 #[] #[{ accessFlags := 1, nameIndex := 5, descriptorIndex := 6, attributes := #[] }, { accessFlags := 9, nameIndex := 42, descriptorIndex := 43, attributes := #[] }] 49 2 #[] #[])
  fields := #[]
  methods := #[k1m0, k1m1]
  instanceTypes := #[]
  staticTypes := #[]
  resolved := Array.replicate 49 none
  statics := none }

def pool2 : Array CpInfo := pool [(1, .class_ 2), (0, u "java/io/Serializable"), (0, .class_ 4), (0, u "java/lang/Object")] 2

/-- java/io/Serializable -/
def k2 : Class := { plain "java/io/Serializable" (some 0) with
  accessFlags := 1537
  interfaces := #[]
  cf := some (fileOf pool2 1 #[] #[] 1537 3 #[] #[])
  fields := #[]
  methods := #[]
  instanceTypes := #[]
  staticTypes := #[]
  resolved := Array.replicate 7 none
  statics := none }

def pool3 : Array CpInfo := pool [(1, .class_ 2), (0, u "java/lang/Comparable"), (0, .class_ 4), (0, u "java/lang/Object")] 7

/-- java/lang/Comparable -/
def k3 : Class := { plain "java/lang/Comparable" (some 0) with
  accessFlags := 1537
  interfaces := #[]
  cf := some (fileOf pool3 1 #[] #[] 1537 3 #[] #[])
  fields := #[]
  methods := #[]
  instanceTypes := #[]
  staticTypes := #[]
  resolved := Array.replicate 12 none
  statics := none }

def pool4 : Array CpInfo := pool [(2, .class_ 4), (1, u "java/lang/CharSequence"), (42, .class_ 48), (0, u "java/lang/CharSequence$1CodePointIterator"), (10, .class_ 60), (0, u "java/lang/CharSequence$1CharIterator"), (5, .class_ 67), (0, u "java/lang/Object")] 63

/-- java/lang/CharSequence -/
def k4 : Class := { plain "java/lang/CharSequence" (some 0) with
  accessFlags := 1537
  interfaces := #[]
  cf := some (fileOf pool4 2 #[.nestMembers #[47, 59]] #[] 1537 66 #[] #[])
  fields := #[]
  methods := #[]
  instanceTypes := #[]
  staticTypes := #[]
  resolved := Array.replicate 131 none
  statics := none }

def pool5 : Array CpInfo := pool [(1, .class_ 2), (0, u "java/lang/constant/Constable"), (0, .class_ 4), (0, u "java/lang/Object")] 6

/-- java/lang/constant/Constable -/
def k5 : Class := { plain "java/lang/constant/Constable" (some 0) with
  accessFlags := 1537
  interfaces := #[]
  cf := some (fileOf pool5 1 #[] #[] 1537 3 #[] #[])
  fields := #[]
  methods := #[]
  instanceTypes := #[]
  staticTypes := #[]
  resolved := Array.replicate 11 none
  statics := none }

def pool6 : Array CpInfo := pool [(1, .class_ 2), (0, u "java/lang/constant/ConstantDesc"), (0, .class_ 4), (0, u "java/lang/Object")] 32

/-- java/lang/constant/ConstantDesc -/
def k6 : Class := { plain "java/lang/constant/ConstantDesc" (some 0) with
  accessFlags := 1537
  interfaces := #[]
  cf := some (fileOf pool6 1 #[] #[] 1537 3 #[] #[])
  fields := #[]
  methods := #[]
  instanceTypes := #[]
  staticTypes := #[]
  resolved := Array.replicate 37 none
  statics := none }

def pool7 : Array CpInfo := pool [(1, .methodref 2 3), (0, .class_ 4), (0, .nameAndType 5 6), (0, u "java/lang/Object"), (0, u "<init>"), (0, u "()V"), (2, .fieldref 10 11), (0, .class_ 12), (0, .nameAndType 13 14), (0, u "java/lang/String"), (0, u "value"), (0, u "[B"), (0, .fieldref 10 16), (0, .nameAndType 17 18), (0, u "coder"), (0, u "B"), (2, u "hash"), (0, u "I"), (2, u "hashIsZero"), (0, u "Z"), (0, .methodref 10 28), (0, .nameAndType 5 29), (0, u "([CIILjava/lang/Void;)V"), (8, .fieldref 10 39), (0, .nameAndType 40 26), (0, u "COMPACT_STRINGS"), (1, .class_ 44), (1, u "java/lang/StringUTF16"), (0, u "compress"), (1, .methodref 42 48), (0, .nameAndType 49 50), (0, u "coderFromArrayLen"), (0, u "([BI)B"), (126, .methodref 42 178), (0, .nameAndType 45 179), (0, u "([CII)[B"), (363, u "equals"), (29, u "(Ljava/lang/Object;)Z"), (1, .class_ 576), (0, u "java/lang/CharSequence"), (22, u "CASE_INSENSITIVE_ORDER"), (0, u "Ljava/util/Comparator;"), (409, u "([C)V"), (90, u "serialPersistentFields"), (0, u "[Ljava/io/ObjectStreamField;"), (0, .class_ 1104), (0, u "java/lang/String$CaseInsensitiveComparator"), (1, .class_ 1107), (0, u "java/io/Serializable"), (0, .class_ 1109), (0, u "java/lang/Comparable"), (0, .class_ 1111), (0, u "java/lang/constant/Constable"), (0, .class_ 1113), (0, u "java/lang/constant/ConstantDesc"), (2, u "serialVersionUID"), (0, u "J"), (3, u "REPL"), (0, u "C"), (2, u "LATIN1"), (1, u "UTF16")] 323

def k7m0 : Method := { name := "<init>", desc := "()V", sig := { parameters := [], returnType := none }, accessFlags := 1, code := none }
def k7c1 : Code := { maxStack := 5, maxLocals := 2, code := jdk_42_method_3_code, exceptionTable := #[], attributes := #[] }
def k7m1 : Method := { name := "<init>", desc := "([C)V", sig := { parameters := [(.array .char)], returnType := none }, accessFlags := 1, code := some k7c1 }
def k7c2 : Code := { maxStack := 2, maxLocals := 3, code := jdk_42_method_66_code, exceptionTable := #[], attributes := #[] }
def k7m2 : Method := { name := "equals", desc := "(Ljava/lang/Object;)Z", sig := { parameters := [(.object "java/lang/Object")], returnType := some .boolean }, accessFlags := 1, code := some k7c2 }
def k7c3 : Code := { maxStack := 4, maxLocals := 6, code := jdk_42_method_149_code, exceptionTable := #[], attributes := #[] }
def k7m3 : Method := { name := "<init>", desc := "([CIILjava/lang/Void;)V", sig := { parameters := [(.array .char), .int, .int, (.object "java/lang/Void")], returnType := none }, accessFlags := 2, code := some k7c3 }
/-- java/lang/String -/
def k7 : Class := { plain "java/lang/String" (some 0) with
  accessFlags := 49
  interfaces := #[2, 3, 4, 5, 6]
  cf := some (fileOf pool7 10 #[.nestMembers #[1103]] #[{ accessFlags := 1, nameIndex := 5, descriptorIndex := 6, attributes := #[] }, { accessFlags := 1, nameIndex := 5, descriptorIndex := 1010, attributes := #[] }, { accessFlags := 1, nameIndex := 543, descriptorIndex := 573, attributes := #[] }, { accessFlags := 2, nameIndex := 5, descriptorIndex := 29, attributes := #[] }] 49 2 #[1106, 1108, 575, 1110, 1112] #[{ accessFlags := 18, nameIndex := 13, descriptorIndex := 14, attributes := #[] }, { accessFlags := 18, nameIndex := 17, descriptorIndex := 18, attributes := #[] }, { accessFlags := 2, nameIndex := 21, descriptorIndex := 22, attributes := #[] }, { accessFlags := 2, nameIndex := 25, descriptorIndex := 26, attributes := #[] }, { accessFlags := 26, nameIndex := 1116, descriptorIndex := 1117, attributes := #[] }, { accessFlags := 24, nameIndex := 40, descriptorIndex := 26, attributes := #[] }, { accessFlags := 26, nameIndex := 1101, descriptorIndex := 1102, attributes := #[] }, { accessFlags := 26, nameIndex := 1121, descriptorIndex := 1122, attributes := #[] }, { accessFlags := 25, nameIndex := 599, descriptorIndex := 600, attributes := #[] }, { accessFlags := 24, nameIndex := 1125, descriptorIndex := 18, attributes := #[] }, { accessFlags := 24, nameIndex := 1127, descriptorIndex := 18, attributes := #[] }])
  fields := #[{ name := "value", type := (.array .byte), accessFlags := 18, slot := 0, constantValue := 0 }, { name := "coder", type := .byte, accessFlags := 18, slot := 1, constantValue := 0 }, { name := "hash", type := .int, accessFlags := 2, slot := 2, constantValue := 0 }, { name := "hashIsZero", type := .boolean, accessFlags := 2, slot := 3, constantValue := 0 }, { name := "serialVersionUID", type := .long, accessFlags := 26, slot := 0, constantValue := 0 }, { name := "COMPACT_STRINGS", type := .boolean, accessFlags := 24, slot := 1, constantValue := 0 }, { name := "serialPersistentFields", type := (.array (.object "java/io/ObjectStreamField")), accessFlags := 26, slot := 2, constantValue := 0 }, { name := "REPL", type := .char, accessFlags := 26, slot := 3, constantValue := 0 }, { name := "CASE_INSENSITIVE_ORDER", type := (.object "java/util/Comparator"), accessFlags := 25, slot := 4, constantValue := 0 }, { name := "LATIN1", type := .byte, accessFlags := 24, slot := 5, constantValue := 0 }, { name := "UTF16", type := .byte, accessFlags := 24, slot := 6, constantValue := 0 }]
  methods := #[k7m0, k7m1, k7m2, k7m3]
  instanceTypes := #[(.array .byte), .byte, .int, .boolean]
  staticTypes := #[.long, .boolean, (.array (.object "java/io/ObjectStreamField")), .char, (.object "java/util/Comparator"), .byte, .byte]
  resolved := Array.replicate 1451 none
  statics := some 0 }

def pool8 : Array CpInfo := pool [(6, .class_ 8), (1, u "java/lang/Object"), (0, u "<init>"), (0, u "()V"), (1, .class_ 14), (1, u "java/lang/StringUTF16"), (31, u "$assertionsDisabled"), (0, u "Z"), (13, u "HI_BYTE_SHIFT"), (0, u "I"), (2, u "LO_BYTE_SHIFT"), (49, .methodref 12 116), (0, .nameAndType 117 118), (0, u "compress"), (0, u "([CI[BII)I"), (3, u "([CII)[B"), (138, u "coderFromArrayLen"), (0, u "([BI)B"), (106, .class_ 371), (1, u "java/lang/StringUTF16$LinesSpliterator"), (58, u "MAX_LENGTH"), (196, .class_ 628), (0, u "java/lang/StringUTF16$CodePointsSpliterator"), (0, .class_ 630), (0, u "java/lang/StringUTF16$CharsSpliterator")] 4

def k8m0 : Method := { name := "<init>", desc := "()V", sig := { parameters := [], returnType := none }, accessFlags := 0, code := none }
def k8c1 : Code := { maxStack := 2, maxLocals := 2, code := jdk_52_method_15_code, exceptionTable := #[], attributes := #[] }
def k8m1 : Method := { name := "coderFromArrayLen", desc := "([BI)B", sig := { parameters := [(.array .byte), .int], returnType := some .byte }, accessFlags := 8, code := some k8c1 }
def k8c2 : Code := { maxStack := 5, maxLocals := 6, code := jdk_52_method_16_code, exceptionTable := #[], attributes := #[] }
def k8m2 : Method := { name := "compress", desc := "([CII)[B", sig := { parameters := [(.array .char), .int, .int], returnType := some (.array .byte) }, accessFlags := 9, code := some k8c2 }
def k8c3 : Code := { maxStack := 3, maxLocals := 7, code := jdk_52_method_21_code, exceptionTable := #[], attributes := #[] }
def k8m3 : Method := { name := "compress", desc := "([CI[BII)I", sig := { parameters := [(.array .char), .int, (.array .byte), .int, .int], returnType := some .int }, accessFlags := 9, code := some k8c3 }
/-- java/lang/StringUTF16 -/
def k8 : Class := { plain "java/lang/StringUTF16" (some 0) with
  accessFlags := 48
  interfaces := #[]
  cf := some (fileOf pool8 12 #[.nestMembers #[627, 629, 369]] #[{ accessFlags := 0, nameIndex := 9, descriptorIndex := 10, attributes := #[] }, { accessFlags := 8, nameIndex := 261, descriptorIndex := 262, attributes := #[] }, { accessFlags := 9, nameIndex := 117, descriptorIndex := 122, attributes := #[] }, { accessFlags := 9, nameIndex := 117, descriptorIndex := 118, attributes := #[] }] 48 6 #[] #[{ accessFlags := 26, nameIndex := 61, descriptorIndex := 62, attributes := #[] }, { accessFlags := 26, nameIndex := 65, descriptorIndex := 62, attributes := #[] }, { accessFlags := 24, nameIndex := 430, descriptorIndex := 62, attributes := #[] }, { accessFlags := 4120, nameIndex := 46, descriptorIndex := 47, attributes := #[] }])
  fields := #[{ name := "HI_BYTE_SHIFT", type := .int, accessFlags := 26, slot := 0, constantValue := 0 }, { name := "LO_BYTE_SHIFT", type := .int, accessFlags := 26, slot := 1, constantValue := 0 }, { name := "MAX_LENGTH", type := .int, accessFlags := 24, slot := 2, constantValue := 0 }, { name := "$assertionsDisabled", type := .boolean, accessFlags := 4120, slot := 3, constantValue := 0 }]
  methods := #[k8m0, k8m1, k8m2, k8m3]
  instanceTypes := #[]
  staticTypes := #[.int, .int, .int, .boolean]
  resolved := Array.replicate 635 none
  statics := none }

def pool9 : Array CpInfo := pool [(1, .methodref 2 3), (0, .class_ 4), (0, .nameAndType 5 6), (0, u "com/example/heft/heft/rank/Parameter"), (0, u "<init>"), (0, u "(Ljava/lang/String;DDZDZ)V"), (0, .methodref 8 9), (0, .class_ 10), (0, .nameAndType 5 11), (0, u "java/lang/Object"), (0, u "()V"), (0, .fieldref 2 13), (0, .nameAndType 14 15), (0, u "name"), (0, u "Ljava/lang/String;"), (0, .fieldref 2 17), (0, .nameAndType 18 19), (0, u "defaultValue"), (0, u "D"), (0, .fieldref 2 21), (0, .nameAndType 22 19), (0, u "min"), (0, .fieldref 2 24), (0, .nameAndType 25 26), (0, u "minAllowed"), (0, u "Z"), (0, .fieldref 2 28), (0, .nameAndType 29 19), (0, u "max"), (0, .fieldref 2 31), (0, .nameAndType 32 26), (0, u "maxAllowed"), (0, .class_ 34), (0, u "java/lang/Double"), (0, .double 9218868437227405312), (1, .methodref 33 38), (0, .nameAndType 39 40), (0, u "isFinite"), (0, u "(D)Z"), (5, u "()Ljava/lang/String;"), (46, u "greaterThan"), (0, u "(Ljava/lang/String;DD)Lcom/example/heft/heft/rank/Parameter;"), (2, u "()D"), (0, u "check"), (0, u "(D)V")] 26

def k9c0 : Code := { maxStack := 3, maxLocals := 10, code := prog_32_method_2_code, exceptionTable := #[], attributes := #[] }
def k9m0 : Method := { name := "<init>", desc := "(Ljava/lang/String;DDZDZ)V", sig := { parameters := [(.object "java/lang/String"), .double, .double, .boolean, .double, .boolean], returnType := none }, accessFlags := 2, code := some k9c0 }
def k9c1 : Code := { maxStack := 11, maxLocals := 5, code := prog_32_method_3_code, exceptionTable := #[], attributes := #[] }
def k9m1 : Method := { name := "greaterThan", desc := "(Ljava/lang/String;DD)Lcom/example/heft/heft/rank/Parameter;", sig := { parameters := [(.object "java/lang/String"), .double, .double], returnType := some (.object "com/example/heft/heft/rank/Parameter") }, accessFlags := 9, code := some k9c1 }
def k9c2 : Code := { maxStack := 1, maxLocals := 1, code := prog_32_method_5_code, exceptionTable := #[], attributes := #[] }
def k9m2 : Method := { name := "name", desc := "()Ljava/lang/String;", sig := { parameters := [], returnType := some (.object "java/lang/String") }, accessFlags := 1, code := some k9c2 }
def k9c3 : Code := { maxStack := 2, maxLocals := 1, code := prog_32_method_6_code, exceptionTable := #[], attributes := #[] }
def k9m3 : Method := { name := "defaultValue", desc := "()D", sig := { parameters := [], returnType := some .double }, accessFlags := 1, code := some k9c3 }
def k9c4 : Code := { maxStack := 6, maxLocals := 5, code := prog_32_method_7_code, exceptionTable := #[], attributes := #[] }
def k9m4 : Method := { name := "check", desc := "(D)V", sig := { parameters := [.double], returnType := none }, accessFlags := 0, code := some k9c4 }
/-- com/example/heft/heft/rank/Parameter -/
def k9 : Class := { plain "com/example/heft/heft/rank/Parameter" (some 0) with
  accessFlags := 49
  interfaces := #[]
  cf := some (fileOf pool9 2 #[] #[{ accessFlags := 2, nameIndex := 5, descriptorIndex := 6, attributes := #[] }, { accessFlags := 9, nameIndex := 93, descriptorIndex := 94, attributes := #[] }, { accessFlags := 1, nameIndex := 14, descriptorIndex := 46, attributes := #[] }, { accessFlags := 1, nameIndex := 18, descriptorIndex := 97, attributes := #[] }, { accessFlags := 0, nameIndex := 98, descriptorIndex := 99, attributes := #[] }] 49 8 #[] #[{ accessFlags := 18, nameIndex := 14, descriptorIndex := 15, attributes := #[] }, { accessFlags := 18, nameIndex := 18, descriptorIndex := 19, attributes := #[] }, { accessFlags := 18, nameIndex := 22, descriptorIndex := 19, attributes := #[] }, { accessFlags := 18, nameIndex := 25, descriptorIndex := 26, attributes := #[] }, { accessFlags := 18, nameIndex := 29, descriptorIndex := 19, attributes := #[] }, { accessFlags := 18, nameIndex := 32, descriptorIndex := 26, attributes := #[] }])
  fields := #[{ name := "name", type := (.object "java/lang/String"), accessFlags := 18, slot := 0, constantValue := 0 }, { name := "defaultValue", type := .double, accessFlags := 18, slot := 1, constantValue := 0 }, { name := "min", type := .double, accessFlags := 18, slot := 2, constantValue := 0 }, { name := "minAllowed", type := .boolean, accessFlags := 18, slot := 3, constantValue := 0 }, { name := "max", type := .double, accessFlags := 18, slot := 4, constantValue := 0 }, { name := "maxAllowed", type := .boolean, accessFlags := 18, slot := 5, constantValue := 0 }]
  methods := #[k9m0, k9m1, k9m2, k9m3, k9m4]
  instanceTypes := #[(.object "java/lang/String"), .double, .double, .boolean, .double, .boolean]
  staticTypes := #[]
  resolved := Array.replicate 126 none
  statics := none }

def pool10 : Array CpInfo := pool [(2, .class_ 4), (1, u "java/lang/Object"), (0, u "<init>"), (0, u "()V"), (1, .class_ 10), (1, u "java/lang/Number"), (2, .class_ 14), (0, u "java/io/Serializable"), (0, u "serialVersionUID"), (0, u "J")] 20

def k10m0 : Method := { name := "<init>", desc := "()V", sig := { parameters := [], returnType := none }, accessFlags := 1, code := none }
/-- java/lang/Number -/
def k10 : Class := { plain "java/lang/Number" (some 0) with
  accessFlags := 1057
  interfaces := #[2]
  cf := some (fileOf pool10 8 #[] #[{ accessFlags := 1, nameIndex := 5, descriptorIndex := 6, attributes := #[] }] 1057 2 #[13] #[{ accessFlags := 26, nameIndex := 15, descriptorIndex := 16, attributes := #[] }])
  fields := #[{ name := "serialVersionUID", type := .long, accessFlags := 26, slot := 0, constantValue := 0 }]
  methods := #[k10m0]
  instanceTypes := #[]
  staticTypes := #[.long]
  resolved := Array.replicate 37 none
  statics := none }

def pool11 : Array CpInfo := pool [(1, .class_ 2), (0, u "java/lang/Double"), (10, u "isFinite"), (0, u "(D)Z"), (8, .class_ 25), (1, u "java/lang/Math"), (12, .methodref 23 39), (0, .nameAndType 40 41), (0, u "abs"), (0, u "(D)D"), (69, .double 9218868437227405311), (2, .class_ 116), (1, u "java/lang/Number"), (3, u "value"), (0, u "D"), (51, u "TYPE"), (0, u "Ljava/lang/Class;"), (0, .class_ 176), (0, u "java/lang/Comparable"), (0, .class_ 178), (0, u "java/lang/constant/Constable"), (0, .class_ 180), (0, u "java/lang/constant/ConstantDesc"), (0, u "POSITIVE_INFINITY"), (3, u "NEGATIVE_INFINITY"), (2, u "NaN"), (2, u "MAX_VALUE"), (0, u "MIN_NORMAL"), (0, u "MIN_VALUE"), (2, u "SIZE"), (0, u "I"), (1, u "PRECISION"), (1, u "MAX_EXPONENT"), (1, u "MIN_EXPONENT"), (1, u "BYTES"), (3, u "serialVersionUID"), (0, u "J")] 79

def k11c0 : Code := { maxStack := 4, maxLocals := 2, code := jdk_117_method_8_code, exceptionTable := #[], attributes := #[] }
def k11m0 : Method := { name := "isFinite", desc := "(D)Z", sig := { parameters := [.double], returnType := some .boolean }, accessFlags := 9, code := some k11c0 }
/-- java/lang/Double -/
def k11 : Class := { plain "java/lang/Double" (some 10) with
  accessFlags := 49
  interfaces := #[3, 5, 6]
  cf := some (fileOf pool11 1 #[] #[{ accessFlags := 9, nameIndex := 13, descriptorIndex := 14, attributes := #[] }] 49 114 #[175, 177, 179] #[{ accessFlags := 25, nameIndex := 181, descriptorIndex := 121, attributes := #[] }, { accessFlags := 25, nameIndex := 185, descriptorIndex := 121, attributes := #[] }, { accessFlags := 25, nameIndex := 188, descriptorIndex := 121, attributes := #[] }, { accessFlags := 25, nameIndex := 191, descriptorIndex := 121, attributes := #[] }, { accessFlags := 25, nameIndex := 192, descriptorIndex := 121, attributes := #[] }, { accessFlags := 25, nameIndex := 193, descriptorIndex := 121, attributes := #[] }, { accessFlags := 25, nameIndex := 196, descriptorIndex := 197, attributes := #[] }, { accessFlags := 25, nameIndex := 199, descriptorIndex := 197, attributes := #[] }, { accessFlags := 25, nameIndex := 201, descriptorIndex := 197, attributes := #[] }, { accessFlags := 25, nameIndex := 203, descriptorIndex := 197, attributes := #[] }, { accessFlags := 25, nameIndex := 205, descriptorIndex := 197, attributes := #[] }, { accessFlags := 25, nameIndex := 173, descriptorIndex := 174, attributes := #[] }, { accessFlags := 18, nameIndex := 120, descriptorIndex := 121, attributes := #[] }, { accessFlags := 26, nameIndex := 209, descriptorIndex := 210, attributes := #[] }])
  fields := #[{ name := "POSITIVE_INFINITY", type := .double, accessFlags := 25, slot := 0, constantValue := 0 }, { name := "NEGATIVE_INFINITY", type := .double, accessFlags := 25, slot := 1, constantValue := 0 }, { name := "NaN", type := .double, accessFlags := 25, slot := 2, constantValue := 0 }, { name := "MAX_VALUE", type := .double, accessFlags := 25, slot := 3, constantValue := 0 }, { name := "MIN_NORMAL", type := .double, accessFlags := 25, slot := 4, constantValue := 0 }, { name := "MIN_VALUE", type := .double, accessFlags := 25, slot := 5, constantValue := 0 }, { name := "SIZE", type := .int, accessFlags := 25, slot := 6, constantValue := 0 }, { name := "PRECISION", type := .int, accessFlags := 25, slot := 7, constantValue := 0 }, { name := "MAX_EXPONENT", type := .int, accessFlags := 25, slot := 8, constantValue := 0 }, { name := "MIN_EXPONENT", type := .int, accessFlags := 25, slot := 9, constantValue := 0 }, { name := "BYTES", type := .int, accessFlags := 25, slot := 10, constantValue := 0 }, { name := "TYPE", type := (.object "java/lang/Class"), accessFlags := 25, slot := 11, constantValue := 0 }, { name := "value", type := .double, accessFlags := 18, slot := 0, constantValue := 0 }, { name := "serialVersionUID", type := .long, accessFlags := 26, slot := 12, constantValue := 0 }]
  methods := #[k11m0]
  instanceTypes := #[.double]
  staticTypes := #[.double, .double, .double, .double, .double, .double, .int, .int, .int, .int, .int, (.object "java/lang/Class"), .long]
  resolved := Array.replicate 290 none
  statics := none }

def pool12 : Array CpInfo := pool [(1, .class_ 2), (0, u "java/lang/Math"), (1, .class_ 6), (1, u "java/lang/Object"), (0, u "<init>"), (0, u "()V"), (5, u "(D)D"), (83, .class_ 100), (1, u "java/lang/Math$RandomNumberGeneratorHolder"), (23, u "abs"), (47, u "negativeZeroFloatBits"), (0, u "J"), (2, u "negativeZeroDoubleBits"), (68, u "$assertionsDisabled"), (0, u "Z"), (91, u "twoToTheDoubleScaleDown"), (0, u "D"), (4, u "twoToTheDoubleScaleUp"), (9, u "E"), (3, u "PI"), (2, u "TAU"), (2, u "DEGREES_TO_RADIANS"), (0, u "RADIANS_TO_DEGREES")] 94

def k12m0 : Method := { name := "<init>", desc := "()V", sig := { parameters := [], returnType := none }, accessFlags := 2, code := none }
def k12c1 : Code := { maxStack := 4, maxLocals := 2, code := jdk_29_method_64_code, exceptionTable := #[], attributes := #[] }
def k12m1 : Method := { name := "abs", desc := "(D)D", sig := { parameters := [.double], returnType := some .double }, accessFlags := 9, code := some k12c1 }
/-- java/lang/Math -/
def k12 : Class := { plain "java/lang/Math" (some 0) with
  accessFlags := 49
  interfaces := #[]
  cf := some (fileOf pool12 1 #[.nestMembers #[98]] #[{ accessFlags := 2, nameIndex := 7, descriptorIndex := 8, attributes := #[] }, { accessFlags := 9, nameIndex := 124, descriptorIndex := 14, attributes := #[] }] 49 4 #[] #[{ accessFlags := 25, nameIndex := 354, descriptorIndex := 339, attributes := #[] }, { accessFlags := 25, nameIndex := 358, descriptorIndex := 339, attributes := #[] }, { accessFlags := 25, nameIndex := 361, descriptorIndex := 339, attributes := #[] }, { accessFlags := 26, nameIndex := 364, descriptorIndex := 339, attributes := #[] }, { accessFlags := 26, nameIndex := 365, descriptorIndex := 339, attributes := #[] }, { accessFlags := 26, nameIndex := 172, descriptorIndex := 173, attributes := #[] }, { accessFlags := 26, nameIndex := 176, descriptorIndex := 173, attributes := #[] }, { accessFlags := 8, nameIndex := 344, descriptorIndex := 339, attributes := #[] }, { accessFlags := 8, nameIndex := 338, descriptorIndex := 339, attributes := #[] }, { accessFlags := 4120, nameIndex := 245, descriptorIndex := 246, attributes := #[] }])
  fields := #[{ name := "E", type := .double, accessFlags := 25, slot := 0, constantValue := 0 }, { name := "PI", type := .double, accessFlags := 25, slot := 1, constantValue := 0 }, { name := "TAU", type := .double, accessFlags := 25, slot := 2, constantValue := 0 }, { name := "DEGREES_TO_RADIANS", type := .double, accessFlags := 26, slot := 3, constantValue := 0 }, { name := "RADIANS_TO_DEGREES", type := .double, accessFlags := 26, slot := 4, constantValue := 0 }, { name := "negativeZeroFloatBits", type := .long, accessFlags := 26, slot := 5, constantValue := 0 }, { name := "negativeZeroDoubleBits", type := .long, accessFlags := 26, slot := 6, constantValue := 0 }, { name := "twoToTheDoubleScaleUp", type := .double, accessFlags := 8, slot := 7, constantValue := 0 }, { name := "twoToTheDoubleScaleDown", type := .double, accessFlags := 8, slot := 8, constantValue := 0 }, { name := "$assertionsDisabled", type := .boolean, accessFlags := 4120, slot := 9, constantValue := 0 }]
  methods := #[k12m0, k12m1]
  instanceTypes := #[]
  staticTypes := #[.double, .double, .double, .double, .double, .long, .long, .double, .double, .boolean]
  resolved := Array.replicate 460 none
  statics := none }

def pool13 : Array CpInfo := pool [(4, .class_ 6), (1, u "java/lang/Object"), (0, u "<init>"), (0, u "()V"), (5, .class_ 16), (1, u "java/lang/StringLatin1"), (104, u "$assertionsDisabled"), (0, u "Z"), (98, .class_ 223), (1, u "java/lang/StringLatin1$LinesSpliterator"), (166, .class_ 391), (0, u "java/lang/StringLatin1$CharsSpliterator")] 3

def k13m0 : Method := { name := "<init>", desc := "()V", sig := { parameters := [], returnType := none }, accessFlags := 0, code := none }
/-- java/lang/StringLatin1 -/
def k13 : Class := { plain "java/lang/StringLatin1" (some 0) with
  accessFlags := 48
  interfaces := #[]
  cf := some (fileOf pool13 14 #[.nestMembers #[390, 221]] #[{ accessFlags := 0, nameIndex := 7, descriptorIndex := 8, attributes := #[] }] 48 4 #[] #[{ accessFlags := 4120, nameIndex := 121, descriptorIndex := 122, attributes := #[] }])
  fields := #[{ name := "$assertionsDisabled", type := .boolean, accessFlags := 4120, slot := 0, constantValue := 0 }]
  methods := #[k13m0]
  instanceTypes := #[]
  staticTypes := #[.boolean]
  resolved := Array.replicate 395 none
  statics := none }

def pool14 : Array CpInfo := pool [(2, .class_ 4), (1, u "java/lang/Object"), (0, u "<init>"), (0, u "()V"), (17, .class_ 26), (1, u "jdk/internal/util/Preconditions"), (28, .class_ 56), (0, u "jdk/internal/util/Preconditions$4"), (57, .class_ 115), (0, u "jdk/internal/util/Preconditions$1"), (7, u "SIOOBE_FORMATTER"), (0, u "Ljava/util/function/BiFunction;"), (0, .class_ 126), (0, u "jdk/internal/util/Preconditions$2"), (3, u "AIOOBE_FORMATTER"), (0, .class_ 132), (0, u "jdk/internal/util/Preconditions$3"), (3, u "IOOBE_FORMATTER")] 57

def k14m0 : Method := { name := "<init>", desc := "()V", sig := { parameters := [], returnType := none }, accessFlags := 1, code := none }
/-- jdk/internal/util/Preconditions -/
def k14 : Class := { plain "jdk/internal/util/Preconditions" (some 0) with
  accessFlags := 33
  interfaces := #[]
  cf := some (fileOf pool14 24 #[.nestMembers #[55, 131, 125, 114]] #[{ accessFlags := 1, nameIndex := 5, descriptorIndex := 6, attributes := #[] }] 33 2 #[] #[{ accessFlags := 25, nameIndex := 123, descriptorIndex := 124, attributes := #[] }, { accessFlags := 25, nameIndex := 130, descriptorIndex := 124, attributes := #[] }, { accessFlags := 25, nameIndex := 136, descriptorIndex := 124, attributes := #[] }])
  fields := #[{ name := "SIOOBE_FORMATTER", type := (.object "java/util/function/BiFunction"), accessFlags := 25, slot := 0, constantValue := 0 }, { name := "AIOOBE_FORMATTER", type := (.object "java/util/function/BiFunction"), accessFlags := 25, slot := 1, constantValue := 0 }, { name := "IOOBE_FORMATTER", type := (.object "java/util/function/BiFunction"), accessFlags := 25, slot := 2, constantValue := 0 }]
  methods := #[k14m0]
  instanceTypes := #[]
  staticTypes := #[(.object "java/util/function/BiFunction"), (.object "java/util/function/BiFunction"), (.object "java/util/function/BiFunction")]
  resolved := Array.replicate 194 none
  statics := some 1 }

def pool15 : Array CpInfo := pool [(9, u "<init>"), (6, .class_ 18), (1, u "java/lang/Object"), (0, u "()V"), (1, .class_ 23), (1, u "jdk/internal/util/ArraysSupport"), (0, u "LOG2_ARRAY_LONG_INDEX_SCALE"), (0, u "I"), (2, u "U"), (0, u "Ljdk/internal/misc/Unsafe;"), (8, u "BIG_ENDIAN"), (0, u "Z"), (8, u "LOG2_BYTE_BIT_SIZE"), (4, u "LOG2_ARRAY_INT_INDEX_SCALE"), (54, u "JLA"), (0, u "Ljdk/internal/access/JavaLangAccess;"), (11, u "LOG2_ARRAY_BOOLEAN_INDEX_SCALE"), (9, u "LOG2_ARRAY_BYTE_INDEX_SCALE"), (5, u "LOG2_ARRAY_CHAR_INDEX_SCALE"), (5, u "LOG2_ARRAY_SHORT_INDEX_SCALE"), (18, u "LOG2_ARRAY_FLOAT_INDEX_SCALE"), (24, u "LOG2_ARRAY_DOUBLE_INDEX_SCALE"), (89, u "T_BOOLEAN"), (2, u "T_CHAR"), (1, u "T_FLOAT"), (1, u "T_DOUBLE"), (1, u "T_BYTE"), (1, u "T_SHORT"), (1, u "T_INT"), (1, u "T_LONG"), (1, u "SOFT_MAX_ARRAY_LENGTH")] 83

def k15m0 : Method := { name := "<init>", desc := "()V", sig := { parameters := [], returnType := none }, accessFlags := 2, code := none }
/-- jdk/internal/util/ArraysSupport -/
def k15 : Class := { plain "jdk/internal/util/ArraysSupport" (some 0) with
  accessFlags := 33
  interfaces := #[]
  cf := some (fileOf pool15 21 #[] #[{ accessFlags := 2, nameIndex := 9, descriptorIndex := 19, attributes := #[] }] 33 16 #[] #[{ accessFlags := 24, nameIndex := 28, descriptorIndex := 29, attributes := #[] }, { accessFlags := 26, nameIndex := 38, descriptorIndex := 39, attributes := #[] }, { accessFlags := 25, nameIndex := 121, descriptorIndex := 25, attributes := #[] }, { accessFlags := 25, nameIndex := 131, descriptorIndex := 25, attributes := #[] }, { accessFlags := 25, nameIndex := 137, descriptorIndex := 25, attributes := #[] }, { accessFlags := 25, nameIndex := 143, descriptorIndex := 25, attributes := #[] }, { accessFlags := 25, nameIndex := 53, descriptorIndex := 25, attributes := #[] }, { accessFlags := 25, nameIndex := 24, descriptorIndex := 25, attributes := #[] }, { accessFlags := 25, nameIndex := 162, descriptorIndex := 25, attributes := #[] }, { accessFlags := 25, nameIndex := 187, descriptorIndex := 25, attributes := #[] }, { accessFlags := 26, nameIndex := 48, descriptorIndex := 25, attributes := #[] }, { accessFlags := 25, nameIndex := 277, descriptorIndex := 25, attributes := #[] }, { accessFlags := 25, nameIndex := 280, descriptorIndex := 25, attributes := #[] }, { accessFlags := 25, nameIndex := 282, descriptorIndex := 25, attributes := #[] }, { accessFlags := 25, nameIndex := 284, descriptorIndex := 25, attributes := #[] }, { accessFlags := 25, nameIndex := 286, descriptorIndex := 25, attributes := #[] }, { accessFlags := 25, nameIndex := 288, descriptorIndex := 25, attributes := #[] }, { accessFlags := 25, nameIndex := 290, descriptorIndex := 25, attributes := #[] }, { accessFlags := 25, nameIndex := 292, descriptorIndex := 25, attributes := #[] }, { accessFlags := 26, nameIndex := 108, descriptorIndex := 109, attributes := #[] }, { accessFlags := 25, nameIndex := 294, descriptorIndex := 25, attributes := #[] }])
  fields := #[{ name := "U", type := (.object "jdk/internal/misc/Unsafe"), accessFlags := 24, slot := 0, constantValue := 0 }, { name := "BIG_ENDIAN", type := .boolean, accessFlags := 26, slot := 1, constantValue := 0 }, { name := "LOG2_ARRAY_BOOLEAN_INDEX_SCALE", type := .int, accessFlags := 25, slot := 2, constantValue := 0 }, { name := "LOG2_ARRAY_BYTE_INDEX_SCALE", type := .int, accessFlags := 25, slot := 3, constantValue := 0 }, { name := "LOG2_ARRAY_CHAR_INDEX_SCALE", type := .int, accessFlags := 25, slot := 4, constantValue := 0 }, { name := "LOG2_ARRAY_SHORT_INDEX_SCALE", type := .int, accessFlags := 25, slot := 5, constantValue := 0 }, { name := "LOG2_ARRAY_INT_INDEX_SCALE", type := .int, accessFlags := 25, slot := 6, constantValue := 0 }, { name := "LOG2_ARRAY_LONG_INDEX_SCALE", type := .int, accessFlags := 25, slot := 7, constantValue := 0 }, { name := "LOG2_ARRAY_FLOAT_INDEX_SCALE", type := .int, accessFlags := 25, slot := 8, constantValue := 0 }, { name := "LOG2_ARRAY_DOUBLE_INDEX_SCALE", type := .int, accessFlags := 25, slot := 9, constantValue := 0 }, { name := "LOG2_BYTE_BIT_SIZE", type := .int, accessFlags := 26, slot := 10, constantValue := 0 }, { name := "T_BOOLEAN", type := .int, accessFlags := 25, slot := 11, constantValue := 0 }, { name := "T_CHAR", type := .int, accessFlags := 25, slot := 12, constantValue := 0 }, { name := "T_FLOAT", type := .int, accessFlags := 25, slot := 13, constantValue := 0 }, { name := "T_DOUBLE", type := .int, accessFlags := 25, slot := 14, constantValue := 0 }, { name := "T_BYTE", type := .int, accessFlags := 25, slot := 15, constantValue := 0 }, { name := "T_SHORT", type := .int, accessFlags := 25, slot := 16, constantValue := 0 }, { name := "T_INT", type := .int, accessFlags := 25, slot := 17, constantValue := 0 }, { name := "T_LONG", type := .int, accessFlags := 25, slot := 18, constantValue := 0 }, { name := "JLA", type := (.object "jdk/internal/access/JavaLangAccess"), accessFlags := 26, slot := 19, constantValue := 0 }, { name := "SOFT_MAX_ARRAY_LENGTH", type := .int, accessFlags := 25, slot := 20, constantValue := 0 }]
  methods := #[k15m0]
  instanceTypes := #[]
  staticTypes := #[(.object "jdk/internal/misc/Unsafe"), .boolean, .int, .int, .int, .int, .int, .int, .int, .int, .int, .int, .int, .int, .int, .int, .int, .int, .int, (.object "jdk/internal/access/JavaLangAccess"), .int]
  resolved := Array.replicate 378 none
  statics := none }

def pool16 : Array CpInfo := pool [(1, u "java/lang/Cloneable"), (0, .class_ 1), (0, u "java/lang/Object"), (0, .class_ 3)] 3

/-- java/lang/Cloneable -/
def k16 : Class := { plain "java/lang/Cloneable" (some 0) with
  accessFlags := 1537
  interfaces := #[]
  cf := some (fileOf pool16 2 #[] #[] 1537 4 #[] #[])
  fields := #[]
  methods := #[]
  instanceTypes := #[]
  staticTypes := #[]
  resolved := Array.replicate 8 none
  statics := none }

/-- the primitive byte -/
def k17 : Class := { plain "byte" none with kind := .primitive 'B', accessFlags := 0x411 }
/-- [B -/
def k18 : Class := { plain "[B" (some 0) with kind := .array 17 .byte, interfaces := #[16, 2], accessFlags := 1041 }

/-- the primitive char -/
def k19 : Class := { plain "char" none with kind := .primitive 'C', accessFlags := 0x411 }
/-- [C -/
def k20 : Class := { plain "[C" (some 0) with kind := .array 19 .char, interfaces := #[16, 2], accessFlags := 1041 }

/-- the primitive int -/
def k21 : Class := { plain "int" none with kind := .primitive 'I', accessFlags := 0x411 }
/-- [I -/
def k22 : Class := { plain "[I" (some 0) with kind := .array 21 .int, interfaces := #[16, 2], accessFlags := 1041 }

def heap : Heap := #[{ cls := 7, slots := #[.long 0, .int 1, .null, .int 0, .null, .int 0, .int 0], vm := .statics 7 },
  { cls := 14, slots := #[.null, .null, .null], vm := .statics 14 }]
def classes : Array Class := #[k0, k1, k2, k3, k4, k5, k6, k7, k8, k9, k10, k11, k12, k13, k14, k15, k16, k17, k18, k19, k20, k21, k22]
def interned : List (Array UInt16 × Addr) := []
def slotsUsed : Nat := 10
def theMethod : MethodId := ⟨1, 1⟩
def args0 : Array Value := #[.int 16961, .int 6, .int 7, .int 9, .long 4]
def aboutOver (below : List Frame) : State where
  vm := { classes := classes, interned := interned.toArray }
  heap := heap
  slotsUsed := slotsUsed
  threads := #[{ frames := .invoking theMethod args0 :: below }]
def below0 : List Frame := [.native { method := ⟨0, 0⟩, args := #[] }]
def about1 : State := aboutOver below0
def p0 : Program := .bare "" "" ""
def e0 : Env := launch0.env 0 0 0
theorem w_frames : about1.frames = Frame.invoking theMethod args0 :: below0 := rfl
set_option maxRecDepth 65536 in
theorem w_args : argsFit about1.vm theMethod args0 = true := by decide +kernel
set_option maxRecDepth 65536 in
theorem w_heap : heapFits about1 = true := by decide +kernel
set_option maxRecDepth 65536 in
theorem w_runnable : about1.curStatus? = some .runnable := by decide +kernel
set_option maxRecDepth 65536 in
theorem w_alone : about1.alone = true := by decide +kernel
set_option maxRecDepth 65536 in
theorem w_named : about1.methodNamed? x = some theMethod := by decide +kernel
set_option maxRecDepth 65536 in
theorem w_hears : about1.hears theMethod below0 = true := by decide +kernel
set_option maxRecDepth 65536 in
theorem w_ripe : about1.ripe theMethod args0 below0 = true := by decide +kernel
theorem w_running : about1.status = .running := rfl
set_option maxRecDepth 65536 in
theorem w_room : about1.hasRoom e0.platform room_1 = true :=
  launch0.hasRoom_least _ room_1 (by decide +kernel) (by decide +kernel) (by decide +kernel) (by decide +kernel) (by decide +kernel) (by decide +kernel)
theorem allAtoms_all (ts : List Jvm.Cond) (a : Array Jvm.Value) (st : Jvm.State) : (allAtoms ts).before a st = ts.all (fun c => c.before a st) := by
  induction ts with
  | nil => rfl
  | cons c t ih =>
    show (Jvm.Cond.and c (allAtoms t)).before a st = _
    rw [Jvm.Cond.before_and, ih, List.all_cons]
def words1 : List Jvm.Cond := Jvm.Cond.code x code maxLocals ret :: tables_1
/-- a 'code' word, met by the world's own term for the bytes: nothing is compared byte by byte -/
theorem code_word {y : MethodName} {bytes : ByteArray} {mx : Nat} {rt : Option FieldType} {a : Array Value} {s : State} {m : MethodId} {meth : Method} {c : Code} (h1 : s.methodNamed? y = some m) (h2 : s.vm.method? m = some meth) (h3 : meth.code = some c) (h4 : c.code = bytes)
    (h5 : (c.maxLocals == mx && c.exceptionTable.isEmpty && decide (c.maxStack ≤ mostOperands) && decide (meth.sig.returnType = rt) && !meth.locks && decide (parseMethodDescriptor y.desc = some meth.sig)) = true) : (Jvm.Cond.code y bytes mx rt).before a s = true := by
  simp only [Bool.and_eq_true, beq_iff_eq, Bool.not_eq_true', decide_eq_true_eq] at h5
  obtain ⟨⟨⟨⟨⟨g1, g2⟩, g3⟩, g4⟩, g5⟩, g6⟩ := h5
  simp [Cond.before, Cond.holds, Cond.value, h1, h2, h3, h4, g1, g2, g3, g4, g5, g6]
def isCode : Jvm.Cond → Bool
  | .code _ _ _ _ => true
  | _ => false
theorem all_split {L : List Jvm.Cond} {P : Jvm.Cond → Bool} (h1 : L.all (fun c => isCode c || P c) = true) (h2 : ∀ c ∈ L.filter isCode, P c = true) : L.all P = true := by
  refine List.all_eq_true.mpr fun c hc => ?_
  have h := List.all_eq_true.mp h1 c hc
  rcases Bool.eq_false_or_eq_true (isCode c) with hi | hi
  · exact h2 c (List.mem_filter.mpr ⟨hc, hi⟩)
  · simpa [hi] using h
set_option maxRecDepth 65536 in
theorem w_c0 : (Jvm.Cond.code x code maxLocals ret).before args0 about1 = true := code_word (m := ⟨1, 1⟩) (meth := k1m1) (c := k1c1) (by decide +kernel) rfl rfl rfl (by decide +kernel)
set_option maxRecDepth 65536 in
theorem w_c1 : (Jvm.Cond.code ({ cls := "java/lang/String", name := "<init>", desc := "([C)V" } : Jvm.MethodName) jdk_42_method_3_code (2 : Nat) (Option.none : Option Jvm.ClassFile.FieldType)).before args0 about1 = true := code_word (m := ⟨7, 1⟩) (meth := k7m1) (c := k7c1) (by decide +kernel) rfl rfl rfl (by decide +kernel)
set_option maxRecDepth 65536 in
theorem w_c2 : (Jvm.Cond.code ({ cls := "java/lang/String", name := "<init>", desc := "([CIILjava/lang/Void;)V" } : Jvm.MethodName) jdk_42_method_149_code (6 : Nat) (Option.none : Option Jvm.ClassFile.FieldType)).before args0 about1 = true := code_word (m := ⟨7, 3⟩) (meth := k7m3) (c := k7c3) (by decide +kernel) rfl rfl rfl (by decide +kernel)
set_option maxRecDepth 65536 in
theorem w_c3 : (Jvm.Cond.code ({ cls := "java/lang/Object", name := "<init>", desc := "()V" } : Jvm.MethodName) object_method_1_code (1 : Nat) (Option.none : Option Jvm.ClassFile.FieldType)).before args0 about1 = true := code_word (m := ⟨0, 0⟩) (meth := k0m0) (c := k0c0) (by decide +kernel) rfl rfl rfl (by decide +kernel)
set_option maxRecDepth 65536 in
theorem w_c4 : (Jvm.Cond.code ({ cls := "java/lang/StringUTF16", name := "compress", desc := "([CII)[B" } : Jvm.MethodName) jdk_52_method_16_code (6 : Nat) (Option.some (Jvm.ClassFile.FieldType.array Jvm.ClassFile.FieldType.byte))).before args0 about1 = true := code_word (m := ⟨8, 2⟩) (meth := k8m2) (c := k8c2) (by decide +kernel) rfl rfl rfl (by decide +kernel)
set_option maxRecDepth 65536 in
theorem w_c5 : (Jvm.Cond.code ({ cls := "java/lang/StringUTF16", name := "compress", desc := "([CI[BII)I" } : Jvm.MethodName) jdk_52_method_21_code (7 : Nat) (Option.some Jvm.ClassFile.FieldType.int)).before args0 about1 = true := code_word (m := ⟨8, 3⟩) (meth := k8m3) (c := k8c3) (by decide +kernel) rfl rfl rfl (by decide +kernel)
set_option maxRecDepth 65536 in
theorem w_c6 : (Jvm.Cond.code ({ cls := "java/lang/StringUTF16", name := "coderFromArrayLen", desc := "([BI)B" } : Jvm.MethodName) jdk_52_method_15_code (2 : Nat) (Option.some Jvm.ClassFile.FieldType.byte)).before args0 about1 = true := code_word (m := ⟨8, 1⟩) (meth := k8m1) (c := k8c1) (by decide +kernel) rfl rfl rfl (by decide +kernel)
set_option maxRecDepth 65536 in
theorem w_c7 : (Jvm.Cond.code ({ cls := "com/example/heft/heft/rank/Parameter", name := "greaterThan", desc := "(Ljava/lang/String;DD)Lcom/example/heft/heft/rank/Parameter;" } : Jvm.MethodName) prog_32_method_3_code (5 : Nat) (Option.some (Jvm.ClassFile.FieldType.object "com/example/heft/heft/rank/Parameter"))).before args0 about1 = true := code_word (m := ⟨9, 1⟩) (meth := k9m1) (c := k9c1) (by decide +kernel) rfl rfl rfl (by decide +kernel)
set_option maxRecDepth 65536 in
theorem w_c8 : (Jvm.Cond.code ({ cls := "com/example/heft/heft/rank/Parameter", name := "<init>", desc := "(Ljava/lang/String;DDZDZ)V" } : Jvm.MethodName) prog_32_method_2_code (10 : Nat) (Option.none : Option Jvm.ClassFile.FieldType)).before args0 about1 = true := code_word (m := ⟨9, 0⟩) (meth := k9m0) (c := k9c0) (by decide +kernel) rfl rfl rfl (by decide +kernel)
set_option maxRecDepth 65536 in
theorem w_c9 : (Jvm.Cond.code ({ cls := "com/example/heft/heft/rank/Parameter", name := "check", desc := "(D)V" } : Jvm.MethodName) prog_32_method_7_code (5 : Nat) (Option.none : Option Jvm.ClassFile.FieldType)).before args0 about1 = true := code_word (m := ⟨9, 4⟩) (meth := k9m4) (c := k9c4) (by decide +kernel) rfl rfl rfl (by decide +kernel)
set_option maxRecDepth 65536 in
theorem w_c10 : (Jvm.Cond.code ({ cls := "java/lang/Double", name := "isFinite", desc := "(D)Z" } : Jvm.MethodName) jdk_117_method_8_code (2 : Nat) (Option.some Jvm.ClassFile.FieldType.boolean)).before args0 about1 = true := code_word (m := ⟨11, 0⟩) (meth := k11m0) (c := k11c0) (by decide +kernel) rfl rfl rfl (by decide +kernel)
set_option maxRecDepth 65536 in
theorem w_c11 : (Jvm.Cond.code ({ cls := "java/lang/Math", name := "abs", desc := "(D)D" } : Jvm.MethodName) jdk_29_method_64_code (2 : Nat) (Option.some Jvm.ClassFile.FieldType.double)).before args0 about1 = true := code_word (m := ⟨12, 1⟩) (meth := k12m1) (c := k12c1) (by decide +kernel) rfl rfl rfl (by decide +kernel)
set_option maxRecDepth 65536 in
theorem w_c12 : (Jvm.Cond.code ({ cls := "com/example/heft/heft/rank/Parameter", name := "name", desc := "()Ljava/lang/String;" } : Jvm.MethodName) prog_32_method_5_code (1 : Nat) (Option.some (Jvm.ClassFile.FieldType.object "java/lang/String"))).before args0 about1 = true := code_word (m := ⟨9, 2⟩) (meth := k9m2) (c := k9c2) (by decide +kernel) rfl rfl rfl (by decide +kernel)
set_option maxRecDepth 65536 in
theorem w_c13 : (Jvm.Cond.code ({ cls := "java/lang/String", name := "equals", desc := "(Ljava/lang/Object;)Z" } : Jvm.MethodName) jdk_42_method_66_code (3 : Nat) (Option.some Jvm.ClassFile.FieldType.boolean)).before args0 about1 = true := code_word (m := ⟨7, 2⟩) (meth := k7m2) (c := k7c2) (by decide +kernel) rfl rfl rfl (by decide +kernel)
set_option maxRecDepth 65536 in
theorem w_c14 : (Jvm.Cond.code ({ cls := "com/example/heft/heft/rank/Parameter", name := "defaultValue", desc := "()D" } : Jvm.MethodName) prog_32_method_6_code (1 : Nat) (Option.some Jvm.ClassFile.FieldType.double)).before args0 about1 = true := code_word (m := ⟨9, 3⟩) (meth := k9m3) (c := k9c3) (by decide +kernel) rfl rfl rfl (by decide +kernel)
def codes1 : List Jvm.Cond := [Jvm.Cond.code x code maxLocals ret, Jvm.Cond.code ({ cls := "java/lang/String", name := "<init>", desc := "([C)V" } : Jvm.MethodName) jdk_42_method_3_code (2 : Nat) (Option.none : Option Jvm.ClassFile.FieldType), Jvm.Cond.code ({ cls := "java/lang/String", name := "<init>", desc := "([CIILjava/lang/Void;)V" } : Jvm.MethodName) jdk_42_method_149_code (6 : Nat) (Option.none : Option Jvm.ClassFile.FieldType), Jvm.Cond.code ({ cls := "java/lang/Object", name := "<init>", desc := "()V" } : Jvm.MethodName) object_method_1_code (1 : Nat) (Option.none : Option Jvm.ClassFile.FieldType), Jvm.Cond.code ({ cls := "java/lang/StringUTF16", name := "compress", desc := "([CII)[B" } : Jvm.MethodName) jdk_52_method_16_code (6 : Nat) (Option.some (Jvm.ClassFile.FieldType.array Jvm.ClassFile.FieldType.byte)), Jvm.Cond.code ({ cls := "java/lang/StringUTF16", name := "compress", desc := "([CI[BII)I" } : Jvm.MethodName) jdk_52_method_21_code (7 : Nat) (Option.some Jvm.ClassFile.FieldType.int), Jvm.Cond.code ({ cls := "java/lang/StringUTF16", name := "coderFromArrayLen", desc := "([BI)B" } : Jvm.MethodName) jdk_52_method_15_code (2 : Nat) (Option.some Jvm.ClassFile.FieldType.byte), Jvm.Cond.code ({ cls := "com/example/heft/heft/rank/Parameter", name := "greaterThan", desc := "(Ljava/lang/String;DD)Lcom/example/heft/heft/rank/Parameter;" } : Jvm.MethodName) prog_32_method_3_code (5 : Nat) (Option.some (Jvm.ClassFile.FieldType.object "com/example/heft/heft/rank/Parameter")), Jvm.Cond.code ({ cls := "com/example/heft/heft/rank/Parameter", name := "<init>", desc := "(Ljava/lang/String;DDZDZ)V" } : Jvm.MethodName) prog_32_method_2_code (10 : Nat) (Option.none : Option Jvm.ClassFile.FieldType), Jvm.Cond.code ({ cls := "com/example/heft/heft/rank/Parameter", name := "check", desc := "(D)V" } : Jvm.MethodName) prog_32_method_7_code (5 : Nat) (Option.none : Option Jvm.ClassFile.FieldType), Jvm.Cond.code ({ cls := "java/lang/Double", name := "isFinite", desc := "(D)Z" } : Jvm.MethodName) jdk_117_method_8_code (2 : Nat) (Option.some Jvm.ClassFile.FieldType.boolean), Jvm.Cond.code ({ cls := "java/lang/Math", name := "abs", desc := "(D)D" } : Jvm.MethodName) jdk_29_method_64_code (2 : Nat) (Option.some Jvm.ClassFile.FieldType.double), Jvm.Cond.code ({ cls := "com/example/heft/heft/rank/Parameter", name := "name", desc := "()Ljava/lang/String;" } : Jvm.MethodName) prog_32_method_5_code (1 : Nat) (Option.some (Jvm.ClassFile.FieldType.object "java/lang/String")), Jvm.Cond.code ({ cls := "java/lang/String", name := "equals", desc := "(Ljava/lang/Object;)Z" } : Jvm.MethodName) jdk_42_method_66_code (3 : Nat) (Option.some Jvm.ClassFile.FieldType.boolean), Jvm.Cond.code ({ cls := "com/example/heft/heft/rank/Parameter", name := "defaultValue", desc := "()D" } : Jvm.MethodName) prog_32_method_6_code (1 : Nat) (Option.some Jvm.ClassFile.FieldType.double)]
set_option maxRecDepth 65536 in
theorem codes_eq : words1.filter isCode = codes1 := rfl
theorem w_codes : ∀ c ∈ words1.filter isCode, c.before args0 about1 = true := by
  rw [codes_eq]
  intro c hc
  simp only [codes1, List.mem_cons, List.not_mem_nil, or_false] at hc
  rcases hc with rfl | rfl | rfl | rfl | rfl | rfl | rfl | rfl | rfl | rfl | rfl | rfl | rfl | rfl | rfl
  · exact w_c0
  · exact w_c1
  · exact w_c2
  · exact w_c3
  · exact w_c4
  · exact w_c5
  · exact w_c6
  · exact w_c7
  · exact w_c8
  · exact w_c9
  · exact w_c10
  · exact w_c11
  · exact w_c12
  · exact w_c13
  · exact w_c14
set_option maxRecDepth 65536 in
theorem w_t1 : (words1.take 24).all (fun c => isCode c || c.before args0 about1) = true := by decide +kernel
set_option maxRecDepth 65536 in
theorem w_t2 : ((words1.drop 24).take 24).all (fun c => isCode c || c.before args0 about1) = true := by decide +kernel
set_option maxRecDepth 65536 in
theorem w_t3 : (((words1.drop 24).drop 24).take 24).all (fun c => isCode c || c.before args0 about1) = true := by decide +kernel
set_option maxRecDepth 65536 in
theorem w_t4 : (((words1.drop 24).drop 24).drop 24).all (fun c => isCode c || c.before args0 about1) = true := by decide +kernel
theorem w_tables : (allAtoms (Jvm.Cond.code x code maxLocals ret :: tables_1)).before args0 about1 = true := by
  rw [allAtoms_all]
  show words1.all (fun c => c.before args0 about1) = true
  refine all_split ?_ w_codes
  rw [← List.take_append_drop 24 words1, List.all_append, w_t1, ← List.take_append_drop 24 (words1.drop 24), List.all_append, w_t2, ← List.take_append_drop 24 ((words1.drop 24).drop 24), List.all_append, w_t3, w_t4]
  rfl
set_option maxRecDepth 65536 in
theorem w_rest : rest_1_c.before args0 about1 = true := by decide +kernel
set_option maxRecDepth 65536 in
theorem w_case : (Jvm.Cond.and given_1 narrow_1).before args0 about1 = true := by decide +kernel
theorem w_applies : (headSpec (Jvm.Cond.code x code maxLocals ret :: tables_1) room_1).applies x e0.platform about1 = true :=
  (Spec.applies_iff w_frames).mpr ⟨w_running, w_runnable, w_alone, w_named, w_hears, w_ripe, w_room, w_tables⟩
theorem atStart : AtStart classFile x code maxLocals ret World_1 tables_1 room_1 Calls_1 rest_1 Pre_1 launch0 p0 e0 about1 theMethod args0 below0 :=
  ⟨lists_1, trivial, launch0.admits_env _ _ _, launch0.least_env, fairChoices_fair.cas, fairChoices_fair.clock, w_frames, w_args, w_heap, w_applies, trivial, w_rest, w_case⟩
end start1
theorem witness_1 : WitnessClaimed_1 := ⟨start1.p0, start1.e0, start1.about1, start1.theMethod, start1.args0, start1.below0, start1.atStart⟩
end Jvm.Pilot.@@N@@
